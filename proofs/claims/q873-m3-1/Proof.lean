import JvmDerived
import JvmDerived.Pilot.@@N@@Statement
import JvmDerived.Pilot.@@N@@Code
set_option linter.unusedVariables false
set_option linter.unusedSimpArgs false
namespace Jvm.RoadKit
open Sem ClassFile Op Lib Jvm.Stand Jvm.Free Jvm.LawKit
section OwnNew
variable {p : Program} {l : Launch} {e : Env} {R : Room} {s : State} {m : MethodId} {args : Array Value} {below : List Frame} {meth : Method} {c : Code} {T : State} {locs : List Loc} {cells slots : Nat}
theorem retI (X : Stand p l e R s m args below meth c T locs cells slots) (hx : p.tables.exec = Jvm.exec) {pc : Nat} {Ls : Array Slot} {z : Int32} {rest : List Value} (hret : meth.sig.returnType = some .int) (hd : decode c.code pc = .ok (.ireturn, 1)) {fs : List Frame}
    (hl : ∀ (f : JFrame) (acts : List Action), f.method = m → f.locked = none → f.entered = [] → (doReturn e (T.setTop f) acts (some (.int z))).1 = T.setFrames fs) : Steps p.tables e below (T.setTop (mkF m pc Ls (.int z :: rest))) (T.setFrames fs) := by
  have hm' : T.vm.method? m = some meth := X.method'
  have hn : narrow .int (.int z) = .int z := rfl
  show Steps p.tables e below (T.setTop { method := m, pc := pc, locals := Ls, stack := _ :: rest, locked := none }) _
  jvm_step X.here [X.here.top, hx, hd, hm', hret, hn]
  first | (intro acts; rw [hl _ acts rfl rfl rfl]) | rw [hl _ _ rfl rfl rfl]
  exact Steps.refl _
/-- from S the run comes to an end of this invocation at which K holds -/
def OFin (p : Program) (e : Env) (below : List Frame) (K : Outcome → State → Prop) (S : State) : Prop := ∃ s₂ o, Steps p.tables e below S s₂ ∧ s₂.status = .running ∧ Ended s₂ below o ∧ K o s₂
theorem OFin.of {K : Outcome → State → Prop} {S S' : State} (h : ∀ t, Steps p.tables e below S' t → Steps p.tables e below S t) (k : OFin p e below K S') : OFin p e below K S := by
  obtain ⟨t, o, a, b⟩ := k; exact ⟨t, o, h t a, b⟩
theorem OFin.to {K : Outcome → State → Prop} {S S' : State} (h : Steps p.tables e below S S') (k : OFin p e below K S') : OFin p e below K S := by
  obtain ⟨t, o, a, b⟩ := k; exact ⟨t, o, h.trans a, b⟩
abbrev KPost (s : State) (Q : Option Value → Heap → List Loc → Prop) (C D : Nat) : Outcome → State → Prop := fun o U' => ∃ v L, o = .returned v ∧ Q v U'.heap L ∧ FrameEnd s o U' L C D
theorem OFin.retI (X : Stand p l e R s m args below meth c T locs cells slots) (hx : p.tables.exec = Jvm.exec) (hlk : meth.locks = false) {pc : Nat} {Ls : Array Slot} {z : Int32} {rest : List Value} {Q : Option Value → Heap → List Loc → Prop} {C D : Nat} (hret : meth.sig.returnType = some .int) (hd : decode c.code pc = .ok (.ireturn, 1)) (hC : cells ≤ C) (hD : slots ≤ D) (hQ : Q (some (.int z)) T.heap locs) :
    OFin p e below (KPost s Q C D) (T.setTop (mkF m pc Ls (.int z :: rest))) := by
  obtain ⟨fs, hr, hrun, hended, hW, hsame⟩ := X.leave (v := some (.int z)) (fun h => by rw [hret] at h; cases h) hlk
  exact ⟨_, _, Jvm.RoadKit.retI X hx hret hd hr, hrun, hended, _, _, rfl, hQ, ⟨_, rfl⟩, hW, hsame.mono hC hD⟩
theorem OFin.retB (X : Stand p l e R s m args below meth c T locs cells slots) (hx : p.tables.exec = Jvm.exec) (hlk : meth.locks = false) {pc : Nat} {Ls : Array Slot} {z : Int32} {rest : List Value} {Q : Option Value → Heap → List Loc → Prop} {C D : Nat} {t : FieldType} (ht : t = .boolean ∨ t = .byte ∨ t = .char ∨ t = .short) (hret : meth.sig.returnType = some t) (hd : decode c.code pc = .ok (.ireturn, 1)) (hC : cells ≤ C) (hD : slots ≤ D) (hQ : Q (some (.int (nar t z))) T.heap locs) :
    OFin p e below (KPost s Q C D) (T.setTop (mkF m pc Ls (.int z :: rest))) := by
  obtain ⟨fs, hr, hrun, hended, hW, hsame⟩ := X.leave (v := some (.int (nar t z))) (fun h => by rw [hret] at h; cases h) hlk
  exact ⟨_, _, retN X hx hret ht hd hr, hrun, hended, _, _, rfl, hQ, ⟨_, rfl⟩, hW, hsame.mono hC hD⟩
theorem OFin.retJ (X : Stand p l e R s m args below meth c T locs cells slots) (hx : p.tables.exec = Jvm.exec) (hlk : meth.locks = false) {pc : Nat} {Ls : Array Slot} {z : Int64} {Q : Option Value → Heap → List Loc → Prop} {C D : Nat} (hret : meth.sig.returnType = some .long) (hd : decode c.code pc = .ok (.lreturn, 1)) (hC : cells ≤ C) (hD : slots ≤ D) (hQ : Q (some (.long z)) T.heap locs) :
    OFin p e below (KPost s Q C D) (T.setTop (mkF m pc Ls [.long z])) := by
  obtain ⟨fs, hr, hrun, hended, hW, hsame⟩ := X.leave (v := some (.long z)) (fun h => by rw [hret] at h; cases h) hlk
  exact ⟨_, _, X.lreturnOut hx hret hd hr, hrun, hended, _, _, rfl, hQ, ⟨_, rfl⟩, hW, hsame.mono hC hD⟩
theorem OFin.retA (X : Stand p l e R s m args below meth c T locs cells slots) (hx : p.tables.exec = Jvm.exec) (hlk : meth.locks = false) {pc : Nat} {Ls : Array Slot} {z : Value} {Q : Option Value → Heap → List Loc → Prop} {C D : Nat} {t : FieldType} (ht : t.isReference = true) (hz : z.isRef = true) (hret : meth.sig.returnType = some t) (hd : decode c.code pc = .ok (.areturn, 1)) (hC : cells ≤ C) (hD : slots ≤ D) (hQ : Q (some z) T.heap locs) :
    OFin p e below (KPost s Q C D) (T.setTop (mkF m pc Ls [z])) := by
  obtain ⟨fs, hr, hrun, hended, hW, hsame⟩ := X.leave (v := some z) (fun h => by rw [hret] at h; cases h) hlk
  exact ⟨_, _, X.areturnOut hx hz hret ht hd hr, hrun, hended, _, _, rfl, hQ, ⟨_, rfl⟩, hW, hsame.mono hC hD⟩
theorem OFin.retD (X : Stand p l e R s m args below meth c T locs cells slots) (hx : p.tables.exec = Jvm.exec) (hlk : meth.locks = false) {pc : Nat} {Ls : Array Slot} {z : UInt64} {rest : List Value} {Q : Option Value → Heap → List Loc → Prop} {C D : Nat} (hret : meth.sig.returnType = some .double) (hd : decode c.code pc = .ok (.dreturn, 1)) (hC : cells ≤ C) (hD : slots ≤ D) (hQ : Q (some (.double z)) T.heap locs) :
    OFin p e below (KPost s Q C D) (T.setTop (mkF m pc Ls (.double z :: rest))) := by
  obtain ⟨fs, hr, hrun, hended, hW, hsame⟩ := X.leave (v := some (.double z)) (fun h => by rw [hret] at h; cases h) hlk
  exact ⟨_, _, retOut X hx hret rfl (Or.inr (Or.inr (Or.inl ⟨rfl, rfl, z, rfl⟩))) hd hr, hrun, hended, _, _, rfl, hQ, ⟨_, rfl⟩, hW, hsame.mono hC hD⟩
theorem OFin.retV (X : Stand p l e R s m args below meth c T locs cells slots) (hx : p.tables.exec = Jvm.exec) (hlk : meth.locks = false) {pc : Nat} {Ls : Array Slot} {Q : Option Value → Heap → List Loc → Prop} {C D : Nat} (hret : meth.sig.returnType = none) (hd : decode c.code pc = .ok (.return_, 1)) (hC : cells ≤ C) (hD : slots ≤ D) (hQ : Q none T.heap locs) :
    OFin p e below (KPost s Q C D) (T.setTop (mkF m pc Ls [])) := by
  obtain ⟨fs, hr, hrun, hended, hW, hsame⟩ := X.leave (v := none) (fun _ => rfl) hlk
  exact ⟨_, _, X.returnOut hx hret hd hr, hrun, hended, _, _, rfl, hQ, ⟨_, rfl⟩, hW, hsame.mono hC hD⟩
abbrev KPostW (s : State) (Q : Option Value → Heap → List Loc → Prop) (C D : Nat) : Outcome → State → Prop := fun o U' => ∃ v L, o = .returned v ∧ Q v U'.heap L ∧ ReturnedEndW s o U' L C D
theorem OFin.retBW {vm₁ : Vm} {k : Nat} (X : Stand p l e R (s.setVm vm₁) m args below meth c T locs cells slots) (hS : s.Since vm₁ k) (hk : k ≤ T.heap.size) (hx : p.tables.exec = Jvm.exec) (hlk : meth.locks = false) {pc : Nat} {Ls : Array Slot} {z : Int32} {rest : List Value} {Q : Option Value → Heap → List Loc → Prop} {C D : Nat} {t : FieldType} (ht : t = .boolean ∨ t = .byte ∨ t = .char ∨ t = .short) (hret : meth.sig.returnType = some t) (hd : decode c.code pc = .ok (.ireturn, 1)) (hC : cells ≤ C) (hD : slots ≤ D) (hQ : Q (some (.int (nar t z))) T.heap locs) :
    OFin p e below (KPostW s Q C D) (T.setTop (mkF m pc Ls (.int z :: rest))) := by
  obtain ⟨fs, hr, hrun, hended, h1, h2, h3, h4⟩ := X.leaveW hS hk (v := some (.int (nar t z))) (fun h => by rw [hret] at h; cases h) hlk
  exact ⟨_, _, retN X hx hret ht hd hr, hrun, hended, _, _, rfl, hQ, ⟨_, rfl⟩, h2, h3, h4.mono hC hD⟩
theorem own_alen {Z : State} {h : Heap} {a : Addr} {cl : Cell} {ty : FieldType} {z : Int32} {g : JFrame} {rest : List Value} {target : State} (X : Stand p l e R s m args below meth c T locs cells slots) (hx : p.tables.exec = Jvm.exec) (hZ : Z.Warmed39 s.vm) (eT : T.heap = h) (A : Arr Z h a cl ty) (S : cl.slots.size = z.toNatClampNeg) (q : ¬ z < 0) (hg : g.method = m) (hs : g.stack = .ref a :: rest) (hd : decode c.code g.pc = .ok (.arraylength, 1))
    (hr : Steps p.tables e below (T.setTop { g with pc := g.pc + 1, stack := .int z :: rest }) target) : Steps p.tables e below (T.setTop g) target := by
  refine X.arraylength hx (by rw [eT]; exact A.1) (State.isArrayOf_alike hZ.alike A.2.1) hg hs hd _ ?_
  rw [len_of S q]; exact hr
def OwnNoSta (h : Heap) (ws : List Addr) : Prop := ∀ x ∈ ws, ∀ cell : Cell, h[x]? = some cell → cell.vm.isStatics = false
theorem own_sn0 {h : Heap} : OwnNoSta h [] := fun _ q => nomatch q
theorem own_snS {Z : State} {h : Heap} {a : Addr} {C : String} {ws : List Addr} (E : Exa Z h a C) (r : OwnNoSta h ws) : OwnNoSta h (a :: ws) := fun x q cell hc => by
  rcases List.mem_cons.mp q with rfl | q
  · obtain ⟨c', _, h1, -, -, h4, -⟩ := E; cases h1.symm.trans hc; exact h4
  · exact r x q cell hc
theorem own_snV {Z : State} {h : Heap} {a : Addr} {k : ClassId} {ty : FieldType} {z : Int32} {vs : List Value} {dv : Value} {ws : List Addr} (F : Arv Z h a k ty z vs dv) (r : OwnNoSta h ws) : OwnNoSta h (a :: ws) := fun x q cell hc => by
  rcases List.mem_cons.mp q with rfl | q
  · obtain ⟨c', A, -⟩ := F; cases A.1.symm.trans hc; exact A.plain
  · exact r x q cell hc
theorem own_staKeep {Z : State} {h h' : Heap} {C n d : String} {v : Value} {ws : List Addr} (F : Sta Z h C n d v) (K : Keep h h' ws) (q : OwnNoSta h ws) : Sta Z h' C n d v := by
  obtain ⟨cf, i, k, f, st, cell, h1, h2, h3, h4, h5, h6, h7⟩ := F
  refine ⟨cf, i, k, f, st, cell, h1, h2, h3, h4, K.2.1 st cell h5 (fun z => ?_), h6, h7⟩
  have := q st z cell h5
  rw [this] at h6; cases h6
theorem own_pop2L {tb : Tables} [Ours tb] {e : Env} {below : List Frame} {T target : State} {m : MethodId} {c : Code} {g : JFrame} (h : At T m c below) (hx : tb.exec = Jvm.exec) (hg : g.method = m) {x : Int64} {rest : List Value} (hd : decode c.code g.pc = .ok (.pop2, 1)) (hs : g.stack = .long x :: rest)
    (hr : Steps tb e below (T.setTop { g with pc := g.pc + 1, stack := rest }) target) : Steps tb e below (T.setTop g) target := by
  subst hg
  jvm_step h [h.top, hx, hd, hs, Value.category]
  exact hr
def OwnMet (E : Int32) (h0 : Heap) (n0 : Nat) (v : Option Value) (h : Heap) (L : List Loc) : Prop := v = some (.int E) ∧ Fr n0 L ∧ h = h0
end OwnNew
end Jvm.RoadKit
namespace Jvm.Pilot.@@N@@
open Jvm Jvm.ClassFile Sem Op Lib Jvm.Free Jvm.Stand Jvm.LawKit Jvm.RoadKit Bundle Jvm.Pilot.@@N@@.Jvm.D
theorem pd_0 : parseMethodDescriptor "([B[B)Z" = some ⟨[(.array .byte), (.array .byte)], some .boolean⟩ := by decide +kernel
theorem pd_1 : parseMethodDescriptor "([CI[BII)I" = some ⟨[(.array .char), .int, (.array .byte), .int, .int], some .int⟩ := by decide +kernel
theorem pd_2 : parseMethodDescriptor "([CII)[B" = some ⟨[(.array .char), .int, .int], some (.array .byte)⟩ := by decide +kernel
theorem pd_3 : parseMethodDescriptor "([BI)B" = some ⟨[(.array .byte), .int], some .byte⟩ := by decide +kernel
theorem pd_4 : parseMethodDescriptor "([CIILjava/lang/Void;)V" = some ⟨[(.array .char), .int, .int, (.object "java/lang/Void")], none⟩ := by decide +kernel
theorem pd_5 : parseMethodDescriptor "(Ljava/lang/Object;)Z" = some ⟨[(.object "java/lang/Object")], some .boolean⟩ := by decide +kernel
theorem pd_6 : parseMethodDescriptor "(JJ)J" = some ⟨[.long, .long], some .long⟩ := by decide +kernel
theorem pd_7 : parseMethodDescriptor "(Ljava/lang/String;JJ)V" = some ⟨[(.object "java/lang/String"), .long, .long], none⟩ := by decide +kernel
theorem pd_8 : parseMethodDescriptor "(Lcom/example/greylag/greylag/model/Bundle;)Z" = some ⟨[(.object "com/example/greylag/greylag/model/Bundle")], some .boolean⟩ := by decide +kernel
theorem pd_9 : parseMethodDescriptor "([C)V" = some ⟨[(.array .char)], none⟩ := by decide +kernel
def own_lmin (x y : Int64) : Int64 := if (0 : Int32) < lcmpW x y then y else x
def own_lmax (x y : Int64) : Int64 := if lcmpW x y < (0 : Int32) then y else x
def own_cont (E : Int32) (l1 u1 l2 u2 : Int64) : Int32 := if E = 0 then 0 else if (0 : Int32) < lcmpW l1 l2 then 0 else if (0 : Int32) < lcmpW u2 u1 then 0 else 1
theorem dMn_0 : decode jdk_29_method_70_code 0 = .ok (.lload_n 0, 1) := by decide +kernel
theorem dMn_1 : decode jdk_29_method_70_code 1 = .ok (.lload_n 2, 1) := by decide +kernel
theorem dMn_2 : decode jdk_29_method_70_code 2 = .ok (.lcmp, 1) := by decide +kernel
theorem dMn_3 : decode jdk_29_method_70_code 3 = .ok (.ifCond .gt 7, 3) := by decide +kernel
theorem dMn_6 : decode jdk_29_method_70_code 6 = .ok (.lload_n 0, 1) := by decide +kernel
theorem dMn_7 : decode jdk_29_method_70_code 7 = .ok (.goto 4, 3) := by decide +kernel
theorem dMn_10 : decode jdk_29_method_70_code 10 = .ok (.lload_n 2, 1) := by decide +kernel
theorem dMn_11 : decode jdk_29_method_70_code 11 = .ok (.lreturn, 1) := by decide +kernel
theorem efMn (m : MethodId) (q0 : Int64) (q1 : Int64) : entryFrame m #[(.long q0), (.long q1)] 4 = mkF m 0 #[.val (.long q0), .second, .val (.long q1), .second] [] := by first | (simp [entryFrame, mkF, argsToLocals, Value.category]; done) | rfl
def QMn (Z : State) (q0 : Int64) (q1 : Int64) (h0 : Heap) (n0 : Nat) (v : Option Value) (h : Heap) (L : List Loc) : Prop := v = some (.long (own_lmin q0 q1)) ∧ Fr n0 L ∧ h = h0
set_option maxRecDepth 65536 in
set_option maxHeartbeats 40000000 in
theorem rmMn (l : Launch) (Z : State) (a0 : Array Value) (hw : ∀ d ∈ tables_1, d.before a0 Z = true) (ws : List Jvm.Cond) (q0 : Int64) (q1 : Int64) (h0 : Heap) (n0 : Nat) (Z0 : n0 ≤ h0.size)  :
    MetFree l (⟨"java/lang/Math", "min", "(JJ)J"⟩ : MethodName) (head1 (Jvm.Cond.code (⟨"java/lang/Math", "min", "(JJ)J"⟩ : MethodName) jdk_29_method_70_code 4 (some .long) :: ws) ({ frames := 0, cells := 0, slots := 0, locals := 0 } : Room)) (fun a U => a = #[(.long q0), (.long q1)] ∧ Z.Warmed39 U.vm ∧ U.heap = h0) (fun _ _ _ _ _ => True) (fun _ U o U' => ∃ v L, o = .returned v ∧ QMn Z q0 q1 h0 n0 v U'.heap L ∧ FrameEnd U o U' L ({ frames := 0, cells := 0, slots := 0, locals := 0 } : Room).cells ({ frames := 0, cells := 0, slots := 0, locals := 0 } : Room).slots) := by
  refine MetFree.of_bodySF (Jvm.Free.JP.mathPlain rfl (by decide +kernel)) hisR ?_
  intro p e s m args below meth c s₁ Bd hml0 hP hK
  obtain ⟨rfl, hZ, hh⟩ := hP
  have hx := Bd.exec
  have hby := Bd.bytes
  have hlk := BodyLoose.notSynchronized Bd
  have hret := Bd.returns
  have hml : c.maxLocals = 4 := hml0
  have hown : s.vm.findClass "java/lang/Math" = some m.cls := findClass_of_methodNamed Bd.named
  have hnm := (name_of_methodNamed Bd.named Bd.method).1
  have X0 : Stand p l e ({ frames := 0, cells := 0, slots := 0, locals := 0 } : Room) s m #[(.long q0), (.long q1)] below meth c s₁ [] 0 0 := Stand.of_body Bd
  have e0 : s₁.heap = h0 := by rw [← hh, Bd.state]; rfl
  have N0 := Fr.nil n0
  show OFin p e below (KPost s (QMn Z q0 q1 h0 n0) ({ frames := 0, cells := 0, slots := 0, locals := 0 } : Room).cells ({ frames := 0, cells := 0, slots := 0, locals := 0 } : Room).slots) _
  rw [efMn m q0 q1]
  refine OFin.of (S' := s₁.setTop (mkF m 3 #[.val (.long q0), .second, .val (.long q1), .second] [(.int (lcmpW q0 q1))])) (fun t ht => ?_) ?_
  · refine XS.lloadN X0.here hx rfl (hb hby dMn_0) rfl ?_
    show Steps p.tables e below (s₁.setTop (mkF m 1 _ [(.long q0)])) _
    refine XS.lloadN X0.here hx rfl (hb hby dMn_1) rfl ?_
    show Steps p.tables e below (s₁.setTop (mkF m 2 _ [(.long q1), (.long q0)])) _
    refine XS.lcmp X0.here hx rfl (hb hby dMn_2) rfl ?_
    exact ht
  by_cases hc1 : (0 : Int32) < (lcmpW q0 q1)
  · refine OFin.of (S' := s₁.setTop (mkF m 11 #[.val (.long q0), .second, .val (.long q1), .second] [(.long q1)])) (fun t ht => ?_) ?_
    · refine XS.ifYes X0.here hx rfl (pc0 := 3) (pc' := 10) rfl (hb hby dMn_3) rfl ((if0 _ _).trans (tlt (hc1 : (0 : Int32) < (lcmpW q0 q1))).2.2.1) (by decide) (by decide) ?_
      show Steps p.tables e below (s₁.setTop (mkF m 10 _ [])) _
      refine XS.lloadN X0.here hx rfl (hb hby dMn_10) rfl ?_
      exact ht
    exact OFin.retJ X0 hx hlk hret (hb hby dMn_11) (by decide) (by decide) (by rw [e0]; exact ⟨(by show some (Value.long q1) = _; simp [own_lmin, hc1]), N0, rfl⟩)
  · refine OFin.of (S' := s₁.setTop (mkF m 11 #[.val (.long q0), .second, .val (.long q1), .second] [(.long q0)])) (fun t ht => ?_) ?_
    · refine XS.ifNo X0.here hx rfl (hb hby dMn_3) rfl ((if0 _ _).trans (flt (hc1 : ¬ ((0 : Int32) < (lcmpW q0 q1)))).2.2.1) ?_
      show Steps p.tables e below (s₁.setTop (mkF m 6 _ [])) _
      refine XS.lloadN X0.here hx rfl (hb hby dMn_6) rfl ?_
      show Steps p.tables e below (s₁.setTop (mkF m 7 _ [(.long q0)])) _
      refine XS.goto X0.here hx rfl (pc0 := 7) (pc' := 11) rfl (hb hby dMn_7) (by decide) (by decide) ?_
      exact ht
    exact OFin.retJ X0 hx hlk hret (hb hby dMn_11) (by decide) (by decide) (by rw [e0]; exact ⟨(by show some (Value.long q0) = _; simp [own_lmin, hc1]), N0, rfl⟩)
theorem dMx_0 : decode jdk_29_method_66_code 0 = .ok (.lload_n 0, 1) := by decide +kernel
theorem dMx_1 : decode jdk_29_method_66_code 1 = .ok (.lload_n 2, 1) := by decide +kernel
theorem dMx_2 : decode jdk_29_method_66_code 2 = .ok (.lcmp, 1) := by decide +kernel
theorem dMx_3 : decode jdk_29_method_66_code 3 = .ok (.ifCond .lt 7, 3) := by decide +kernel
theorem dMx_6 : decode jdk_29_method_66_code 6 = .ok (.lload_n 0, 1) := by decide +kernel
theorem dMx_7 : decode jdk_29_method_66_code 7 = .ok (.goto 4, 3) := by decide +kernel
theorem dMx_10 : decode jdk_29_method_66_code 10 = .ok (.lload_n 2, 1) := by decide +kernel
theorem dMx_11 : decode jdk_29_method_66_code 11 = .ok (.lreturn, 1) := by decide +kernel
theorem efMx (m : MethodId) (q0 : Int64) (q1 : Int64) : entryFrame m #[(.long q0), (.long q1)] 4 = mkF m 0 #[.val (.long q0), .second, .val (.long q1), .second] [] := by first | (simp [entryFrame, mkF, argsToLocals, Value.category]; done) | rfl
def QMx (Z : State) (q0 : Int64) (q1 : Int64) (h0 : Heap) (n0 : Nat) (v : Option Value) (h : Heap) (L : List Loc) : Prop := v = some (.long (own_lmax q0 q1)) ∧ Fr n0 L ∧ h = h0
set_option maxRecDepth 65536 in
set_option maxHeartbeats 40000000 in
theorem rmMx (l : Launch) (Z : State) (a0 : Array Value) (hw : ∀ d ∈ tables_1, d.before a0 Z = true) (ws : List Jvm.Cond) (q0 : Int64) (q1 : Int64) (h0 : Heap) (n0 : Nat) (Z0 : n0 ≤ h0.size)  :
    MetFree l (⟨"java/lang/Math", "max", "(JJ)J"⟩ : MethodName) (head1 (Jvm.Cond.code (⟨"java/lang/Math", "max", "(JJ)J"⟩ : MethodName) jdk_29_method_66_code 4 (some .long) :: ws) ({ frames := 0, cells := 0, slots := 0, locals := 0 } : Room)) (fun a U => a = #[(.long q0), (.long q1)] ∧ Z.Warmed39 U.vm ∧ U.heap = h0) (fun _ _ _ _ _ => True) (fun _ U o U' => ∃ v L, o = .returned v ∧ QMx Z q0 q1 h0 n0 v U'.heap L ∧ FrameEnd U o U' L ({ frames := 0, cells := 0, slots := 0, locals := 0 } : Room).cells ({ frames := 0, cells := 0, slots := 0, locals := 0 } : Room).slots) := by
  refine MetFree.of_bodySF (Jvm.Free.JP.mathPlain rfl (by decide +kernel)) hisR ?_
  intro p e s m args below meth c s₁ Bd hml0 hP hK
  obtain ⟨rfl, hZ, hh⟩ := hP
  have hx := Bd.exec
  have hby := Bd.bytes
  have hlk := BodyLoose.notSynchronized Bd
  have hret := Bd.returns
  have hml : c.maxLocals = 4 := hml0
  have hown : s.vm.findClass "java/lang/Math" = some m.cls := findClass_of_methodNamed Bd.named
  have hnm := (name_of_methodNamed Bd.named Bd.method).1
  have X0 : Stand p l e ({ frames := 0, cells := 0, slots := 0, locals := 0 } : Room) s m #[(.long q0), (.long q1)] below meth c s₁ [] 0 0 := Stand.of_body Bd
  have e0 : s₁.heap = h0 := by rw [← hh, Bd.state]; rfl
  have N0 := Fr.nil n0
  show OFin p e below (KPost s (QMx Z q0 q1 h0 n0) ({ frames := 0, cells := 0, slots := 0, locals := 0 } : Room).cells ({ frames := 0, cells := 0, slots := 0, locals := 0 } : Room).slots) _
  rw [efMx m q0 q1]
  refine OFin.of (S' := s₁.setTop (mkF m 3 #[.val (.long q0), .second, .val (.long q1), .second] [(.int (lcmpW q0 q1))])) (fun t ht => ?_) ?_
  · refine XS.lloadN X0.here hx rfl (hb hby dMx_0) rfl ?_
    show Steps p.tables e below (s₁.setTop (mkF m 1 _ [(.long q0)])) _
    refine XS.lloadN X0.here hx rfl (hb hby dMx_1) rfl ?_
    show Steps p.tables e below (s₁.setTop (mkF m 2 _ [(.long q1), (.long q0)])) _
    refine XS.lcmp X0.here hx rfl (hb hby dMx_2) rfl ?_
    exact ht
  by_cases hc1 : (lcmpW q0 q1) < (0 : Int32)
  · refine OFin.of (S' := s₁.setTop (mkF m 11 #[.val (.long q0), .second, .val (.long q1), .second] [(.long q1)])) (fun t ht => ?_) ?_
    · refine XS.ifYes X0.here hx rfl (pc0 := 3) (pc' := 10) rfl (hb hby dMx_3) rfl ((if0 _ _).trans (tlt (hc1 : (lcmpW q0 q1) < (0 : Int32))).1) (by decide) (by decide) ?_
      show Steps p.tables e below (s₁.setTop (mkF m 10 _ [])) _
      refine XS.lloadN X0.here hx rfl (hb hby dMx_10) rfl ?_
      exact ht
    exact OFin.retJ X0 hx hlk hret (hb hby dMx_11) (by decide) (by decide) (by rw [e0]; exact ⟨(by show some (Value.long q1) = _; simp [own_lmax, hc1]), N0, rfl⟩)
  · refine OFin.of (S' := s₁.setTop (mkF m 11 #[.val (.long q0), .second, .val (.long q1), .second] [(.long q0)])) (fun t ht => ?_) ?_
    · refine XS.ifNo X0.here hx rfl (hb hby dMx_3) rfl ((if0 _ _).trans (flt (hc1 : ¬ ((lcmpW q0 q1) < (0 : Int32)))).1) ?_
      show Steps p.tables e below (s₁.setTop (mkF m 6 _ [])) _
      refine XS.lloadN X0.here hx rfl (hb hby dMx_6) rfl ?_
      show Steps p.tables e below (s₁.setTop (mkF m 7 _ [(.long q0)])) _
      refine XS.goto X0.here hx rfl (pc0 := 7) (pc' := 11) rfl (hb hby dMx_7) (by decide) (by decide) ?_
      exact ht
    exact OFin.retJ X0 hx hlk hret (hb hby dMx_11) (by decide) (by decide) (by rw [e0]; exact ⟨(by show some (Value.long q0) = _; simp [own_lmax, hc1]), N0, rfl⟩)
theorem dIni_0 : decode prog_27_method_1_code 0 = .ok (.aload_n 0, 1) := by decide +kernel
theorem dIni_1 : decode prog_27_method_1_code 1 = .ok (.invokespecial 1, 3) := by decide +kernel
theorem dIni_4 : decode prog_27_method_1_code 4 = .ok (.aload_n 0, 1) := by decide +kernel
theorem dIni_5 : decode prog_27_method_1_code 5 = .ok (.aload_n 1, 1) := by decide +kernel
theorem dIni_6 : decode prog_27_method_1_code 6 = .ok (.putfield 7, 3) := by decide +kernel
theorem dIni_9 : decode prog_27_method_1_code 9 = .ok (.aload_n 0, 1) := by decide +kernel
theorem dIni_10 : decode prog_27_method_1_code 10 = .ok (.lload_n 2, 1) := by decide +kernel
theorem dIni_11 : decode prog_27_method_1_code 11 = .ok (.putfield 13, 3) := by decide +kernel
theorem dIni_14 : decode prog_27_method_1_code 14 = .ok (.aload_n 0, 1) := by decide +kernel
theorem dIni_15 : decode prog_27_method_1_code 15 = .ok (.lload 4, 2) := by decide +kernel
theorem dIni_17 : decode prog_27_method_1_code 17 = .ok (.putfield 17, 3) := by decide +kernel
theorem dIni_20 : decode prog_27_method_1_code 20 = .ok (.return_, 1) := by decide +kernel
theorem pnIni : plainName "com/example/greylag/greylag/model/Bundle" = true := by first | (simp [plainName, overriddenIn]; done) | decide +kernel
theorem efIni (m : MethodId) (a0 : Addr) (a1 : Addr) (q2 : Int64) (q3 : Int64) : entryFrame m #[(.ref a0), (.ref a1), (.long q2), (.long q3)] 6 = mkF m 0 #[.val (.ref a0), .val (.ref a1), .val (.long q2), .second, .val (.long q3), .second] [] := by first | (simp [entryFrame, mkF, argsToLocals, Value.category]; done) | rfl
def QIni (Z : State) (a0 : Addr) (a1 : Addr) (q2 : Int64) (q3 : Int64) (h0 : Heap) (n0 : Nat) (v : Option Value) (h : Heap) (L : List Loc) : Prop := v = none ∧ Fr n0 L ∧ Keep h0 h [a0] ∧ Fld Z h a0 "com/example/greylag/greylag/model/Bundle" "namespace" "Ljava/lang/String;" (.ref a1) ∧ Fld Z h a0 "com/example/greylag/greylag/model/Bundle" "lower" "J" (.long q2) ∧ Fld Z h a0 "com/example/greylag/greylag/model/Bundle" "upper" "J" (.long q3)
set_option maxRecDepth 65536 in
set_option maxHeartbeats 40000000 in
theorem rmIni (l : Launch) (Z : State) (a0 : Array Value) (hw : ∀ d ∈ tables_1, d.before a0 Z = true) (ws : List Jvm.Cond) (a0 : Addr) (a1 : Addr) (q2 : Int64) (q3 : Int64) (h0 : Heap) (n0 : Nat) (Z0 : n0 ≤ h0.size) (E0 : Exa Z h0 a0 "com/example/greylag/greylag/model/Bundle") (F_namespace : Fld Z h0 a0 "com/example/greylag/greylag/model/Bundle" "namespace" "Ljava/lang/String;" .null) (F_lower : Fld Z h0 a0 "com/example/greylag/greylag/model/Bundle" "lower" "J" (.long (0 : Int64))) (F_upper : Fld Z h0 a0 "com/example/greylag/greylag/model/Bundle" "upper" "J" (.long (0 : Int64))) (g0 : n0 ≤ a0) :
    MetFree l (⟨"com/example/greylag/greylag/model/Bundle", "<init>", "(Ljava/lang/String;JJ)V"⟩ : MethodName) (head1 (Jvm.Cond.code (⟨"com/example/greylag/greylag/model/Bundle", "<init>", "(Ljava/lang/String;JJ)V"⟩ : MethodName) prog_27_method_1_code 6 none :: ws) ({ frames := 1, cells := 0, slots := 0, locals := 12 } : Room)) (fun a U => a = #[(.ref a0), (.ref a1), (.long q2), (.long q3)] ∧ Z.Warmed39 U.vm ∧ U.heap = h0) (fun _ _ _ _ _ => True) (fun _ U o U' => ∃ v L, o = .returned v ∧ QIni Z a0 a1 q2 q3 h0 n0 v U'.heap L ∧ FrameEnd U o U' L ({ frames := 1, cells := 0, slots := 0, locals := 12 } : Room).cells ({ frames := 1, cells := 0, slots := 0, locals := 12 } : Room).slots) := by
  refine MetFree.of_bodySF (plainFor_of_name pnIni) hisR ?_
  intro p e s m args below meth c s₁ Bd hml0 hP hK
  obtain ⟨rfl, hZ, hh⟩ := hP
  have hx := Bd.exec
  have hby := Bd.bytes
  have hlk := BodyLoose.notSynchronized Bd
  have hret := Bd.returns
  have hml : c.maxLocals = 6 := hml0
  have hown : s.vm.findClass "com/example/greylag/greylag/model/Bundle" = some m.cls := findClass_of_methodNamed Bd.named
  have hnm := (name_of_methodNamed Bd.named Bd.method).1
  have X0 : Stand p l e ({ frames := 1, cells := 0, slots := 0, locals := 12 } : Room) s m #[(.ref a0), (.ref a1), (.long q2), (.long q3)] below meth c s₁ [] 0 0 := Stand.of_body Bd
  have e0 : s₁.heap = h0 := by rw [← hh, Bd.state]; rfl
  have N0 := Fr.nil n0
  show OFin p e below (KPost s (QIni Z a0 a1 q2 q3 h0 n0) ({ frames := 1, cells := 0, slots := 0, locals := 12 } : Room).cells ({ frames := 1, cells := 0, slots := 0, locals := 12 } : Room).slots) _
  rw [efIni m a0 a1 q2 q3]
  have K0 : Keep h0 h0 [a0] := Keep.refl _ _
  refine OFin.of (S' := s₁.setTop (mkF m 1 #[.val (.ref a0), .val (.ref a1), .val (.long q2), .second, .val (.long q3), .second] [(.ref a0)])) (fun t ht => ?_) ?_
  · refine XS.aloadN X0.here hx rfl (hb hby dIni_0) rfl rfl ?_
    exact ht
  obtain ⟨T1, X1, e1, st1⟩ := initO X0 hx hZ hown (hw _ (List.mem_of_getElem? (i := 45) rfl)) (hw _ (List.mem_of_getElem? (i := 12) rfl)) (hw _ (List.mem_of_getElem? (i := 13) rfl)) e0 (g := (mkF m 1 #[.val (.ref a0), .val (.ref a1), .val (.long q2), .second, .val (.long q3), .second] [(.ref a0)])) rfl (by rw [hml]; rfl) rfl (hb hby dIni_1) (by decide) (W := 0) (by show 2 * 0 + _ ≤ _; exact Nat.le_of_eq rfl) (by decide)
  refine OFin.of (S' := T1.setTop (mkF m 4 #[.val (.ref a0), .val (.ref a1), .val (.long q2), .second, .val (.long q3), .second] [])) (fun t ht => st1 t ht) ?_
  refine OFin.of (S' := T1.setTop (mkF m 6 #[.val (.ref a0), .val (.ref a1), .val (.long q2), .second, .val (.long q3), .second] [(.ref a1), (.ref a0)])) (fun t ht => ?_) ?_
  · refine XS.aloadN X1.here hx rfl (hb hby dIni_4) rfl rfl ?_
    show Steps p.tables e below (T1.setTop (mkF m 5 _ [(.ref a0)])) _
    refine XS.aloadN X1.here hx rfl (hb hby dIni_5) rfl rfl ?_
    exact ht
  obtain ⟨T2, h2, X2, e2, W2, st2⟩ := putF X1 hx hZ hown (host := "") (Or.inl (hw _ (List.mem_of_getElem? (i := 46) rfl))) Via.refl e1 F_namespace E0 (Or.inr ⟨(hw _ (List.mem_of_getElem? (i := 47) rfl)), rfl, hnm⟩) (hw _ (List.mem_of_getElem? (i := 40) rfl)) (ty := (.object "java/lang/String")) (by decide) rfl rfl (g := (mkF m 6 #[.val (.ref a0), .val (.ref a1), .val (.long q2), .second, .val (.long q3), .second] [(.ref a1), (.ref a0)])) rfl rfl (hb hby dIni_6)
  have f3 := (E0.wr W2)
  have f4 := (F_lower.other W2 (Or.inr (slot_ne (Or.inr (hw _ (List.mem_of_getElem? (i := 49) rfl))) (Or.inr (hw _ (List.mem_of_getElem? (i := 47) rfl))) (by decide) (t := .long) (t' := (.object "java/lang/String")) (by decide) (by decide))))
  have f5 := (F_upper.other W2 (Or.inr (slot_ne (Or.inr (hw _ (List.mem_of_getElem? (i := 51) rfl))) (Or.inr (hw _ (List.mem_of_getElem? (i := 47) rfl))) (by decide) (t := .long) (t' := (.object "java/lang/String")) (by decide) (by decide))))
  have Z6 : n0 ≤ h2.size := (Nat.le_trans Z0 (Keep.of_wr W2).1)
  have K7 : Keep h0 h2 [a0] := (K0.wr W2 (Or.inl (List.mem_of_getElem? (i := 0) rfl)))
  have N8 := Fr.snoc X2 N0 g0
  have f9 : Fld Z h2 a0 "com/example/greylag/greylag/model/Bundle" "namespace" "Ljava/lang/String;" (.ref a1) := (F_namespace.same W2)
  refine OFin.of (S' := T2.setTop (mkF m 9 #[.val (.ref a0), .val (.ref a1), .val (.long q2), .second, .val (.long q3), .second] [])) (fun t ht => st2 t ht) ?_
  refine OFin.of (S' := T2.setTop (mkF m 11 #[.val (.ref a0), .val (.ref a1), .val (.long q2), .second, .val (.long q3), .second] [(.long q2), (.ref a0)])) (fun t ht => ?_) ?_
  · refine XS.aloadN X2.here hx rfl (hb hby dIni_9) rfl rfl ?_
    show Steps p.tables e below (T2.setTop (mkF m 10 _ [(.ref a0)])) _
    refine XS.lloadN X2.here hx rfl (hb hby dIni_10) rfl ?_
    exact ht
  obtain ⟨T10, h10, X10, e10, W10, st10⟩ := putF X2 hx hZ hown (host := "") (Or.inl (hw _ (List.mem_of_getElem? (i := 48) rfl))) Via.refl e2 f4 f3 (Or.inr ⟨(hw _ (List.mem_of_getElem? (i := 49) rfl)), rfl, hnm⟩) (hw _ (List.mem_of_getElem? (i := 40) rfl)) (ty := .long) (by decide) rfl rfl (g := (mkF m 11 #[.val (.ref a0), .val (.ref a1), .val (.long q2), .second, .val (.long q3), .second] [(.long q2), (.ref a0)])) rfl rfl (hb hby dIni_11)
  have f11 := (f3.wr W10)
  have f12 := (f5.other W10 (Or.inr (slot_ne (Or.inr (hw _ (List.mem_of_getElem? (i := 51) rfl))) (Or.inr (hw _ (List.mem_of_getElem? (i := 49) rfl))) (by decide) (t := .long) (t' := .long) (by decide) (by decide))))
  have f13 := (f9.other W10 (Or.inr (slot_ne (Or.inr (hw _ (List.mem_of_getElem? (i := 47) rfl))) (Or.inr (hw _ (List.mem_of_getElem? (i := 49) rfl))) (by decide) (t := (.object "java/lang/String")) (t' := .long) (by decide) (by decide))))
  have Z14 : n0 ≤ h10.size := (Nat.le_trans Z6 (Keep.of_wr W10).1)
  have K15 : Keep h0 h10 [a0] := (K7.wr W10 (Or.inl (List.mem_of_getElem? (i := 0) rfl)))
  have N16 := Fr.snoc X10 N8 g0
  have f17 : Fld Z h10 a0 "com/example/greylag/greylag/model/Bundle" "lower" "J" (.long q2) := (f4.same W10)
  refine OFin.of (S' := T10.setTop (mkF m 14 #[.val (.ref a0), .val (.ref a1), .val (.long q2), .second, .val (.long q3), .second] [])) (fun t ht => st10 t ht) ?_
  refine OFin.of (S' := T10.setTop (mkF m 17 #[.val (.ref a0), .val (.ref a1), .val (.long q2), .second, .val (.long q3), .second] [(.long q3), (.ref a0)])) (fun t ht => ?_) ?_
  · refine XS.aloadN X10.here hx rfl (hb hby dIni_14) rfl rfl ?_
    show Steps p.tables e below (T10.setTop (mkF m 15 _ [(.ref a0)])) _
    refine XS.lload X10.here hx rfl (hb hby dIni_15) rfl ?_
    exact ht
  obtain ⟨T18, h18, X18, e18, W18, st18⟩ := putF X10 hx hZ hown (host := "") (Or.inl (hw _ (List.mem_of_getElem? (i := 50) rfl))) Via.refl e10 f12 f11 (Or.inr ⟨(hw _ (List.mem_of_getElem? (i := 51) rfl)), rfl, hnm⟩) (hw _ (List.mem_of_getElem? (i := 40) rfl)) (ty := .long) (by decide) rfl rfl (g := (mkF m 17 #[.val (.ref a0), .val (.ref a1), .val (.long q2), .second, .val (.long q3), .second] [(.long q3), (.ref a0)])) rfl rfl (hb hby dIni_17)
  have f19 := (f11.wr W18)
  have f20 := (f13.other W18 (Or.inr (slot_ne (Or.inr (hw _ (List.mem_of_getElem? (i := 47) rfl))) (Or.inr (hw _ (List.mem_of_getElem? (i := 51) rfl))) (by decide) (t := (.object "java/lang/String")) (t' := .long) (by decide) (by decide))))
  have f21 := (f17.other W18 (Or.inr (slot_ne (Or.inr (hw _ (List.mem_of_getElem? (i := 49) rfl))) (Or.inr (hw _ (List.mem_of_getElem? (i := 51) rfl))) (by decide) (t := .long) (t' := .long) (by decide) (by decide))))
  have Z22 : n0 ≤ h18.size := (Nat.le_trans Z14 (Keep.of_wr W18).1)
  have K23 : Keep h0 h18 [a0] := (K15.wr W18 (Or.inl (List.mem_of_getElem? (i := 0) rfl)))
  have N24 := Fr.snoc X18 N16 g0
  have f25 : Fld Z h18 a0 "com/example/greylag/greylag/model/Bundle" "upper" "J" (.long q3) := (f12.same W18)
  refine OFin.of (S' := T18.setTop (mkF m 20 #[.val (.ref a0), .val (.ref a1), .val (.long q2), .second, .val (.long q3), .second] [])) (fun t ht => st18 t ht) ?_
  exact OFin.retV X18 hx hlk hret (hb hby dIni_20) (by decide) (by decide) (by rw [e18]; exact ⟨rfl, N24, K23, f20, f21, f25⟩)
theorem dLe21_0 : decode jdk_43_method_13_code 0 = .ok (.aload_n 0, 1) := by decide +kernel
theorem dLe21_1 : decode jdk_43_method_13_code 1 = .ok (.arraylength, 1) := by decide +kernel
theorem dLe21_2 : decode jdk_43_method_13_code 2 = .ok (.aload_n 1, 1) := by decide +kernel
theorem dLe21_3 : decode jdk_43_method_13_code 3 = .ok (.arraylength, 1) := by decide +kernel
theorem dLe21_4 : decode jdk_43_method_13_code 4 = .ok (.if_icmp .ne 30, 3) := by decide +kernel
theorem dLe21_34 : decode jdk_43_method_13_code 34 = .ok (.iconst 0, 1) := by decide +kernel
theorem dLe21_35 : decode jdk_43_method_13_code 35 = .ok (.ireturn, 1) := by decide +kernel
theorem pnLe21 : plainName "java/lang/StringLatin1" = true := by first | (simp [plainName, overriddenIn]; done) | decide +kernel
theorem efLe21 (m : MethodId) (a0 : Addr) (a1 : Addr) : entryFrame m #[(.ref a0), (.ref a1)] 3 = mkF m 0 #[.val (.ref a0), .val (.ref a1), .unset] [] := by first | (simp [entryFrame, mkF, argsToLocals, Value.category]; done) | rfl
def QLe21 (Z : State) (a0 : Addr) (a1 : Addr) (k0 : ClassId) (k1 : ClassId) (x0 : Int32) (x1 : Int32) (y0 : Int32) (h0 : Heap) (n0 : Nat) (v : Option Value) (h : Heap) (L : List Loc) : Prop := v = some (.int (0 : Int32)) ∧ Fr n0 L ∧ h = h0
set_option maxRecDepth 65536 in
set_option maxHeartbeats 40000000 in
theorem rmLe21 (l : Launch) (Z : State) (a0 : Array Value) (hw : ∀ d ∈ tables_1, d.before a0 Z = true) (ws : List Jvm.Cond) (a0 : Addr) (a1 : Addr) (k0 : ClassId) (k1 : ClassId) (x0 : Int32) (x1 : Int32) (y0 : Int32) (h0 : Heap) (n0 : Nat) (Z0 : n0 ≤ h0.size) (V1 : Arv Z h0 a0 k0 .byte (2 : Int32) [(.int x0), (.int x1)] (.int (0 : Int32))) (V2 : Arv Z h0 a1 k1 .byte (1 : Int32) [(.int y0)] (.int (0 : Int32))) :
    MetFree l (⟨"java/lang/StringLatin1", "equals", "([B[B)Z"⟩ : MethodName) (head1 (Jvm.Cond.code (⟨"java/lang/StringLatin1", "equals", "([B[B)Z"⟩ : MethodName) jdk_43_method_13_code 3 (some .boolean) :: ws) ({ frames := 0, cells := 0, slots := 0, locals := 0 } : Room)) (fun a U => a = #[(.ref a0), (.ref a1)] ∧ Z.Warmed39 U.vm ∧ U.heap = h0) (fun _ _ _ _ _ => True) (fun _ U o U' => ∃ v L, o = .returned v ∧ QLe21 Z a0 a1 k0 k1 x0 x1 y0 h0 n0 v U'.heap L ∧ FrameEnd U o U' L ({ frames := 0, cells := 0, slots := 0, locals := 0 } : Room).cells ({ frames := 0, cells := 0, slots := 0, locals := 0 } : Room).slots) := by
  refine MetFree.of_bodySF (plainFor_of_name pnLe21) hisR ?_
  intro p e s m args below meth c s₁ Bd hml0 hP hK
  obtain ⟨rfl, hZ, hh⟩ := hP
  have hx := Bd.exec
  have hby := Bd.bytes
  have hlk := BodyLoose.notSynchronized Bd
  have hret := Bd.returns
  have hml : c.maxLocals = 3 := hml0
  have hown : s.vm.findClass "java/lang/StringLatin1" = some m.cls := findClass_of_methodNamed Bd.named
  have hnm := (name_of_methodNamed Bd.named Bd.method).1
  have X0 : Stand p l e ({ frames := 0, cells := 0, slots := 0, locals := 0 } : Room) s m #[(.ref a0), (.ref a1)] below meth c s₁ [] 0 0 := Stand.of_body Bd
  have e0 : s₁.heap = h0 := by rw [← hh, Bd.state]; rfl
  have N0 := Fr.nil n0
  show OFin p e below (KPost s (QLe21 Z a0 a1 k0 k1 x0 x1 y0 h0 n0) ({ frames := 0, cells := 0, slots := 0, locals := 0 } : Room).cells ({ frames := 0, cells := 0, slots := 0, locals := 0 } : Room).slots) _
  rw [efLe21 m a0 a1]
  refine OFin.of (S' := s₁.setTop (mkF m 1 #[.val (.ref a0), .val (.ref a1), .unset] [(.ref a0)])) (fun t ht => ?_) ?_
  · refine XS.aloadN X0.here hx rfl (hb hby dLe21_0) rfl rfl ?_
    exact ht
  obtain ⟨cl1, Ar1, q1, S1, Ng1, H1, G1⟩ := id V1
  refine OFin.of (S' := s₁.setTop (mkF m 2 #[.val (.ref a0), .val (.ref a1), .unset] [(.int (2 : Int32))])) (fun t ht => own_alen X0 hx hZ e0 Ar1 S1 Ng1 (g := (mkF m 1 #[.val (.ref a0), .val (.ref a1), .unset] [(.ref a0)])) rfl rfl (hb hby dLe21_1) ht) ?_
  refine OFin.of (S' := s₁.setTop (mkF m 3 #[.val (.ref a0), .val (.ref a1), .unset] [(.ref a1), (.int (2 : Int32))])) (fun t ht => ?_) ?_
  · refine XS.aloadN X0.here hx rfl (hb hby dLe21_2) rfl rfl ?_
    exact ht
  obtain ⟨cl2, Ar2, q2, S2, Ng2, H2, G2⟩ := id V2
  refine OFin.of (S' := s₁.setTop (mkF m 4 #[.val (.ref a0), .val (.ref a1), .unset] [(.int (1 : Int32)), (.int (2 : Int32))])) (fun t ht => own_alen X0 hx hZ e0 Ar2 S2 Ng2 (g := (mkF m 3 #[.val (.ref a0), .val (.ref a1), .unset] [(.ref a1), (.int (2 : Int32))])) rfl rfl (hb hby dLe21_3) ht) ?_
  refine OFin.of (S' := s₁.setTop (mkF m 35 #[.val (.ref a0), .val (.ref a1), .unset] [(.int (0 : Int32))])) (fun t ht => ?_) ?_
  · refine XS.icmpYes X0.here hx rfl (pc0 := 4) (pc' := 34) rfl (hb hby dLe21_4) rfl (feq (by decide : ¬ ((2 : Int32) = (1 : Int32)))).2 (by decide) (by decide) ?_
    show Steps p.tables e below (s₁.setTop (mkF m 34 _ [])) _
    refine XS.iconst X0.here hx rfl (hb hby dLe21_34) ?_
    exact ht
  exact OFin.retB X0 hx hlk (t := .boolean) (by simp) hret (hb hby dLe21_35) (by decide) (by decide) (by rw [e0]; exact ⟨(by show some (Value.int (0 : Int32)) = _; rfl), N0, rfl⟩)
theorem dEq21_0 : decode jdk_42_method_66_code 0 = .ok (.aload_n 0, 1) := by decide +kernel
theorem dEq21_1 : decode jdk_42_method_66_code 1 = .ok (.aload_n 1, 1) := by decide +kernel
theorem dEq21_2 : decode jdk_42_method_66_code 2 = .ok (.if_acmp .ne 5, 3) := by decide +kernel
theorem dEq21_7 : decode jdk_42_method_66_code 7 = .ok (.aload_n 1, 1) := by decide +kernel
theorem dEq21_8 : decode jdk_42_method_66_code 8 = .ok (.instanceof 10, 3) := by decide +kernel
theorem dEq21_11 : decode jdk_42_method_66_code 11 = .ok (.ifCond .eq 43, 3) := by decide +kernel
theorem dEq21_14 : decode jdk_42_method_66_code 14 = .ok (.aload_n 1, 1) := by decide +kernel
theorem dEq21_15 : decode jdk_42_method_66_code 15 = .ok (.checkcast 10, 3) := by decide +kernel
theorem dEq21_18 : decode jdk_42_method_66_code 18 = .ok (.astore_n 2, 1) := by decide +kernel
theorem dEq21_19 : decode jdk_42_method_66_code 19 = .ok (.getstatic 38, 3) := by decide +kernel
theorem dEq21_22 : decode jdk_42_method_66_code 22 = .ok (.ifCond .eq 14, 3) := by decide +kernel
theorem dEq21_25 : decode jdk_42_method_66_code 25 = .ok (.aload_n 0, 1) := by decide +kernel
theorem dEq21_26 : decode jdk_42_method_66_code 26 = .ok (.getfield 15, 3) := by decide +kernel
theorem dEq21_29 : decode jdk_42_method_66_code 29 = .ok (.aload_n 2, 1) := by decide +kernel
theorem dEq21_30 : decode jdk_42_method_66_code 30 = .ok (.getfield 15, 3) := by decide +kernel
theorem dEq21_33 : decode jdk_42_method_66_code 33 = .ok (.if_icmp .ne 21, 3) := by decide +kernel
theorem dEq21_36 : decode jdk_42_method_66_code 36 = .ok (.aload_n 0, 1) := by decide +kernel
theorem dEq21_37 : decode jdk_42_method_66_code 37 = .ok (.getfield 9, 3) := by decide +kernel
theorem dEq21_40 : decode jdk_42_method_66_code 40 = .ok (.aload_n 2, 1) := by decide +kernel
theorem dEq21_41 : decode jdk_42_method_66_code 41 = .ok (.getfield 9, 3) := by decide +kernel
theorem dEq21_44 : decode jdk_42_method_66_code 44 = .ok (.invokestatic 541, 3) := by decide +kernel
theorem dEq21_47 : decode jdk_42_method_66_code 47 = .ok (.ifCond .eq 7, 3) := by decide +kernel
theorem dEq21_54 : decode jdk_42_method_66_code 54 = .ok (.iconst 0, 1) := by decide +kernel
theorem dEq21_55 : decode jdk_42_method_66_code 55 = .ok (.ireturn, 1) := by decide +kernel
theorem pnEq21 : plainName "java/lang/String" = true := by first | (simp [plainName, overriddenIn]; done) | decide +kernel
theorem efEq21 (m : MethodId) (a0 : Addr) (a1 : Addr) : entryFrame m #[(.ref a0), (.ref a1)] 3 = mkF m 0 #[.val (.ref a0), .val (.ref a1), .unset] [] := by first | (simp [entryFrame, mkF, argsToLocals, Value.category]; done) | rfl
def QEq21 (Z : State) (a0 : Addr) (a1 : Addr) (t0 : Addr) (t1 : Addr) (k0 : ClassId) (k1 : ClassId) (cs : Int32) (x0 : Int32) (x1 : Int32) (y0 : Int32) (h0 : Heap) (n0 : Nat) (v : Option Value) (h : Heap) (L : List Loc) : Prop := v = some (.int (0 : Int32)) ∧ Fr n0 L ∧ h = h0
set_option maxRecDepth 65536 in
set_option maxHeartbeats 40000000 in
theorem rmEq21 (l : Launch) (Z : State) (a0 : Array Value) (hw : ∀ d ∈ tables_1, d.before a0 Z = true) (ws : List Jvm.Cond) (a0 : Addr) (a1 : Addr) (t0 : Addr) (t1 : Addr) (k0 : ClassId) (k1 : ClassId) (cs : Int32) (x0 : Int32) (x1 : Int32) (y0 : Int32) (h0 : Heap) (n0 : Nat) (Z0 : n0 ≤ h0.size) (E1 : Exa Z h0 a1 "java/lang/String") (Fc0 : Fld Z h0 a0 "java/lang/String" "coder" "B" (.int (0 : Int32))) (Fc1 : Fld Z h0 a1 "java/lang/String" "coder" "B" (.int (0 : Int32))) (Fv0 : Fld Z h0 a0 "java/lang/String" "value" "[B" (.ref t0)) (Fv1 : Fld Z h0 a1 "java/lang/String" "value" "[B" (.ref t1)) (V1 : Arv Z h0 t0 k0 .byte (2 : Int32) [(.int x0), (.int x1)] (.int (0 : Int32))) (V2 : Arv Z h0 t1 k1 .byte (1 : Int32) [(.int y0)] (.int (0 : Int32))) (Scs : Sta Z h0 "java/lang/String" "COMPACT_STRINGS" "Z" (.int cs)) (hcs : ¬ cs = (0 : Int32)) (hne : a0 ≠ a1) :
    MetFree l (⟨"java/lang/String", "equals", "(Ljava/lang/Object;)Z"⟩ : MethodName) (head1 (Jvm.Cond.code (⟨"java/lang/String", "equals", "(Ljava/lang/Object;)Z"⟩ : MethodName) jdk_42_method_66_code 3 (some .boolean) :: ws) ({ frames := 1, cells := 0, slots := 0, locals := 14 } : Room)) (fun a U => a = #[(.ref a0), (.ref a1)] ∧ Z.Warmed39 U.vm ∧ U.heap = h0) (fun _ _ _ _ _ => True) (fun _ U o U' => ∃ v L, o = .returned v ∧ QEq21 Z a0 a1 t0 t1 k0 k1 cs x0 x1 y0 h0 n0 v U'.heap L ∧ FrameEnd U o U' L ({ frames := 1, cells := 0, slots := 0, locals := 14 } : Room).cells ({ frames := 1, cells := 0, slots := 0, locals := 14 } : Room).slots) := by
  refine MetFree.of_bodySF (plainFor_of_name pnEq21) hisR ?_
  intro p e s m args below meth c s₁ Bd hml0 hP hK
  obtain ⟨rfl, hZ, hh⟩ := hP
  have hx := Bd.exec
  have hby := Bd.bytes
  have hlk := BodyLoose.notSynchronized Bd
  have hret := Bd.returns
  have hml : c.maxLocals = 3 := hml0
  have hown : s.vm.findClass "java/lang/String" = some m.cls := findClass_of_methodNamed Bd.named
  have hnm := (name_of_methodNamed Bd.named Bd.method).1
  have X0 : Stand p l e ({ frames := 1, cells := 0, slots := 0, locals := 14 } : Room) s m #[(.ref a0), (.ref a1)] below meth c s₁ [] 0 0 := Stand.of_body Bd
  have e0 : s₁.heap = h0 := by rw [← hh, Bd.state]; rfl
  have N0 := Fr.nil n0
  show OFin p e below (KPost s (QEq21 Z a0 a1 t0 t1 k0 k1 cs x0 x1 y0 h0 n0) ({ frames := 1, cells := 0, slots := 0, locals := 14 } : Room).cells ({ frames := 1, cells := 0, slots := 0, locals := 14 } : Room).slots) _
  rw [efEq21 m a0 a1]
  refine OFin.of (S' := s₁.setTop (mkF m 8 #[.val (.ref a0), .val (.ref a1), .unset] [(.ref a1)])) (fun t ht => ?_) ?_
  · refine XS.aloadN X0.here hx rfl (hb hby dEq21_0) rfl rfl ?_
    show Steps p.tables e below (s₁.setTop (mkF m 1 _ [(.ref a0)])) _
    refine XS.aloadN X0.here hx rfl (hb hby dEq21_1) rfl rfl ?_
    show Steps p.tables e below (s₁.setTop (mkF m 2 _ [(.ref a1), (.ref a0)])) _
    refine acmp X0 hx rfl (cd := .ne) (x := (.ref a0)) (y := (.ref a1)) rfl rfl (pc0 := 2) (pc' := 7) (same := false) rfl (hb hby dEq21_2) rfl (decide_eq_false (fun q => hne (Value.ref.inj q))) (by decide) (by decide) ?_
    show Steps p.tables e below (s₁.setTop (mkF m 7 _ [])) _
    refine XS.aloadN X0.here hx rfl (hb hby dEq21_7) rfl rfl ?_
    exact ht
  obtain ⟨T1, X1, e1, st1⟩ := instY X0 hx hZ hown (hw _ (List.mem_of_getElem? (i := 62) rfl)) e0 (Ins.self E1) (g := (mkF m 8 #[.val (.ref a0), .val (.ref a1), .unset] [(.ref a1)])) rfl rfl (hb hby dEq21_8)
  refine OFin.of (S' := T1.setTop (mkF m 11 #[.val (.ref a0), .val (.ref a1), .unset] [(.int (1 : Int32))])) (fun t ht => st1 t ht) ?_
  refine OFin.of (S' := T1.setTop (mkF m 15 #[.val (.ref a0), .val (.ref a1), .unset] [(.ref a1)])) (fun t ht => ?_) ?_
  · refine XS.ifNo X1.here hx rfl (hb hby dEq21_11) rfl ((if0 _ _).trans (feq (by decide : ¬ ((1 : Int32) = (0 : Int32)))).1) ?_
    show Steps p.tables e below (T1.setTop (mkF m 14 _ [])) _
    refine XS.aloadN X1.here hx rfl (hb hby dEq21_14) rfl rfl ?_
    exact ht
  obtain ⟨T2, X2, e2, st2⟩ := castY X1 hx hZ hown (hw _ (List.mem_of_getElem? (i := 62) rfl)) e1 (Ins.self E1) (g := (mkF m 15 #[.val (.ref a0), .val (.ref a1), .unset] [(.ref a1)])) rfl rfl (hb hby dEq21_15)
  refine OFin.of (S' := T2.setTop (mkF m 18 #[.val (.ref a0), .val (.ref a1), .unset] [(.ref a1)])) (fun t ht => st2 t ht) ?_
  refine OFin.of (S' := T2.setTop (mkF m 19 #[.val (.ref a0), .val (.ref a1), .val (.ref a1)] [])) (fun t ht => ?_) ?_
  · refine XS.astoreN X2.here hx rfl (hb hby dEq21_18) rfl rfl (l' := #[.val (.ref a0), .val (.ref a1), .val (.ref a1)]) rfl ?_
    exact ht
  obtain ⟨T3, X3, e3, st3⟩ := getS (host := "") X2 hx hZ hown (hw _ (List.mem_of_getElem? (i := 14) rfl)) Via.refl e2 Scs (g := (mkF m 19 #[.val (.ref a0), .val (.ref a1), .val (.ref a1)] [])) rfl (hb hby dEq21_19)
  refine OFin.of (S' := T3.setTop (mkF m 22 #[.val (.ref a0), .val (.ref a1), .val (.ref a1)] [(.int cs)])) (fun t ht => st3 t ht) ?_
  refine OFin.of (S' := T3.setTop (mkF m 26 #[.val (.ref a0), .val (.ref a1), .val (.ref a1)] [(.ref a0)])) (fun t ht => ?_) ?_
  · refine XS.ifNo X3.here hx rfl (hb hby dEq21_22) rfl ((if0 _ _).trans (feq (hcs : ¬ (cs = (0 : Int32)))).1) ?_
    show Steps p.tables e below (T3.setTop (mkF m 25 _ [])) _
    refine XS.aloadN X3.here hx rfl (hb hby dEq21_25) rfl rfl ?_
    exact ht
  obtain ⟨T4, X4, e4, st4⟩ := getF X3 hx hZ hown (host := "") (Or.inl (hw _ (List.mem_of_getElem? (i := 26) rfl))) Via.refl e3 Fc0 (g := (mkF m 26 #[.val (.ref a0), .val (.ref a1), .val (.ref a1)] [(.ref a0)])) rfl rfl (hb hby dEq21_26)
  refine OFin.of (S' := T4.setTop (mkF m 29 #[.val (.ref a0), .val (.ref a1), .val (.ref a1)] [(.int (0 : Int32))])) (fun t ht => st4 t ht) ?_
  refine OFin.of (S' := T4.setTop (mkF m 30 #[.val (.ref a0), .val (.ref a1), .val (.ref a1)] [(.ref a1), (.int (0 : Int32))])) (fun t ht => ?_) ?_
  · refine XS.aloadN X4.here hx rfl (hb hby dEq21_29) rfl rfl ?_
    exact ht
  obtain ⟨T5, X5, e5, st5⟩ := getF X4 hx hZ hown (host := "") (Or.inl (hw _ (List.mem_of_getElem? (i := 26) rfl))) Via.refl e4 Fc1 (g := (mkF m 30 #[.val (.ref a0), .val (.ref a1), .val (.ref a1)] [(.ref a1), (.int (0 : Int32))])) rfl rfl (hb hby dEq21_30)
  refine OFin.of (S' := T5.setTop (mkF m 33 #[.val (.ref a0), .val (.ref a1), .val (.ref a1)] [(.int (0 : Int32)), (.int (0 : Int32))])) (fun t ht => st5 t ht) ?_
  refine OFin.of (S' := T5.setTop (mkF m 37 #[.val (.ref a0), .val (.ref a1), .val (.ref a1)] [(.ref a0)])) (fun t ht => ?_) ?_
  · refine XS.icmpNo X5.here hx rfl (hb hby dEq21_33) rfl (teq (by decide : (0 : Int32) = (0 : Int32))).2 ?_
    show Steps p.tables e below (T5.setTop (mkF m 36 _ [])) _
    refine XS.aloadN X5.here hx rfl (hb hby dEq21_36) rfl rfl ?_
    exact ht
  obtain ⟨T6, X6, e6, st6⟩ := getF X5 hx hZ hown (host := "") (Or.inl (hw _ (List.mem_of_getElem? (i := 28) rfl))) Via.refl e5 Fv0 (g := (mkF m 37 #[.val (.ref a0), .val (.ref a1), .val (.ref a1)] [(.ref a0)])) rfl rfl (hb hby dEq21_37)
  refine OFin.of (S' := T6.setTop (mkF m 40 #[.val (.ref a0), .val (.ref a1), .val (.ref a1)] [(.ref t0)])) (fun t ht => st6 t ht) ?_
  refine OFin.of (S' := T6.setTop (mkF m 41 #[.val (.ref a0), .val (.ref a1), .val (.ref a1)] [(.ref a1), (.ref t0)])) (fun t ht => ?_) ?_
  · refine XS.aloadN X6.here hx rfl (hb hby dEq21_40) rfl rfl ?_
    exact ht
  obtain ⟨T7, X7, e7, st7⟩ := getF X6 hx hZ hown (host := "") (Or.inl (hw _ (List.mem_of_getElem? (i := 28) rfl))) Via.refl e6 Fv1 (g := (mkF m 41 #[.val (.ref a0), .val (.ref a1), .val (.ref a1)] [(.ref a1), (.ref t0)])) rfl rfl (hb hby dEq21_41)
  refine OFin.of (S' := T7.setTop (mkF m 44 #[.val (.ref a0), .val (.ref a1), .val (.ref a1)] [(.ref t1), (.ref t0)])) (fun t ht => st7 t ht) ?_
  obtain ⟨_, _, ⟨T8, L8, k8, n8⟩, -, X8, ⟨Lc8, hQ8, l8, y8, z8⟩, st8⟩ := Jvm.LawKit.callS X7 hx (y := (⟨"java/lang/StringLatin1", "equals", "([B[B)Z"⟩ : MethodName)) hown (mvT hZ (hw _ (List.mem_of_getElem? (i := 63) rfl))) (mvT hZ (hw _ (List.mem_of_getElem? (i := 64) rfl))) (mvT hZ (hw _ (List.mem_of_getElem? (i := 65) rfl))) (mvT hZ (hw _ (List.mem_of_getElem? (i := 66) rfl))) (by decide) (backOf (W := 0) (rmLe21 l Z _ hw [] t0 t1 k0 k1 x0 x1 y0 h0 n0 Z0 V1 V2) hZ (hw _ (List.mem_of_getElem? (i := 66) rfl)) (hw _ (List.mem_of_getElem? (i := 65) rfl)) (by decide) (by decide)) (g := (mkF m 44 #[.val (.ref a0), .val (.ref a1), .val (.ref a1)] [(.ref t1), (.ref t0)])) rfl (by rw [hml]; rfl) (argsL := [(.ref t0), (.ref t1)]) (rest := []) (lenOf pd_0 rfl) rfl (by show 2 * 0 + _ ≤ _; exact Nat.le_of_eq rfl) (hb hby dEq21_44) (fun _ _ => ⟨rfl, e7, (by decide : 0 + 0 ≤ _), (by decide : 0 + 0 ≤ _)⟩)
  dsimp only [Pt.U, Pt.locs, Pt.cells, Pt.slots] at X8 l8 y8 z8 st8 hQ8
  subst l8 y8 z8
  obtain ⟨rfl, Nq8, hs8⟩ := hQ8
  have N9 := Fr.app N0 Nq8
  refine OFin.of (S' := T8.setTop (mkF m 47 #[.val (.ref a0), .val (.ref a1), .val (.ref a1)] [(.int (0 : Int32))])) (fun t ht => st8 t ht) ?_
  refine OFin.of (S' := T8.setTop (mkF m 55 #[.val (.ref a0), .val (.ref a1), .val (.ref a1)] [(.int (0 : Int32))])) (fun t ht => ?_) ?_
  · refine XS.ifYes X8.here hx rfl (pc0 := 47) (pc' := 54) rfl (hb hby dEq21_47) rfl ((if0 _ _).trans (teq (by decide : (0 : Int32) = (0 : Int32))).1) (by decide) (by decide) ?_
    show Steps p.tables e below (T8.setTop (mkF m 54 _ [])) _
    refine XS.iconst X8.here hx rfl (hb hby dEq21_54) ?_
    exact ht
  exact OFin.retB X8 hx hlk (t := .boolean) (by simp) hret (hb hby dEq21_55) (by decide) (by decide) (by rw [hs8]; exact ⟨(by show some (Value.int (0 : Int32)) = _; rfl), N9, rfl⟩)
theorem dLe12_0 : decode jdk_43_method_13_code 0 = .ok (.aload_n 0, 1) := by decide +kernel
theorem dLe12_1 : decode jdk_43_method_13_code 1 = .ok (.arraylength, 1) := by decide +kernel
theorem dLe12_2 : decode jdk_43_method_13_code 2 = .ok (.aload_n 1, 1) := by decide +kernel
theorem dLe12_3 : decode jdk_43_method_13_code 3 = .ok (.arraylength, 1) := by decide +kernel
theorem dLe12_4 : decode jdk_43_method_13_code 4 = .ok (.if_icmp .ne 30, 3) := by decide +kernel
theorem dLe12_34 : decode jdk_43_method_13_code 34 = .ok (.iconst 0, 1) := by decide +kernel
theorem dLe12_35 : decode jdk_43_method_13_code 35 = .ok (.ireturn, 1) := by decide +kernel
theorem pnLe12 : plainName "java/lang/StringLatin1" = true := by first | (simp [plainName, overriddenIn]; done) | decide +kernel
theorem efLe12 (m : MethodId) (a0 : Addr) (a1 : Addr) : entryFrame m #[(.ref a0), (.ref a1)] 3 = mkF m 0 #[.val (.ref a0), .val (.ref a1), .unset] [] := by first | (simp [entryFrame, mkF, argsToLocals, Value.category]; done) | rfl
def QLe12 (Z : State) (a0 : Addr) (a1 : Addr) (k0 : ClassId) (k1 : ClassId) (x0 : Int32) (y0 : Int32) (y1 : Int32) (h0 : Heap) (n0 : Nat) (v : Option Value) (h : Heap) (L : List Loc) : Prop := v = some (.int (0 : Int32)) ∧ Fr n0 L ∧ h = h0
set_option maxRecDepth 65536 in
set_option maxHeartbeats 40000000 in
theorem rmLe12 (l : Launch) (Z : State) (a0 : Array Value) (hw : ∀ d ∈ tables_1, d.before a0 Z = true) (ws : List Jvm.Cond) (a0 : Addr) (a1 : Addr) (k0 : ClassId) (k1 : ClassId) (x0 : Int32) (y0 : Int32) (y1 : Int32) (h0 : Heap) (n0 : Nat) (Z0 : n0 ≤ h0.size) (V1 : Arv Z h0 a0 k0 .byte (1 : Int32) [(.int x0)] (.int (0 : Int32))) (V2 : Arv Z h0 a1 k1 .byte (2 : Int32) [(.int y0), (.int y1)] (.int (0 : Int32))) :
    MetFree l (⟨"java/lang/StringLatin1", "equals", "([B[B)Z"⟩ : MethodName) (head1 (Jvm.Cond.code (⟨"java/lang/StringLatin1", "equals", "([B[B)Z"⟩ : MethodName) jdk_43_method_13_code 3 (some .boolean) :: ws) ({ frames := 0, cells := 0, slots := 0, locals := 0 } : Room)) (fun a U => a = #[(.ref a0), (.ref a1)] ∧ Z.Warmed39 U.vm ∧ U.heap = h0) (fun _ _ _ _ _ => True) (fun _ U o U' => ∃ v L, o = .returned v ∧ QLe12 Z a0 a1 k0 k1 x0 y0 y1 h0 n0 v U'.heap L ∧ FrameEnd U o U' L ({ frames := 0, cells := 0, slots := 0, locals := 0 } : Room).cells ({ frames := 0, cells := 0, slots := 0, locals := 0 } : Room).slots) := by
  refine MetFree.of_bodySF (plainFor_of_name pnLe12) hisR ?_
  intro p e s m args below meth c s₁ Bd hml0 hP hK
  obtain ⟨rfl, hZ, hh⟩ := hP
  have hx := Bd.exec
  have hby := Bd.bytes
  have hlk := BodyLoose.notSynchronized Bd
  have hret := Bd.returns
  have hml : c.maxLocals = 3 := hml0
  have hown : s.vm.findClass "java/lang/StringLatin1" = some m.cls := findClass_of_methodNamed Bd.named
  have hnm := (name_of_methodNamed Bd.named Bd.method).1
  have X0 : Stand p l e ({ frames := 0, cells := 0, slots := 0, locals := 0 } : Room) s m #[(.ref a0), (.ref a1)] below meth c s₁ [] 0 0 := Stand.of_body Bd
  have e0 : s₁.heap = h0 := by rw [← hh, Bd.state]; rfl
  have N0 := Fr.nil n0
  show OFin p e below (KPost s (QLe12 Z a0 a1 k0 k1 x0 y0 y1 h0 n0) ({ frames := 0, cells := 0, slots := 0, locals := 0 } : Room).cells ({ frames := 0, cells := 0, slots := 0, locals := 0 } : Room).slots) _
  rw [efLe12 m a0 a1]
  refine OFin.of (S' := s₁.setTop (mkF m 1 #[.val (.ref a0), .val (.ref a1), .unset] [(.ref a0)])) (fun t ht => ?_) ?_
  · refine XS.aloadN X0.here hx rfl (hb hby dLe12_0) rfl rfl ?_
    exact ht
  obtain ⟨cl1, Ar1, q1, S1, Ng1, H1, G1⟩ := id V1
  refine OFin.of (S' := s₁.setTop (mkF m 2 #[.val (.ref a0), .val (.ref a1), .unset] [(.int (1 : Int32))])) (fun t ht => own_alen X0 hx hZ e0 Ar1 S1 Ng1 (g := (mkF m 1 #[.val (.ref a0), .val (.ref a1), .unset] [(.ref a0)])) rfl rfl (hb hby dLe12_1) ht) ?_
  refine OFin.of (S' := s₁.setTop (mkF m 3 #[.val (.ref a0), .val (.ref a1), .unset] [(.ref a1), (.int (1 : Int32))])) (fun t ht => ?_) ?_
  · refine XS.aloadN X0.here hx rfl (hb hby dLe12_2) rfl rfl ?_
    exact ht
  obtain ⟨cl2, Ar2, q2, S2, Ng2, H2, G2⟩ := id V2
  refine OFin.of (S' := s₁.setTop (mkF m 4 #[.val (.ref a0), .val (.ref a1), .unset] [(.int (2 : Int32)), (.int (1 : Int32))])) (fun t ht => own_alen X0 hx hZ e0 Ar2 S2 Ng2 (g := (mkF m 3 #[.val (.ref a0), .val (.ref a1), .unset] [(.ref a1), (.int (1 : Int32))])) rfl rfl (hb hby dLe12_3) ht) ?_
  refine OFin.of (S' := s₁.setTop (mkF m 35 #[.val (.ref a0), .val (.ref a1), .unset] [(.int (0 : Int32))])) (fun t ht => ?_) ?_
  · refine XS.icmpYes X0.here hx rfl (pc0 := 4) (pc' := 34) rfl (hb hby dLe12_4) rfl (feq (by decide : ¬ ((1 : Int32) = (2 : Int32)))).2 (by decide) (by decide) ?_
    show Steps p.tables e below (s₁.setTop (mkF m 34 _ [])) _
    refine XS.iconst X0.here hx rfl (hb hby dLe12_34) ?_
    exact ht
  exact OFin.retB X0 hx hlk (t := .boolean) (by simp) hret (hb hby dLe12_35) (by decide) (by decide) (by rw [e0]; exact ⟨(by show some (Value.int (0 : Int32)) = _; rfl), N0, rfl⟩)
theorem dEq12_0 : decode jdk_42_method_66_code 0 = .ok (.aload_n 0, 1) := by decide +kernel
theorem dEq12_1 : decode jdk_42_method_66_code 1 = .ok (.aload_n 1, 1) := by decide +kernel
theorem dEq12_2 : decode jdk_42_method_66_code 2 = .ok (.if_acmp .ne 5, 3) := by decide +kernel
theorem dEq12_7 : decode jdk_42_method_66_code 7 = .ok (.aload_n 1, 1) := by decide +kernel
theorem dEq12_8 : decode jdk_42_method_66_code 8 = .ok (.instanceof 10, 3) := by decide +kernel
theorem dEq12_11 : decode jdk_42_method_66_code 11 = .ok (.ifCond .eq 43, 3) := by decide +kernel
theorem dEq12_14 : decode jdk_42_method_66_code 14 = .ok (.aload_n 1, 1) := by decide +kernel
theorem dEq12_15 : decode jdk_42_method_66_code 15 = .ok (.checkcast 10, 3) := by decide +kernel
theorem dEq12_18 : decode jdk_42_method_66_code 18 = .ok (.astore_n 2, 1) := by decide +kernel
theorem dEq12_19 : decode jdk_42_method_66_code 19 = .ok (.getstatic 38, 3) := by decide +kernel
theorem dEq12_22 : decode jdk_42_method_66_code 22 = .ok (.ifCond .eq 14, 3) := by decide +kernel
theorem dEq12_25 : decode jdk_42_method_66_code 25 = .ok (.aload_n 0, 1) := by decide +kernel
theorem dEq12_26 : decode jdk_42_method_66_code 26 = .ok (.getfield 15, 3) := by decide +kernel
theorem dEq12_29 : decode jdk_42_method_66_code 29 = .ok (.aload_n 2, 1) := by decide +kernel
theorem dEq12_30 : decode jdk_42_method_66_code 30 = .ok (.getfield 15, 3) := by decide +kernel
theorem dEq12_33 : decode jdk_42_method_66_code 33 = .ok (.if_icmp .ne 21, 3) := by decide +kernel
theorem dEq12_36 : decode jdk_42_method_66_code 36 = .ok (.aload_n 0, 1) := by decide +kernel
theorem dEq12_37 : decode jdk_42_method_66_code 37 = .ok (.getfield 9, 3) := by decide +kernel
theorem dEq12_40 : decode jdk_42_method_66_code 40 = .ok (.aload_n 2, 1) := by decide +kernel
theorem dEq12_41 : decode jdk_42_method_66_code 41 = .ok (.getfield 9, 3) := by decide +kernel
theorem dEq12_44 : decode jdk_42_method_66_code 44 = .ok (.invokestatic 541, 3) := by decide +kernel
theorem dEq12_47 : decode jdk_42_method_66_code 47 = .ok (.ifCond .eq 7, 3) := by decide +kernel
theorem dEq12_54 : decode jdk_42_method_66_code 54 = .ok (.iconst 0, 1) := by decide +kernel
theorem dEq12_55 : decode jdk_42_method_66_code 55 = .ok (.ireturn, 1) := by decide +kernel
theorem pnEq12 : plainName "java/lang/String" = true := by first | (simp [plainName, overriddenIn]; done) | decide +kernel
theorem efEq12 (m : MethodId) (a0 : Addr) (a1 : Addr) : entryFrame m #[(.ref a0), (.ref a1)] 3 = mkF m 0 #[.val (.ref a0), .val (.ref a1), .unset] [] := by first | (simp [entryFrame, mkF, argsToLocals, Value.category]; done) | rfl
def QEq12 (Z : State) (a0 : Addr) (a1 : Addr) (t0 : Addr) (t1 : Addr) (k0 : ClassId) (k1 : ClassId) (cs : Int32) (x0 : Int32) (y0 : Int32) (y1 : Int32) (h0 : Heap) (n0 : Nat) (v : Option Value) (h : Heap) (L : List Loc) : Prop := v = some (.int (0 : Int32)) ∧ Fr n0 L ∧ h = h0
set_option maxRecDepth 65536 in
set_option maxHeartbeats 40000000 in
theorem rmEq12 (l : Launch) (Z : State) (a0 : Array Value) (hw : ∀ d ∈ tables_1, d.before a0 Z = true) (ws : List Jvm.Cond) (a0 : Addr) (a1 : Addr) (t0 : Addr) (t1 : Addr) (k0 : ClassId) (k1 : ClassId) (cs : Int32) (x0 : Int32) (y0 : Int32) (y1 : Int32) (h0 : Heap) (n0 : Nat) (Z0 : n0 ≤ h0.size) (E1 : Exa Z h0 a1 "java/lang/String") (Fc0 : Fld Z h0 a0 "java/lang/String" "coder" "B" (.int (0 : Int32))) (Fc1 : Fld Z h0 a1 "java/lang/String" "coder" "B" (.int (0 : Int32))) (Fv0 : Fld Z h0 a0 "java/lang/String" "value" "[B" (.ref t0)) (Fv1 : Fld Z h0 a1 "java/lang/String" "value" "[B" (.ref t1)) (V1 : Arv Z h0 t0 k0 .byte (1 : Int32) [(.int x0)] (.int (0 : Int32))) (V2 : Arv Z h0 t1 k1 .byte (2 : Int32) [(.int y0), (.int y1)] (.int (0 : Int32))) (Scs : Sta Z h0 "java/lang/String" "COMPACT_STRINGS" "Z" (.int cs)) (hcs : ¬ cs = (0 : Int32)) (hne : a0 ≠ a1) :
    MetFree l (⟨"java/lang/String", "equals", "(Ljava/lang/Object;)Z"⟩ : MethodName) (head1 (Jvm.Cond.code (⟨"java/lang/String", "equals", "(Ljava/lang/Object;)Z"⟩ : MethodName) jdk_42_method_66_code 3 (some .boolean) :: ws) ({ frames := 1, cells := 0, slots := 0, locals := 14 } : Room)) (fun a U => a = #[(.ref a0), (.ref a1)] ∧ Z.Warmed39 U.vm ∧ U.heap = h0) (fun _ _ _ _ _ => True) (fun _ U o U' => ∃ v L, o = .returned v ∧ QEq12 Z a0 a1 t0 t1 k0 k1 cs x0 y0 y1 h0 n0 v U'.heap L ∧ FrameEnd U o U' L ({ frames := 1, cells := 0, slots := 0, locals := 14 } : Room).cells ({ frames := 1, cells := 0, slots := 0, locals := 14 } : Room).slots) := by
  refine MetFree.of_bodySF (plainFor_of_name pnEq12) hisR ?_
  intro p e s m args below meth c s₁ Bd hml0 hP hK
  obtain ⟨rfl, hZ, hh⟩ := hP
  have hx := Bd.exec
  have hby := Bd.bytes
  have hlk := BodyLoose.notSynchronized Bd
  have hret := Bd.returns
  have hml : c.maxLocals = 3 := hml0
  have hown : s.vm.findClass "java/lang/String" = some m.cls := findClass_of_methodNamed Bd.named
  have hnm := (name_of_methodNamed Bd.named Bd.method).1
  have X0 : Stand p l e ({ frames := 1, cells := 0, slots := 0, locals := 14 } : Room) s m #[(.ref a0), (.ref a1)] below meth c s₁ [] 0 0 := Stand.of_body Bd
  have e0 : s₁.heap = h0 := by rw [← hh, Bd.state]; rfl
  have N0 := Fr.nil n0
  show OFin p e below (KPost s (QEq12 Z a0 a1 t0 t1 k0 k1 cs x0 y0 y1 h0 n0) ({ frames := 1, cells := 0, slots := 0, locals := 14 } : Room).cells ({ frames := 1, cells := 0, slots := 0, locals := 14 } : Room).slots) _
  rw [efEq12 m a0 a1]
  refine OFin.of (S' := s₁.setTop (mkF m 8 #[.val (.ref a0), .val (.ref a1), .unset] [(.ref a1)])) (fun t ht => ?_) ?_
  · refine XS.aloadN X0.here hx rfl (hb hby dEq12_0) rfl rfl ?_
    show Steps p.tables e below (s₁.setTop (mkF m 1 _ [(.ref a0)])) _
    refine XS.aloadN X0.here hx rfl (hb hby dEq12_1) rfl rfl ?_
    show Steps p.tables e below (s₁.setTop (mkF m 2 _ [(.ref a1), (.ref a0)])) _
    refine acmp X0 hx rfl (cd := .ne) (x := (.ref a0)) (y := (.ref a1)) rfl rfl (pc0 := 2) (pc' := 7) (same := false) rfl (hb hby dEq12_2) rfl (decide_eq_false (fun q => hne (Value.ref.inj q))) (by decide) (by decide) ?_
    show Steps p.tables e below (s₁.setTop (mkF m 7 _ [])) _
    refine XS.aloadN X0.here hx rfl (hb hby dEq12_7) rfl rfl ?_
    exact ht
  obtain ⟨T1, X1, e1, st1⟩ := instY X0 hx hZ hown (hw _ (List.mem_of_getElem? (i := 62) rfl)) e0 (Ins.self E1) (g := (mkF m 8 #[.val (.ref a0), .val (.ref a1), .unset] [(.ref a1)])) rfl rfl (hb hby dEq12_8)
  refine OFin.of (S' := T1.setTop (mkF m 11 #[.val (.ref a0), .val (.ref a1), .unset] [(.int (1 : Int32))])) (fun t ht => st1 t ht) ?_
  refine OFin.of (S' := T1.setTop (mkF m 15 #[.val (.ref a0), .val (.ref a1), .unset] [(.ref a1)])) (fun t ht => ?_) ?_
  · refine XS.ifNo X1.here hx rfl (hb hby dEq12_11) rfl ((if0 _ _).trans (feq (by decide : ¬ ((1 : Int32) = (0 : Int32)))).1) ?_
    show Steps p.tables e below (T1.setTop (mkF m 14 _ [])) _
    refine XS.aloadN X1.here hx rfl (hb hby dEq12_14) rfl rfl ?_
    exact ht
  obtain ⟨T2, X2, e2, st2⟩ := castY X1 hx hZ hown (hw _ (List.mem_of_getElem? (i := 62) rfl)) e1 (Ins.self E1) (g := (mkF m 15 #[.val (.ref a0), .val (.ref a1), .unset] [(.ref a1)])) rfl rfl (hb hby dEq12_15)
  refine OFin.of (S' := T2.setTop (mkF m 18 #[.val (.ref a0), .val (.ref a1), .unset] [(.ref a1)])) (fun t ht => st2 t ht) ?_
  refine OFin.of (S' := T2.setTop (mkF m 19 #[.val (.ref a0), .val (.ref a1), .val (.ref a1)] [])) (fun t ht => ?_) ?_
  · refine XS.astoreN X2.here hx rfl (hb hby dEq12_18) rfl rfl (l' := #[.val (.ref a0), .val (.ref a1), .val (.ref a1)]) rfl ?_
    exact ht
  obtain ⟨T3, X3, e3, st3⟩ := getS (host := "") X2 hx hZ hown (hw _ (List.mem_of_getElem? (i := 14) rfl)) Via.refl e2 Scs (g := (mkF m 19 #[.val (.ref a0), .val (.ref a1), .val (.ref a1)] [])) rfl (hb hby dEq12_19)
  refine OFin.of (S' := T3.setTop (mkF m 22 #[.val (.ref a0), .val (.ref a1), .val (.ref a1)] [(.int cs)])) (fun t ht => st3 t ht) ?_
  refine OFin.of (S' := T3.setTop (mkF m 26 #[.val (.ref a0), .val (.ref a1), .val (.ref a1)] [(.ref a0)])) (fun t ht => ?_) ?_
  · refine XS.ifNo X3.here hx rfl (hb hby dEq12_22) rfl ((if0 _ _).trans (feq (hcs : ¬ (cs = (0 : Int32)))).1) ?_
    show Steps p.tables e below (T3.setTop (mkF m 25 _ [])) _
    refine XS.aloadN X3.here hx rfl (hb hby dEq12_25) rfl rfl ?_
    exact ht
  obtain ⟨T4, X4, e4, st4⟩ := getF X3 hx hZ hown (host := "") (Or.inl (hw _ (List.mem_of_getElem? (i := 26) rfl))) Via.refl e3 Fc0 (g := (mkF m 26 #[.val (.ref a0), .val (.ref a1), .val (.ref a1)] [(.ref a0)])) rfl rfl (hb hby dEq12_26)
  refine OFin.of (S' := T4.setTop (mkF m 29 #[.val (.ref a0), .val (.ref a1), .val (.ref a1)] [(.int (0 : Int32))])) (fun t ht => st4 t ht) ?_
  refine OFin.of (S' := T4.setTop (mkF m 30 #[.val (.ref a0), .val (.ref a1), .val (.ref a1)] [(.ref a1), (.int (0 : Int32))])) (fun t ht => ?_) ?_
  · refine XS.aloadN X4.here hx rfl (hb hby dEq12_29) rfl rfl ?_
    exact ht
  obtain ⟨T5, X5, e5, st5⟩ := getF X4 hx hZ hown (host := "") (Or.inl (hw _ (List.mem_of_getElem? (i := 26) rfl))) Via.refl e4 Fc1 (g := (mkF m 30 #[.val (.ref a0), .val (.ref a1), .val (.ref a1)] [(.ref a1), (.int (0 : Int32))])) rfl rfl (hb hby dEq12_30)
  refine OFin.of (S' := T5.setTop (mkF m 33 #[.val (.ref a0), .val (.ref a1), .val (.ref a1)] [(.int (0 : Int32)), (.int (0 : Int32))])) (fun t ht => st5 t ht) ?_
  refine OFin.of (S' := T5.setTop (mkF m 37 #[.val (.ref a0), .val (.ref a1), .val (.ref a1)] [(.ref a0)])) (fun t ht => ?_) ?_
  · refine XS.icmpNo X5.here hx rfl (hb hby dEq12_33) rfl (teq (by decide : (0 : Int32) = (0 : Int32))).2 ?_
    show Steps p.tables e below (T5.setTop (mkF m 36 _ [])) _
    refine XS.aloadN X5.here hx rfl (hb hby dEq12_36) rfl rfl ?_
    exact ht
  obtain ⟨T6, X6, e6, st6⟩ := getF X5 hx hZ hown (host := "") (Or.inl (hw _ (List.mem_of_getElem? (i := 28) rfl))) Via.refl e5 Fv0 (g := (mkF m 37 #[.val (.ref a0), .val (.ref a1), .val (.ref a1)] [(.ref a0)])) rfl rfl (hb hby dEq12_37)
  refine OFin.of (S' := T6.setTop (mkF m 40 #[.val (.ref a0), .val (.ref a1), .val (.ref a1)] [(.ref t0)])) (fun t ht => st6 t ht) ?_
  refine OFin.of (S' := T6.setTop (mkF m 41 #[.val (.ref a0), .val (.ref a1), .val (.ref a1)] [(.ref a1), (.ref t0)])) (fun t ht => ?_) ?_
  · refine XS.aloadN X6.here hx rfl (hb hby dEq12_40) rfl rfl ?_
    exact ht
  obtain ⟨T7, X7, e7, st7⟩ := getF X6 hx hZ hown (host := "") (Or.inl (hw _ (List.mem_of_getElem? (i := 28) rfl))) Via.refl e6 Fv1 (g := (mkF m 41 #[.val (.ref a0), .val (.ref a1), .val (.ref a1)] [(.ref a1), (.ref t0)])) rfl rfl (hb hby dEq12_41)
  refine OFin.of (S' := T7.setTop (mkF m 44 #[.val (.ref a0), .val (.ref a1), .val (.ref a1)] [(.ref t1), (.ref t0)])) (fun t ht => st7 t ht) ?_
  obtain ⟨_, _, ⟨T8, L8, k8, n8⟩, -, X8, ⟨Lc8, hQ8, l8, y8, z8⟩, st8⟩ := Jvm.LawKit.callS X7 hx (y := (⟨"java/lang/StringLatin1", "equals", "([B[B)Z"⟩ : MethodName)) hown (mvT hZ (hw _ (List.mem_of_getElem? (i := 63) rfl))) (mvT hZ (hw _ (List.mem_of_getElem? (i := 64) rfl))) (mvT hZ (hw _ (List.mem_of_getElem? (i := 65) rfl))) (mvT hZ (hw _ (List.mem_of_getElem? (i := 66) rfl))) (by decide) (backOf (W := 0) (rmLe12 l Z _ hw [] t0 t1 k0 k1 x0 y0 y1 h0 n0 Z0 V1 V2) hZ (hw _ (List.mem_of_getElem? (i := 66) rfl)) (hw _ (List.mem_of_getElem? (i := 65) rfl)) (by decide) (by decide)) (g := (mkF m 44 #[.val (.ref a0), .val (.ref a1), .val (.ref a1)] [(.ref t1), (.ref t0)])) rfl (by rw [hml]; rfl) (argsL := [(.ref t0), (.ref t1)]) (rest := []) (lenOf pd_0 rfl) rfl (by show 2 * 0 + _ ≤ _; exact Nat.le_of_eq rfl) (hb hby dEq12_44) (fun _ _ => ⟨rfl, e7, (by decide : 0 + 0 ≤ _), (by decide : 0 + 0 ≤ _)⟩)
  dsimp only [Pt.U, Pt.locs, Pt.cells, Pt.slots] at X8 l8 y8 z8 st8 hQ8
  subst l8 y8 z8
  obtain ⟨rfl, Nq8, hs8⟩ := hQ8
  have N9 := Fr.app N0 Nq8
  refine OFin.of (S' := T8.setTop (mkF m 47 #[.val (.ref a0), .val (.ref a1), .val (.ref a1)] [(.int (0 : Int32))])) (fun t ht => st8 t ht) ?_
  refine OFin.of (S' := T8.setTop (mkF m 55 #[.val (.ref a0), .val (.ref a1), .val (.ref a1)] [(.int (0 : Int32))])) (fun t ht => ?_) ?_
  · refine XS.ifYes X8.here hx rfl (pc0 := 47) (pc' := 54) rfl (hb hby dEq12_47) rfl ((if0 _ _).trans (teq (by decide : (0 : Int32) = (0 : Int32))).1) (by decide) (by decide) ?_
    show Steps p.tables e below (T8.setTop (mkF m 54 _ [])) _
    refine XS.iconst X8.here hx rfl (hb hby dEq12_54) ?_
    exact ht
  exact OFin.retB X8 hx hlk (t := .boolean) (by simp) hret (hb hby dEq12_55) (by decide) (by decide) (by rw [hs8]; exact ⟨(by show some (Value.int (0 : Int32)) = _; rfl), N9, rfl⟩)
def own_leq2 (x0 x1 y0 y1 : Int32) : Int32 := if x0 = y0 then (if x1 = y1 then (1) else 0) else 0
theorem dLe22_0 : decode jdk_43_method_13_code 0 = .ok (.aload_n 0, 1) := by decide +kernel
theorem dLe22_1 : decode jdk_43_method_13_code 1 = .ok (.arraylength, 1) := by decide +kernel
theorem dLe22_2 : decode jdk_43_method_13_code 2 = .ok (.aload_n 1, 1) := by decide +kernel
theorem dLe22_3 : decode jdk_43_method_13_code 3 = .ok (.arraylength, 1) := by decide +kernel
theorem dLe22_4 : decode jdk_43_method_13_code 4 = .ok (.if_icmp .ne 30, 3) := by decide +kernel
theorem dLe22_7 : decode jdk_43_method_13_code 7 = .ok (.iconst 0, 1) := by decide +kernel
theorem dLe22_8 : decode jdk_43_method_13_code 8 = .ok (.istore_n 2, 1) := by decide +kernel
theorem dLe22_9 : decode jdk_43_method_13_code 9 = .ok (.iload_n 2, 1) := by decide +kernel
theorem dLe22_10 : decode jdk_43_method_13_code 10 = .ok (.aload_n 0, 1) := by decide +kernel
theorem dLe22_11 : decode jdk_43_method_13_code 11 = .ok (.arraylength, 1) := by decide +kernel
theorem dLe22_12 : decode jdk_43_method_13_code 12 = .ok (.if_icmp .ge 20, 3) := by decide +kernel
theorem dLe22_15 : decode jdk_43_method_13_code 15 = .ok (.aload_n 0, 1) := by decide +kernel
theorem dLe22_16 : decode jdk_43_method_13_code 16 = .ok (.iload_n 2, 1) := by decide +kernel
theorem dLe22_17 : decode jdk_43_method_13_code 17 = .ok (.baload, 1) := by decide +kernel
theorem dLe22_18 : decode jdk_43_method_13_code 18 = .ok (.aload_n 1, 1) := by decide +kernel
theorem dLe22_19 : decode jdk_43_method_13_code 19 = .ok (.iload_n 2, 1) := by decide +kernel
theorem dLe22_20 : decode jdk_43_method_13_code 20 = .ok (.baload, 1) := by decide +kernel
theorem dLe22_21 : decode jdk_43_method_13_code 21 = .ok (.if_icmp .eq 5, 3) := by decide +kernel
theorem dLe22_24 : decode jdk_43_method_13_code 24 = .ok (.iconst 0, 1) := by decide +kernel
theorem dLe22_25 : decode jdk_43_method_13_code 25 = .ok (.ireturn, 1) := by decide +kernel
theorem dLe22_26 : decode jdk_43_method_13_code 26 = .ok (.iinc 2 1, 3) := by decide +kernel
theorem dLe22_29 : decode jdk_43_method_13_code 29 = .ok (.goto (-20), 3) := by decide +kernel
theorem dLe22_32 : decode jdk_43_method_13_code 32 = .ok (.iconst 1, 1) := by decide +kernel
theorem dLe22_33 : decode jdk_43_method_13_code 33 = .ok (.ireturn, 1) := by decide +kernel
theorem pnLe22 : plainName "java/lang/StringLatin1" = true := by first | (simp [plainName, overriddenIn]; done) | decide +kernel
theorem efLe22 (m : MethodId) (a0 : Addr) (a1 : Addr) : entryFrame m #[(.ref a0), (.ref a1)] 3 = mkF m 0 #[.val (.ref a0), .val (.ref a1), .unset] [] := by first | (simp [entryFrame, mkF, argsToLocals, Value.category]; done) | rfl
def QLe22 (Z : State) (a0 : Addr) (a1 : Addr) (k0 : ClassId) (k1 : ClassId) (x0 : Int32) (x1 : Int32) (y0 : Int32) (y1 : Int32) (h0 : Heap) (n0 : Nat) (v : Option Value) (h : Heap) (L : List Loc) : Prop := v = some (.int (own_leq2 x0 x1 y0 y1)) ∧ Fr n0 L ∧ h = h0
set_option maxRecDepth 65536 in
set_option maxHeartbeats 40000000 in
theorem rmLe22 (l : Launch) (Z : State) (a0 : Array Value) (hw : ∀ d ∈ tables_1, d.before a0 Z = true) (ws : List Jvm.Cond) (a0 : Addr) (a1 : Addr) (k0 : ClassId) (k1 : ClassId) (x0 : Int32) (x1 : Int32) (y0 : Int32) (y1 : Int32) (h0 : Heap) (n0 : Nat) (Z0 : n0 ≤ h0.size) (V1 : Arv Z h0 a0 k0 .byte (2 : Int32) [(.int x0), (.int x1)] (.int (0 : Int32))) (V2 : Arv Z h0 a1 k1 .byte (2 : Int32) [(.int y0), (.int y1)] (.int (0 : Int32))) :
    MetFree l (⟨"java/lang/StringLatin1", "equals", "([B[B)Z"⟩ : MethodName) (head1 (Jvm.Cond.code (⟨"java/lang/StringLatin1", "equals", "([B[B)Z"⟩ : MethodName) jdk_43_method_13_code 3 (some .boolean) :: ws) ({ frames := 0, cells := 0, slots := 0, locals := 0 } : Room)) (fun a U => a = #[(.ref a0), (.ref a1)] ∧ Z.Warmed39 U.vm ∧ U.heap = h0) (fun _ _ _ _ _ => True) (fun _ U o U' => ∃ v L, o = .returned v ∧ QLe22 Z a0 a1 k0 k1 x0 x1 y0 y1 h0 n0 v U'.heap L ∧ FrameEnd U o U' L ({ frames := 0, cells := 0, slots := 0, locals := 0 } : Room).cells ({ frames := 0, cells := 0, slots := 0, locals := 0 } : Room).slots) := by
  refine MetFree.of_bodySF (plainFor_of_name pnLe22) hisR ?_
  intro p e s m args below meth c s₁ Bd hml0 hP hK
  obtain ⟨rfl, hZ, hh⟩ := hP
  have hx := Bd.exec
  have hby := Bd.bytes
  have hlk := BodyLoose.notSynchronized Bd
  have hret := Bd.returns
  have hml : c.maxLocals = 3 := hml0
  have hown : s.vm.findClass "java/lang/StringLatin1" = some m.cls := findClass_of_methodNamed Bd.named
  have hnm := (name_of_methodNamed Bd.named Bd.method).1
  have X0 : Stand p l e ({ frames := 0, cells := 0, slots := 0, locals := 0 } : Room) s m #[(.ref a0), (.ref a1)] below meth c s₁ [] 0 0 := Stand.of_body Bd
  have e0 : s₁.heap = h0 := by rw [← hh, Bd.state]; rfl
  have N0 := Fr.nil n0
  show OFin p e below (KPost s (QLe22 Z a0 a1 k0 k1 x0 x1 y0 y1 h0 n0) ({ frames := 0, cells := 0, slots := 0, locals := 0 } : Room).cells ({ frames := 0, cells := 0, slots := 0, locals := 0 } : Room).slots) _
  rw [efLe22 m a0 a1]
  refine OFin.of (S' := s₁.setTop (mkF m 1 #[.val (.ref a0), .val (.ref a1), .unset] [(.ref a0)])) (fun t ht => ?_) ?_
  · refine XS.aloadN X0.here hx rfl (hb hby dLe22_0) rfl rfl ?_
    exact ht
  obtain ⟨cl1, Ar1, q1, S1, Ng1, H1, G1⟩ := id V1
  refine OFin.of (S' := s₁.setTop (mkF m 2 #[.val (.ref a0), .val (.ref a1), .unset] [(.int (2 : Int32))])) (fun t ht => own_alen X0 hx hZ e0 Ar1 S1 Ng1 (g := (mkF m 1 #[.val (.ref a0), .val (.ref a1), .unset] [(.ref a0)])) rfl rfl (hb hby dLe22_1) ht) ?_
  refine OFin.of (S' := s₁.setTop (mkF m 3 #[.val (.ref a0), .val (.ref a1), .unset] [(.ref a1), (.int (2 : Int32))])) (fun t ht => ?_) ?_
  · refine XS.aloadN X0.here hx rfl (hb hby dLe22_2) rfl rfl ?_
    exact ht
  obtain ⟨cl2, Ar2, q2, S2, Ng2, H2, G2⟩ := id V2
  refine OFin.of (S' := s₁.setTop (mkF m 4 #[.val (.ref a0), .val (.ref a1), .unset] [(.int (2 : Int32)), (.int (2 : Int32))])) (fun t ht => own_alen X0 hx hZ e0 Ar2 S2 Ng2 (g := (mkF m 3 #[.val (.ref a0), .val (.ref a1), .unset] [(.ref a1), (.int (2 : Int32))])) rfl rfl (hb hby dLe22_3) ht) ?_
  refine OFin.of (S' := s₁.setTop (mkF m 11 #[.val (.ref a0), .val (.ref a1), .val (.int (0 : Int32))] [(.ref a0), (.int (0 : Int32))])) (fun t ht => ?_) ?_
  · refine XS.icmpNo X0.here hx rfl (hb hby dLe22_4) rfl (teq (by decide : (2 : Int32) = (2 : Int32))).2 ?_
    show Steps p.tables e below (s₁.setTop (mkF m 7 _ [])) _
    refine XS.iconst X0.here hx rfl (hb hby dLe22_7) ?_
    show Steps p.tables e below (s₁.setTop (mkF m 8 _ [(.int (0 : Int32))])) _
    refine XS.istoreN X0.here hx rfl (hb hby dLe22_8) rfl (l' := #[.val (.ref a0), .val (.ref a1), .val (.int (0 : Int32))]) rfl ?_
    show Steps p.tables e below (s₁.setTop (mkF m 9 #[.val (.ref a0), .val (.ref a1), .val (.int (0 : Int32))] [])) _
    refine XS.iloadN X0.here hx rfl (hb hby dLe22_9) rfl ?_
    show Steps p.tables e below (s₁.setTop (mkF m 10 _ [(.int (0 : Int32))])) _
    refine XS.aloadN X0.here hx rfl (hb hby dLe22_10) rfl rfl ?_
    exact ht
  obtain ⟨cl3, Ar3, q3, S3, Ng3, H3, G3⟩ := id V1
  refine OFin.of (S' := s₁.setTop (mkF m 12 #[.val (.ref a0), .val (.ref a1), .val (.int (0 : Int32))] [(.int (2 : Int32)), (.int (0 : Int32))])) (fun t ht => own_alen X0 hx hZ e0 Ar3 S3 Ng3 (g := (mkF m 11 #[.val (.ref a0), .val (.ref a1), .val (.int (0 : Int32))] [(.ref a0), (.int (0 : Int32))])) rfl rfl (hb hby dLe22_11) ht) ?_
  refine OFin.of (S' := s₁.setTop (mkF m 17 #[.val (.ref a0), .val (.ref a1), .val (.int (0 : Int32))] [(.int (0 : Int32)), (.ref a0)])) (fun t ht => ?_) ?_
  · refine XS.icmpNo X0.here hx rfl (hb hby dLe22_12) rfl (tlt (by decide : (0 : Int32) < (2 : Int32))).2.1 ?_
    show Steps p.tables e below (s₁.setTop (mkF m 15 _ [])) _
    refine XS.aloadN X0.here hx rfl (hb hby dLe22_15) rfl rfl ?_
    show Steps p.tables e below (s₁.setTop (mkF m 16 _ [(.ref a0)])) _
    refine XS.iloadN X0.here hx rfl (hb hby dLe22_16) rfl ?_
    exact ht
  obtain ⟨cl4, Ar4, q4, S4, Ng4, H4, G4⟩ := id V1
  have hin4 := inb_of (j := (0 : Int32)) S4 ⟨by decide, by decide⟩
  have hat4 : cl4.slots[((0 : Int32)).toNatClampNeg]? = some (.int x0) := Has.at H4 hin4 rfl
  refine OFin.of (S' := s₁.setTop (mkF m 18 #[.val (.ref a0), .val (.ref a1), .val (.int (0 : Int32))] [(.int x0)])) (fun t ht => X0.baloadBytes hx (j := (0 : Int32)) (v := (.int x0)) (by rw [e0]; exact Ar4.1) (State.isArrayOf_alike hZ.alike Ar4.2.1) Ar4.2.2 hin4 hat4 (g := (mkF m 17 #[.val (.ref a0), .val (.ref a1), .val (.int (0 : Int32))] [(.int (0 : Int32)), (.ref a0)])) rfl rfl (hb hby dLe22_17) _ ht) ?_
  refine OFin.of (S' := s₁.setTop (mkF m 20 #[.val (.ref a0), .val (.ref a1), .val (.int (0 : Int32))] [(.int (0 : Int32)), (.ref a1), (.int x0)])) (fun t ht => ?_) ?_
  · refine XS.aloadN X0.here hx rfl (hb hby dLe22_18) rfl rfl ?_
    show Steps p.tables e below (s₁.setTop (mkF m 19 _ [(.ref a1), (.int x0)])) _
    refine XS.iloadN X0.here hx rfl (hb hby dLe22_19) rfl ?_
    exact ht
  obtain ⟨cl5, Ar5, q5, S5, Ng5, H5, G5⟩ := id V2
  have hin5 := inb_of (j := (0 : Int32)) S5 ⟨by decide, by decide⟩
  have hat5 : cl5.slots[((0 : Int32)).toNatClampNeg]? = some (.int y0) := Has.at H5 hin5 rfl
  refine OFin.of (S' := s₁.setTop (mkF m 21 #[.val (.ref a0), .val (.ref a1), .val (.int (0 : Int32))] [(.int y0), (.int x0)])) (fun t ht => X0.baloadBytes hx (j := (0 : Int32)) (v := (.int y0)) (by rw [e0]; exact Ar5.1) (State.isArrayOf_alike hZ.alike Ar5.2.1) Ar5.2.2 hin5 hat5 (g := (mkF m 20 #[.val (.ref a0), .val (.ref a1), .val (.int (0 : Int32))] [(.int (0 : Int32)), (.ref a1), (.int x0)])) rfl rfl (hb hby dLe22_20) _ ht) ?_
  by_cases hc6 : x0 = y0
  · refine OFin.of (S' := s₁.setTop (mkF m 11 #[.val (.ref a0), .val (.ref a1), .val (.int (1 : Int32))] [(.ref a0), (.int (1 : Int32))])) (fun t ht => ?_) ?_
    · refine XS.icmpYes X0.here hx rfl (pc0 := 21) (pc' := 26) rfl (hb hby dLe22_21) rfl (teq (hc6 : x0 = y0)).1 (by decide) (by decide) ?_
      show Steps p.tables e below (s₁.setTop (mkF m 26 _ [])) _
      refine XS.iinc X0.here hx rfl (hb hby dLe22_26) rfl (l' := #[.val (.ref a0), .val (.ref a1), .val (.int (1 : Int32))]) rfl ?_
      show Steps p.tables e below (s₁.setTop (mkF m 29 #[.val (.ref a0), .val (.ref a1), .val (.int (1 : Int32))] [])) _
      refine XS.goto X0.here hx rfl (pc0 := 29) (pc' := 9) rfl (hb hby dLe22_29) (by decide) (by decide) ?_
      show Steps p.tables e below (s₁.setTop (mkF m 9 _ [])) _
      refine XS.iloadN X0.here hx rfl (hb hby dLe22_9) rfl ?_
      show Steps p.tables e below (s₁.setTop (mkF m 10 _ [(.int (1 : Int32))])) _
      refine XS.aloadN X0.here hx rfl (hb hby dLe22_10) rfl rfl ?_
      exact ht
    obtain ⟨cl7, Ar7, q7, S7, Ng7, H7, G7⟩ := id V1
    refine OFin.of (S' := s₁.setTop (mkF m 12 #[.val (.ref a0), .val (.ref a1), .val (.int (1 : Int32))] [(.int (2 : Int32)), (.int (1 : Int32))])) (fun t ht => own_alen X0 hx hZ e0 Ar7 S7 Ng7 (g := (mkF m 11 #[.val (.ref a0), .val (.ref a1), .val (.int (1 : Int32))] [(.ref a0), (.int (1 : Int32))])) rfl rfl (hb hby dLe22_11) ht) ?_
    refine OFin.of (S' := s₁.setTop (mkF m 17 #[.val (.ref a0), .val (.ref a1), .val (.int (1 : Int32))] [(.int (1 : Int32)), (.ref a0)])) (fun t ht => ?_) ?_
    · refine XS.icmpNo X0.here hx rfl (hb hby dLe22_12) rfl (tlt (by decide : (1 : Int32) < (2 : Int32))).2.1 ?_
      show Steps p.tables e below (s₁.setTop (mkF m 15 _ [])) _
      refine XS.aloadN X0.here hx rfl (hb hby dLe22_15) rfl rfl ?_
      show Steps p.tables e below (s₁.setTop (mkF m 16 _ [(.ref a0)])) _
      refine XS.iloadN X0.here hx rfl (hb hby dLe22_16) rfl ?_
      exact ht
    obtain ⟨cl8, Ar8, q8, S8, Ng8, H8, G8⟩ := id V1
    have hin8 := inb_of (j := (1 : Int32)) S8 ⟨by decide, by decide⟩
    have hat8 : cl8.slots[((1 : Int32)).toNatClampNeg]? = some (.int x1) := Has.at H8 hin8 rfl
    refine OFin.of (S' := s₁.setTop (mkF m 18 #[.val (.ref a0), .val (.ref a1), .val (.int (1 : Int32))] [(.int x1)])) (fun t ht => X0.baloadBytes hx (j := (1 : Int32)) (v := (.int x1)) (by rw [e0]; exact Ar8.1) (State.isArrayOf_alike hZ.alike Ar8.2.1) Ar8.2.2 hin8 hat8 (g := (mkF m 17 #[.val (.ref a0), .val (.ref a1), .val (.int (1 : Int32))] [(.int (1 : Int32)), (.ref a0)])) rfl rfl (hb hby dLe22_17) _ ht) ?_
    refine OFin.of (S' := s₁.setTop (mkF m 20 #[.val (.ref a0), .val (.ref a1), .val (.int (1 : Int32))] [(.int (1 : Int32)), (.ref a1), (.int x1)])) (fun t ht => ?_) ?_
    · refine XS.aloadN X0.here hx rfl (hb hby dLe22_18) rfl rfl ?_
      show Steps p.tables e below (s₁.setTop (mkF m 19 _ [(.ref a1), (.int x1)])) _
      refine XS.iloadN X0.here hx rfl (hb hby dLe22_19) rfl ?_
      exact ht
    obtain ⟨cl9, Ar9, q9, S9, Ng9, H9, G9⟩ := id V2
    have hin9 := inb_of (j := (1 : Int32)) S9 ⟨by decide, by decide⟩
    have hat9 : cl9.slots[((1 : Int32)).toNatClampNeg]? = some (.int y1) := Has.at H9 hin9 rfl
    refine OFin.of (S' := s₁.setTop (mkF m 21 #[.val (.ref a0), .val (.ref a1), .val (.int (1 : Int32))] [(.int y1), (.int x1)])) (fun t ht => X0.baloadBytes hx (j := (1 : Int32)) (v := (.int y1)) (by rw [e0]; exact Ar9.1) (State.isArrayOf_alike hZ.alike Ar9.2.1) Ar9.2.2 hin9 hat9 (g := (mkF m 20 #[.val (.ref a0), .val (.ref a1), .val (.int (1 : Int32))] [(.int (1 : Int32)), (.ref a1), (.int x1)])) rfl rfl (hb hby dLe22_20) _ ht) ?_
    by_cases hc10 : x1 = y1
    · refine OFin.of (S' := s₁.setTop (mkF m 11 #[.val (.ref a0), .val (.ref a1), .val (.int (2 : Int32))] [(.ref a0), (.int (2 : Int32))])) (fun t ht => ?_) ?_
      · refine XS.icmpYes X0.here hx rfl (pc0 := 21) (pc' := 26) rfl (hb hby dLe22_21) rfl (teq (hc10 : x1 = y1)).1 (by decide) (by decide) ?_
        show Steps p.tables e below (s₁.setTop (mkF m 26 _ [])) _
        refine XS.iinc X0.here hx rfl (hb hby dLe22_26) rfl (l' := #[.val (.ref a0), .val (.ref a1), .val (.int (2 : Int32))]) rfl ?_
        show Steps p.tables e below (s₁.setTop (mkF m 29 #[.val (.ref a0), .val (.ref a1), .val (.int (2 : Int32))] [])) _
        refine XS.goto X0.here hx rfl (pc0 := 29) (pc' := 9) rfl (hb hby dLe22_29) (by decide) (by decide) ?_
        show Steps p.tables e below (s₁.setTop (mkF m 9 _ [])) _
        refine XS.iloadN X0.here hx rfl (hb hby dLe22_9) rfl ?_
        show Steps p.tables e below (s₁.setTop (mkF m 10 _ [(.int (2 : Int32))])) _
        refine XS.aloadN X0.here hx rfl (hb hby dLe22_10) rfl rfl ?_
        exact ht
      obtain ⟨cl11, Ar11, q11, S11, Ng11, H11, G11⟩ := id V1
      refine OFin.of (S' := s₁.setTop (mkF m 12 #[.val (.ref a0), .val (.ref a1), .val (.int (2 : Int32))] [(.int (2 : Int32)), (.int (2 : Int32))])) (fun t ht => own_alen X0 hx hZ e0 Ar11 S11 Ng11 (g := (mkF m 11 #[.val (.ref a0), .val (.ref a1), .val (.int (2 : Int32))] [(.ref a0), (.int (2 : Int32))])) rfl rfl (hb hby dLe22_11) ht) ?_
      refine OFin.of (S' := s₁.setTop (mkF m 33 #[.val (.ref a0), .val (.ref a1), .val (.int (2 : Int32))] [(.int (1 : Int32))])) (fun t ht => ?_) ?_
      · refine XS.icmpYes X0.here hx rfl (pc0 := 12) (pc' := 32) rfl (hb hby dLe22_12) rfl (flt (by decide : ¬ ((2 : Int32) < (2 : Int32)))).2.1 (by decide) (by decide) ?_
        show Steps p.tables e below (s₁.setTop (mkF m 32 _ [])) _
        refine XS.iconst X0.here hx rfl (hb hby dLe22_32) ?_
        exact ht
      exact OFin.retB X0 hx hlk (t := .boolean) (by simp) hret (hb hby dLe22_33) (by decide) (by decide) (by rw [e0]; exact ⟨(by show some (Value.int (1 : Int32)) = _; simp [own_leq2, hc6, hc10]), N0, rfl⟩)
    · refine OFin.of (S' := s₁.setTop (mkF m 25 #[.val (.ref a0), .val (.ref a1), .val (.int (1 : Int32))] [(.int (0 : Int32))])) (fun t ht => ?_) ?_
      · refine XS.icmpNo X0.here hx rfl (hb hby dLe22_21) rfl (feq (hc10 : ¬ (x1 = y1))).1 ?_
        show Steps p.tables e below (s₁.setTop (mkF m 24 _ [])) _
        refine XS.iconst X0.here hx rfl (hb hby dLe22_24) ?_
        exact ht
      exact OFin.retB X0 hx hlk (t := .boolean) (by simp) hret (hb hby dLe22_25) (by decide) (by decide) (by rw [e0]; exact ⟨(by show some (Value.int (0 : Int32)) = _; simp [own_leq2, hc6, hc10]), N0, rfl⟩)
  · refine OFin.of (S' := s₁.setTop (mkF m 25 #[.val (.ref a0), .val (.ref a1), .val (.int (0 : Int32))] [(.int (0 : Int32))])) (fun t ht => ?_) ?_
    · refine XS.icmpNo X0.here hx rfl (hb hby dLe22_21) rfl (feq (hc6 : ¬ (x0 = y0))).1 ?_
      show Steps p.tables e below (s₁.setTop (mkF m 24 _ [])) _
      refine XS.iconst X0.here hx rfl (hb hby dLe22_24) ?_
      exact ht
    exact OFin.retB X0 hx hlk (t := .boolean) (by simp) hret (hb hby dLe22_25) (by decide) (by decide) (by rw [e0]; exact ⟨(by show some (Value.int (0 : Int32)) = _; simp [own_leq2, hc6]), N0, rfl⟩)
theorem own_leqv2 (x0 x1 y0 y1 : Int32) : own_leq2 x0 x1 y0 y1 = 0 ∨ own_leq2 x0 x1 y0 y1 = 1 := by unfold own_leq2; (repeat' split) <;> simp
theorem dEq22_0 : decode jdk_42_method_66_code 0 = .ok (.aload_n 0, 1) := by decide +kernel
theorem dEq22_1 : decode jdk_42_method_66_code 1 = .ok (.aload_n 1, 1) := by decide +kernel
theorem dEq22_2 : decode jdk_42_method_66_code 2 = .ok (.if_acmp .ne 5, 3) := by decide +kernel
theorem dEq22_7 : decode jdk_42_method_66_code 7 = .ok (.aload_n 1, 1) := by decide +kernel
theorem dEq22_8 : decode jdk_42_method_66_code 8 = .ok (.instanceof 10, 3) := by decide +kernel
theorem dEq22_11 : decode jdk_42_method_66_code 11 = .ok (.ifCond .eq 43, 3) := by decide +kernel
theorem dEq22_14 : decode jdk_42_method_66_code 14 = .ok (.aload_n 1, 1) := by decide +kernel
theorem dEq22_15 : decode jdk_42_method_66_code 15 = .ok (.checkcast 10, 3) := by decide +kernel
theorem dEq22_18 : decode jdk_42_method_66_code 18 = .ok (.astore_n 2, 1) := by decide +kernel
theorem dEq22_19 : decode jdk_42_method_66_code 19 = .ok (.getstatic 38, 3) := by decide +kernel
theorem dEq22_22 : decode jdk_42_method_66_code 22 = .ok (.ifCond .eq 14, 3) := by decide +kernel
theorem dEq22_25 : decode jdk_42_method_66_code 25 = .ok (.aload_n 0, 1) := by decide +kernel
theorem dEq22_26 : decode jdk_42_method_66_code 26 = .ok (.getfield 15, 3) := by decide +kernel
theorem dEq22_29 : decode jdk_42_method_66_code 29 = .ok (.aload_n 2, 1) := by decide +kernel
theorem dEq22_30 : decode jdk_42_method_66_code 30 = .ok (.getfield 15, 3) := by decide +kernel
theorem dEq22_33 : decode jdk_42_method_66_code 33 = .ok (.if_icmp .ne 21, 3) := by decide +kernel
theorem dEq22_36 : decode jdk_42_method_66_code 36 = .ok (.aload_n 0, 1) := by decide +kernel
theorem dEq22_37 : decode jdk_42_method_66_code 37 = .ok (.getfield 9, 3) := by decide +kernel
theorem dEq22_40 : decode jdk_42_method_66_code 40 = .ok (.aload_n 2, 1) := by decide +kernel
theorem dEq22_41 : decode jdk_42_method_66_code 41 = .ok (.getfield 9, 3) := by decide +kernel
theorem dEq22_44 : decode jdk_42_method_66_code 44 = .ok (.invokestatic 541, 3) := by decide +kernel
theorem dEq22_47 : decode jdk_42_method_66_code 47 = .ok (.ifCond .eq 7, 3) := by decide +kernel
theorem dEq22_50 : decode jdk_42_method_66_code 50 = .ok (.iconst 1, 1) := by decide +kernel
theorem dEq22_51 : decode jdk_42_method_66_code 51 = .ok (.goto 4, 3) := by decide +kernel
theorem dEq22_54 : decode jdk_42_method_66_code 54 = .ok (.iconst 0, 1) := by decide +kernel
theorem dEq22_55 : decode jdk_42_method_66_code 55 = .ok (.ireturn, 1) := by decide +kernel
theorem pnEq22 : plainName "java/lang/String" = true := by first | (simp [plainName, overriddenIn]; done) | decide +kernel
theorem efEq22 (m : MethodId) (a0 : Addr) (a1 : Addr) : entryFrame m #[(.ref a0), (.ref a1)] 3 = mkF m 0 #[.val (.ref a0), .val (.ref a1), .unset] [] := by first | (simp [entryFrame, mkF, argsToLocals, Value.category]; done) | rfl
def QEq22 (Z : State) (a0 : Addr) (a1 : Addr) (t0 : Addr) (t1 : Addr) (k0 : ClassId) (k1 : ClassId) (cs : Int32) (x0 : Int32) (x1 : Int32) (y0 : Int32) (y1 : Int32) (h0 : Heap) (n0 : Nat) (v : Option Value) (h : Heap) (L : List Loc) : Prop := v = some (.int (own_leq2 x0 x1 y0 y1)) ∧ Fr n0 L ∧ h = h0
set_option maxRecDepth 65536 in
set_option maxHeartbeats 40000000 in
theorem rmEq22 (l : Launch) (Z : State) (a0 : Array Value) (hw : ∀ d ∈ tables_1, d.before a0 Z = true) (ws : List Jvm.Cond) (a0 : Addr) (a1 : Addr) (t0 : Addr) (t1 : Addr) (k0 : ClassId) (k1 : ClassId) (cs : Int32) (x0 : Int32) (x1 : Int32) (y0 : Int32) (y1 : Int32) (h0 : Heap) (n0 : Nat) (Z0 : n0 ≤ h0.size) (E1 : Exa Z h0 a1 "java/lang/String") (Fc0 : Fld Z h0 a0 "java/lang/String" "coder" "B" (.int (0 : Int32))) (Fc1 : Fld Z h0 a1 "java/lang/String" "coder" "B" (.int (0 : Int32))) (Fv0 : Fld Z h0 a0 "java/lang/String" "value" "[B" (.ref t0)) (Fv1 : Fld Z h0 a1 "java/lang/String" "value" "[B" (.ref t1)) (V1 : Arv Z h0 t0 k0 .byte (2 : Int32) [(.int x0), (.int x1)] (.int (0 : Int32))) (V2 : Arv Z h0 t1 k1 .byte (2 : Int32) [(.int y0), (.int y1)] (.int (0 : Int32))) (Scs : Sta Z h0 "java/lang/String" "COMPACT_STRINGS" "Z" (.int cs)) (hcs : ¬ cs = (0 : Int32)) (hne : a0 ≠ a1) :
    MetFree l (⟨"java/lang/String", "equals", "(Ljava/lang/Object;)Z"⟩ : MethodName) (head1 (Jvm.Cond.code (⟨"java/lang/String", "equals", "(Ljava/lang/Object;)Z"⟩ : MethodName) jdk_42_method_66_code 3 (some .boolean) :: ws) ({ frames := 1, cells := 0, slots := 0, locals := 14 } : Room)) (fun a U => a = #[(.ref a0), (.ref a1)] ∧ Z.Warmed39 U.vm ∧ U.heap = h0) (fun _ _ _ _ _ => True) (fun _ U o U' => ∃ v L, o = .returned v ∧ QEq22 Z a0 a1 t0 t1 k0 k1 cs x0 x1 y0 y1 h0 n0 v U'.heap L ∧ FrameEnd U o U' L ({ frames := 1, cells := 0, slots := 0, locals := 14 } : Room).cells ({ frames := 1, cells := 0, slots := 0, locals := 14 } : Room).slots) := by
  refine MetFree.of_bodySF (plainFor_of_name pnEq22) hisR ?_
  intro p e s m args below meth c s₁ Bd hml0 hP hK
  obtain ⟨rfl, hZ, hh⟩ := hP
  have hx := Bd.exec
  have hby := Bd.bytes
  have hlk := BodyLoose.notSynchronized Bd
  have hret := Bd.returns
  have hml : c.maxLocals = 3 := hml0
  have hown : s.vm.findClass "java/lang/String" = some m.cls := findClass_of_methodNamed Bd.named
  have hnm := (name_of_methodNamed Bd.named Bd.method).1
  have X0 : Stand p l e ({ frames := 1, cells := 0, slots := 0, locals := 14 } : Room) s m #[(.ref a0), (.ref a1)] below meth c s₁ [] 0 0 := Stand.of_body Bd
  have e0 : s₁.heap = h0 := by rw [← hh, Bd.state]; rfl
  have N0 := Fr.nil n0
  show OFin p e below (KPost s (QEq22 Z a0 a1 t0 t1 k0 k1 cs x0 x1 y0 y1 h0 n0) ({ frames := 1, cells := 0, slots := 0, locals := 14 } : Room).cells ({ frames := 1, cells := 0, slots := 0, locals := 14 } : Room).slots) _
  rw [efEq22 m a0 a1]
  refine OFin.of (S' := s₁.setTop (mkF m 8 #[.val (.ref a0), .val (.ref a1), .unset] [(.ref a1)])) (fun t ht => ?_) ?_
  · refine XS.aloadN X0.here hx rfl (hb hby dEq22_0) rfl rfl ?_
    show Steps p.tables e below (s₁.setTop (mkF m 1 _ [(.ref a0)])) _
    refine XS.aloadN X0.here hx rfl (hb hby dEq22_1) rfl rfl ?_
    show Steps p.tables e below (s₁.setTop (mkF m 2 _ [(.ref a1), (.ref a0)])) _
    refine acmp X0 hx rfl (cd := .ne) (x := (.ref a0)) (y := (.ref a1)) rfl rfl (pc0 := 2) (pc' := 7) (same := false) rfl (hb hby dEq22_2) rfl (decide_eq_false (fun q => hne (Value.ref.inj q))) (by decide) (by decide) ?_
    show Steps p.tables e below (s₁.setTop (mkF m 7 _ [])) _
    refine XS.aloadN X0.here hx rfl (hb hby dEq22_7) rfl rfl ?_
    exact ht
  obtain ⟨T1, X1, e1, st1⟩ := instY X0 hx hZ hown (hw _ (List.mem_of_getElem? (i := 62) rfl)) e0 (Ins.self E1) (g := (mkF m 8 #[.val (.ref a0), .val (.ref a1), .unset] [(.ref a1)])) rfl rfl (hb hby dEq22_8)
  refine OFin.of (S' := T1.setTop (mkF m 11 #[.val (.ref a0), .val (.ref a1), .unset] [(.int (1 : Int32))])) (fun t ht => st1 t ht) ?_
  refine OFin.of (S' := T1.setTop (mkF m 15 #[.val (.ref a0), .val (.ref a1), .unset] [(.ref a1)])) (fun t ht => ?_) ?_
  · refine XS.ifNo X1.here hx rfl (hb hby dEq22_11) rfl ((if0 _ _).trans (feq (by decide : ¬ ((1 : Int32) = (0 : Int32)))).1) ?_
    show Steps p.tables e below (T1.setTop (mkF m 14 _ [])) _
    refine XS.aloadN X1.here hx rfl (hb hby dEq22_14) rfl rfl ?_
    exact ht
  obtain ⟨T2, X2, e2, st2⟩ := castY X1 hx hZ hown (hw _ (List.mem_of_getElem? (i := 62) rfl)) e1 (Ins.self E1) (g := (mkF m 15 #[.val (.ref a0), .val (.ref a1), .unset] [(.ref a1)])) rfl rfl (hb hby dEq22_15)
  refine OFin.of (S' := T2.setTop (mkF m 18 #[.val (.ref a0), .val (.ref a1), .unset] [(.ref a1)])) (fun t ht => st2 t ht) ?_
  refine OFin.of (S' := T2.setTop (mkF m 19 #[.val (.ref a0), .val (.ref a1), .val (.ref a1)] [])) (fun t ht => ?_) ?_
  · refine XS.astoreN X2.here hx rfl (hb hby dEq22_18) rfl rfl (l' := #[.val (.ref a0), .val (.ref a1), .val (.ref a1)]) rfl ?_
    exact ht
  obtain ⟨T3, X3, e3, st3⟩ := getS (host := "") X2 hx hZ hown (hw _ (List.mem_of_getElem? (i := 14) rfl)) Via.refl e2 Scs (g := (mkF m 19 #[.val (.ref a0), .val (.ref a1), .val (.ref a1)] [])) rfl (hb hby dEq22_19)
  refine OFin.of (S' := T3.setTop (mkF m 22 #[.val (.ref a0), .val (.ref a1), .val (.ref a1)] [(.int cs)])) (fun t ht => st3 t ht) ?_
  refine OFin.of (S' := T3.setTop (mkF m 26 #[.val (.ref a0), .val (.ref a1), .val (.ref a1)] [(.ref a0)])) (fun t ht => ?_) ?_
  · refine XS.ifNo X3.here hx rfl (hb hby dEq22_22) rfl ((if0 _ _).trans (feq (hcs : ¬ (cs = (0 : Int32)))).1) ?_
    show Steps p.tables e below (T3.setTop (mkF m 25 _ [])) _
    refine XS.aloadN X3.here hx rfl (hb hby dEq22_25) rfl rfl ?_
    exact ht
  obtain ⟨T4, X4, e4, st4⟩ := getF X3 hx hZ hown (host := "") (Or.inl (hw _ (List.mem_of_getElem? (i := 26) rfl))) Via.refl e3 Fc0 (g := (mkF m 26 #[.val (.ref a0), .val (.ref a1), .val (.ref a1)] [(.ref a0)])) rfl rfl (hb hby dEq22_26)
  refine OFin.of (S' := T4.setTop (mkF m 29 #[.val (.ref a0), .val (.ref a1), .val (.ref a1)] [(.int (0 : Int32))])) (fun t ht => st4 t ht) ?_
  refine OFin.of (S' := T4.setTop (mkF m 30 #[.val (.ref a0), .val (.ref a1), .val (.ref a1)] [(.ref a1), (.int (0 : Int32))])) (fun t ht => ?_) ?_
  · refine XS.aloadN X4.here hx rfl (hb hby dEq22_29) rfl rfl ?_
    exact ht
  obtain ⟨T5, X5, e5, st5⟩ := getF X4 hx hZ hown (host := "") (Or.inl (hw _ (List.mem_of_getElem? (i := 26) rfl))) Via.refl e4 Fc1 (g := (mkF m 30 #[.val (.ref a0), .val (.ref a1), .val (.ref a1)] [(.ref a1), (.int (0 : Int32))])) rfl rfl (hb hby dEq22_30)
  refine OFin.of (S' := T5.setTop (mkF m 33 #[.val (.ref a0), .val (.ref a1), .val (.ref a1)] [(.int (0 : Int32)), (.int (0 : Int32))])) (fun t ht => st5 t ht) ?_
  refine OFin.of (S' := T5.setTop (mkF m 37 #[.val (.ref a0), .val (.ref a1), .val (.ref a1)] [(.ref a0)])) (fun t ht => ?_) ?_
  · refine XS.icmpNo X5.here hx rfl (hb hby dEq22_33) rfl (teq (by decide : (0 : Int32) = (0 : Int32))).2 ?_
    show Steps p.tables e below (T5.setTop (mkF m 36 _ [])) _
    refine XS.aloadN X5.here hx rfl (hb hby dEq22_36) rfl rfl ?_
    exact ht
  obtain ⟨T6, X6, e6, st6⟩ := getF X5 hx hZ hown (host := "") (Or.inl (hw _ (List.mem_of_getElem? (i := 28) rfl))) Via.refl e5 Fv0 (g := (mkF m 37 #[.val (.ref a0), .val (.ref a1), .val (.ref a1)] [(.ref a0)])) rfl rfl (hb hby dEq22_37)
  refine OFin.of (S' := T6.setTop (mkF m 40 #[.val (.ref a0), .val (.ref a1), .val (.ref a1)] [(.ref t0)])) (fun t ht => st6 t ht) ?_
  refine OFin.of (S' := T6.setTop (mkF m 41 #[.val (.ref a0), .val (.ref a1), .val (.ref a1)] [(.ref a1), (.ref t0)])) (fun t ht => ?_) ?_
  · refine XS.aloadN X6.here hx rfl (hb hby dEq22_40) rfl rfl ?_
    exact ht
  obtain ⟨T7, X7, e7, st7⟩ := getF X6 hx hZ hown (host := "") (Or.inl (hw _ (List.mem_of_getElem? (i := 28) rfl))) Via.refl e6 Fv1 (g := (mkF m 41 #[.val (.ref a0), .val (.ref a1), .val (.ref a1)] [(.ref a1), (.ref t0)])) rfl rfl (hb hby dEq22_41)
  refine OFin.of (S' := T7.setTop (mkF m 44 #[.val (.ref a0), .val (.ref a1), .val (.ref a1)] [(.ref t1), (.ref t0)])) (fun t ht => st7 t ht) ?_
  obtain ⟨_, _, ⟨T8, L8, k8, n8⟩, -, X8, ⟨Lc8, hQ8, l8, y8, z8⟩, st8⟩ := Jvm.LawKit.callS X7 hx (y := (⟨"java/lang/StringLatin1", "equals", "([B[B)Z"⟩ : MethodName)) hown (mvT hZ (hw _ (List.mem_of_getElem? (i := 63) rfl))) (mvT hZ (hw _ (List.mem_of_getElem? (i := 64) rfl))) (mvT hZ (hw _ (List.mem_of_getElem? (i := 65) rfl))) (mvT hZ (hw _ (List.mem_of_getElem? (i := 66) rfl))) (by decide) (backOf (W := 0) (rmLe22 l Z _ hw [] t0 t1 k0 k1 x0 x1 y0 y1 h0 n0 Z0 V1 V2) hZ (hw _ (List.mem_of_getElem? (i := 66) rfl)) (hw _ (List.mem_of_getElem? (i := 65) rfl)) (by decide) (by decide)) (g := (mkF m 44 #[.val (.ref a0), .val (.ref a1), .val (.ref a1)] [(.ref t1), (.ref t0)])) rfl (by rw [hml]; rfl) (argsL := [(.ref t0), (.ref t1)]) (rest := []) (lenOf pd_0 rfl) rfl (by show 2 * 0 + _ ≤ _; exact Nat.le_of_eq rfl) (hb hby dEq22_44) (fun _ _ => ⟨rfl, e7, (by decide : 0 + 0 ≤ _), (by decide : 0 + 0 ≤ _)⟩)
  dsimp only [Pt.U, Pt.locs, Pt.cells, Pt.slots] at X8 l8 y8 z8 st8 hQ8
  subst l8 y8 z8
  obtain ⟨rfl, Nq8, hs8⟩ := hQ8
  have N9 := Fr.app N0 Nq8
  refine OFin.of (S' := T8.setTop (mkF m 47 #[.val (.ref a0), .val (.ref a1), .val (.ref a1)] [(.int (own_leq2 x0 x1 y0 y1))])) (fun t ht => st8 t ht) ?_
  by_cases hc10 : (own_leq2 x0 x1 y0 y1) = (0 : Int32)
  · refine OFin.of (S' := T8.setTop (mkF m 55 #[.val (.ref a0), .val (.ref a1), .val (.ref a1)] [(.int (0 : Int32))])) (fun t ht => ?_) ?_
    · refine XS.ifYes X8.here hx rfl (pc0 := 47) (pc' := 54) rfl (hb hby dEq22_47) rfl ((if0 _ _).trans (teq (hc10 : (own_leq2 x0 x1 y0 y1) = (0 : Int32))).1) (by decide) (by decide) ?_
      show Steps p.tables e below (T8.setTop (mkF m 54 _ [])) _
      refine XS.iconst X8.here hx rfl (hb hby dEq22_54) ?_
      exact ht
    exact OFin.retB X8 hx hlk (t := .boolean) (by simp) hret (hb hby dEq22_55) (by decide) (by decide) (by rw [hs8]; exact ⟨(by show some (Value.int (0 : Int32)) = _; rw [hc10]), N9, rfl⟩)
  · refine OFin.of (S' := T8.setTop (mkF m 55 #[.val (.ref a0), .val (.ref a1), .val (.ref a1)] [(.int (1 : Int32))])) (fun t ht => ?_) ?_
    · refine XS.ifNo X8.here hx rfl (hb hby dEq22_47) rfl ((if0 _ _).trans (feq (hc10 : ¬ ((own_leq2 x0 x1 y0 y1) = (0 : Int32)))).1) ?_
      show Steps p.tables e below (T8.setTop (mkF m 50 _ [])) _
      refine XS.iconst X8.here hx rfl (hb hby dEq22_50) ?_
      show Steps p.tables e below (T8.setTop (mkF m 51 _ [(.int (1 : Int32))])) _
      refine XS.goto X8.here hx rfl (pc0 := 51) (pc' := 55) rfl (hb hby dEq22_51) (by decide) (by decide) ?_
      exact ht
    exact OFin.retB X8 hx hlk (t := .boolean) (by simp) hret (hb hby dEq22_55) (by decide) (by decide) (by rw [hs8]; exact ⟨(by show some (Value.int (1 : Int32)) = _; rw [(own_leqv2 x0 x1 y0 y1).resolve_left hc10]), N9, rfl⟩)
theorem dEs_0 : decode jdk_42_method_66_code 0 = .ok (.aload_n 0, 1) := by decide +kernel
theorem dEs_1 : decode jdk_42_method_66_code 1 = .ok (.aload_n 1, 1) := by decide +kernel
theorem dEs_2 : decode jdk_42_method_66_code 2 = .ok (.if_acmp .ne 5, 3) := by decide +kernel
theorem dEs_5 : decode jdk_42_method_66_code 5 = .ok (.iconst 1, 1) := by decide +kernel
theorem dEs_6 : decode jdk_42_method_66_code 6 = .ok (.ireturn, 1) := by decide +kernel
theorem pnEs : plainName "java/lang/String" = true := by first | (simp [plainName, overriddenIn]; done) | decide +kernel
theorem efEs (m : MethodId) (a0 : Addr) : entryFrame m #[(.ref a0), (.ref a0)] 3 = mkF m 0 #[.val (.ref a0), .val (.ref a0), .unset] [] := by first | (simp [entryFrame, mkF, argsToLocals, Value.category]; done) | rfl
def QEs (Z : State) (a0 : Addr) (h0 : Heap) (n0 : Nat) (v : Option Value) (h : Heap) (L : List Loc) : Prop := v = some (.int (1 : Int32)) ∧ Fr n0 L ∧ h = h0
set_option maxRecDepth 65536 in
set_option maxHeartbeats 40000000 in
theorem rmEs (l : Launch) (Z : State) (a0 : Array Value) (hw : ∀ d ∈ tables_1, d.before a0 Z = true) (ws : List Jvm.Cond) (a0 : Addr) (h0 : Heap) (n0 : Nat) (Z0 : n0 ≤ h0.size)  :
    MetFree l (⟨"java/lang/String", "equals", "(Ljava/lang/Object;)Z"⟩ : MethodName) (head1 (Jvm.Cond.code (⟨"java/lang/String", "equals", "(Ljava/lang/Object;)Z"⟩ : MethodName) jdk_42_method_66_code 3 (some .boolean) :: ws) ({ frames := 0, cells := 0, slots := 0, locals := 0 } : Room)) (fun a U => a = #[(.ref a0), (.ref a0)] ∧ Z.Warmed39 U.vm ∧ U.heap = h0) (fun _ _ _ _ _ => True) (fun _ U o U' => ∃ v L, o = .returned v ∧ QEs Z a0 h0 n0 v U'.heap L ∧ FrameEnd U o U' L ({ frames := 0, cells := 0, slots := 0, locals := 0 } : Room).cells ({ frames := 0, cells := 0, slots := 0, locals := 0 } : Room).slots) := by
  refine MetFree.of_bodySF (plainFor_of_name pnEs) hisR ?_
  intro p e s m args below meth c s₁ Bd hml0 hP hK
  obtain ⟨rfl, hZ, hh⟩ := hP
  have hx := Bd.exec
  have hby := Bd.bytes
  have hlk := BodyLoose.notSynchronized Bd
  have hret := Bd.returns
  have hml : c.maxLocals = 3 := hml0
  have hown : s.vm.findClass "java/lang/String" = some m.cls := findClass_of_methodNamed Bd.named
  have hnm := (name_of_methodNamed Bd.named Bd.method).1
  have X0 : Stand p l e ({ frames := 0, cells := 0, slots := 0, locals := 0 } : Room) s m #[(.ref a0), (.ref a0)] below meth c s₁ [] 0 0 := Stand.of_body Bd
  have e0 : s₁.heap = h0 := by rw [← hh, Bd.state]; rfl
  have N0 := Fr.nil n0
  show OFin p e below (KPost s (QEs Z a0 h0 n0) ({ frames := 0, cells := 0, slots := 0, locals := 0 } : Room).cells ({ frames := 0, cells := 0, slots := 0, locals := 0 } : Room).slots) _
  rw [efEs m a0]
  refine OFin.of (S' := s₁.setTop (mkF m 6 #[.val (.ref a0), .val (.ref a0), .unset] [(.int (1 : Int32))])) (fun t ht => ?_) ?_
  · refine XS.aloadN X0.here hx rfl (hb hby dEs_0) rfl rfl ?_
    show Steps p.tables e below (s₁.setTop (mkF m 1 _ [(.ref a0)])) _
    refine XS.aloadN X0.here hx rfl (hb hby dEs_1) rfl rfl ?_
    show Steps p.tables e below (s₁.setTop (mkF m 2 _ [(.ref a0), (.ref a0)])) _
    refine acmp X0 hx rfl (cd := .ne) (x := (.ref a0)) (y := (.ref a0)) rfl rfl (pc0 := 2) (pc' := 5) (same := true) rfl (hb hby dEs_2) rfl (decide_eq_true rfl) (by decide) (by decide) ?_
    show Steps p.tables e below (s₁.setTop (mkF m 5 _ [])) _
    refine XS.iconst X0.here hx rfl (hb hby dEs_5) ?_
    exact ht
  exact OFin.retB X0 hx hlk (t := .boolean) (by simp) hret (hb hby dEs_6) (by decide) (by decide) (by rw [e0]; exact ⟨rfl, N0, rfl⟩)
theorem dCf1_0 : decode jdk_52_method_21_code 0 = .ok (.iconst 0, 1) := by decide +kernel
theorem dCf1_1 : decode jdk_52_method_21_code 1 = .ok (.istore 5, 2) := by decide +kernel
theorem dCf1_3 : decode jdk_52_method_21_code 3 = .ok (.iload 5, 2) := by decide +kernel
theorem dCf1_5 : decode jdk_52_method_21_code 5 = .ok (.iload 4, 2) := by decide +kernel
theorem dCf1_7 : decode jdk_52_method_21_code 7 = .ok (.if_icmp .ge 37, 3) := by decide +kernel
theorem dCf1_10 : decode jdk_52_method_21_code 10 = .ok (.aload_n 0, 1) := by decide +kernel
theorem dCf1_11 : decode jdk_52_method_21_code 11 = .ok (.iload_n 1, 1) := by decide +kernel
theorem dCf1_12 : decode jdk_52_method_21_code 12 = .ok (.caload, 1) := by decide +kernel
theorem dCf1_13 : decode jdk_52_method_21_code 13 = .ok (.istore 6, 2) := by decide +kernel
theorem dCf1_15 : decode jdk_52_method_21_code 15 = .ok (.iload 6, 2) := by decide +kernel
theorem dCf1_17 : decode jdk_52_method_21_code 17 = .ok (.sipush 255, 3) := by decide +kernel
theorem dCf1_20 : decode jdk_52_method_21_code 20 = .ok (.if_icmp .le 6, 3) := by decide +kernel
theorem dCf1_26 : decode jdk_52_method_21_code 26 = .ok (.aload_n 2, 1) := by decide +kernel
theorem dCf1_27 : decode jdk_52_method_21_code 27 = .ok (.iload_n 3, 1) := by decide +kernel
theorem dCf1_28 : decode jdk_52_method_21_code 28 = .ok (.iload 6, 2) := by decide +kernel
theorem dCf1_30 : decode jdk_52_method_21_code 30 = .ok (.i2b, 1) := by decide +kernel
theorem dCf1_31 : decode jdk_52_method_21_code 31 = .ok (.bastore, 1) := by decide +kernel
theorem dCf1_32 : decode jdk_52_method_21_code 32 = .ok (.iinc 1 1, 3) := by decide +kernel
theorem dCf1_35 : decode jdk_52_method_21_code 35 = .ok (.iinc 3 1, 3) := by decide +kernel
theorem dCf1_38 : decode jdk_52_method_21_code 38 = .ok (.iinc 5 1, 3) := by decide +kernel
theorem dCf1_41 : decode jdk_52_method_21_code 41 = .ok (.goto (-38), 3) := by decide +kernel
theorem dCf1_44 : decode jdk_52_method_21_code 44 = .ok (.iload 4, 2) := by decide +kernel
theorem dCf1_46 : decode jdk_52_method_21_code 46 = .ok (.ireturn, 1) := by decide +kernel
theorem pnCf1 : plainName "java/lang/StringUTF16" = true := by first | (simp [plainName, overriddenIn]; done) | decide +kernel
theorem efCf1 (m : MethodId) (a0 : Addr) (a2 : Addr) : entryFrame m #[(.ref a0), (.int (0 : Int32)), (.ref a2), (.int (0 : Int32)), (.int (1 : Int32))] 7 = mkF m 0 #[.val (.ref a0), .val (.int (0 : Int32)), .val (.ref a2), .val (.int (0 : Int32)), .val (.int (1 : Int32)), .unset, .unset] [] := by first | (simp [entryFrame, mkF, argsToLocals, Value.category]; done) | rfl
def QCf1 (Z : State) (a0 : Addr) (a2 : Addr) (kc : ClassId) (kb : ClassId) (c0 : Int32) (h0 : Heap) (n0 : Nat) (v : Option Value) (h : Heap) (L : List Loc) : Prop := v = some (.int (1 : Int32)) ∧ Fr n0 L ∧ Keep h0 h [a2] ∧ Arv Z h a2 kb .byte (1 : Int32) [(.int ((c0.toInt8.toInt32).toInt8.toInt32))] (.int (0 : Int32))
set_option maxRecDepth 65536 in
set_option maxHeartbeats 40000000 in
theorem rmCf1 (l : Launch) (Z : State) (a0 : Array Value) (hw : ∀ d ∈ tables_1, d.before a0 Z = true) (ws : List Jvm.Cond) (a0 : Addr) (a2 : Addr) (kc : ClassId) (kb : ClassId) (c0 : Int32) (h0 : Heap) (n0 : Nat) (Z0 : n0 ≤ h0.size) (V1 : Arv Z h0 a0 kc .char (1 : Int32) [(.int c0)] (.int (0 : Int32))) (V2 : Arv Z h0 a2 kb .byte (1 : Int32) [(.int (0 : Int32))] (.int (0 : Int32))) (g2 : n0 ≤ a2) (hne : a0 ≠ a2) (hp0 : ¬ (255 : Int32) < c0) :
    MetFree l (⟨"java/lang/StringUTF16", "compress", "([CI[BII)I"⟩ : MethodName) (head1 (Jvm.Cond.code (⟨"java/lang/StringUTF16", "compress", "([CI[BII)I"⟩ : MethodName) jdk_52_method_21_code 7 (some .int) :: ws) ({ frames := 0, cells := 0, slots := 0, locals := 0 } : Room)) (fun a U => a = #[(.ref a0), (.int (0 : Int32)), (.ref a2), (.int (0 : Int32)), (.int (1 : Int32))] ∧ Z.Warmed39 U.vm ∧ U.heap = h0) (fun _ _ _ _ _ => True) (fun _ U o U' => ∃ v L, o = .returned v ∧ QCf1 Z a0 a2 kc kb c0 h0 n0 v U'.heap L ∧ FrameEnd U o U' L ({ frames := 0, cells := 0, slots := 0, locals := 0 } : Room).cells ({ frames := 0, cells := 0, slots := 0, locals := 0 } : Room).slots) := by
  refine MetFree.of_bodySF (plainFor_of_name pnCf1) hisR ?_
  intro p e s m args below meth c s₁ Bd hml0 hP hK
  obtain ⟨rfl, hZ, hh⟩ := hP
  have hx := Bd.exec
  have hby := Bd.bytes
  have hlk := BodyLoose.notSynchronized Bd
  have hret := Bd.returns
  have hml : c.maxLocals = 7 := hml0
  have hown : s.vm.findClass "java/lang/StringUTF16" = some m.cls := findClass_of_methodNamed Bd.named
  have hnm := (name_of_methodNamed Bd.named Bd.method).1
  have X0 : Stand p l e ({ frames := 0, cells := 0, slots := 0, locals := 0 } : Room) s m #[(.ref a0), (.int (0 : Int32)), (.ref a2), (.int (0 : Int32)), (.int (1 : Int32))] below meth c s₁ [] 0 0 := Stand.of_body Bd
  have e0 : s₁.heap = h0 := by rw [← hh, Bd.state]; rfl
  have N0 := Fr.nil n0
  show OFin p e below (KPost s (QCf1 Z a0 a2 kc kb c0 h0 n0) ({ frames := 0, cells := 0, slots := 0, locals := 0 } : Room).cells ({ frames := 0, cells := 0, slots := 0, locals := 0 } : Room).slots) _
  rw [efCf1 m a0 a2]
  have K0 : Keep h0 h0 [a2] := Keep.refl _ _
  refine OFin.of (S' := s₁.setTop (mkF m 12 #[.val (.ref a0), .val (.int (0 : Int32)), .val (.ref a2), .val (.int (0 : Int32)), .val (.int (1 : Int32)), .val (.int (0 : Int32)), .unset] [(.int (0 : Int32)), (.ref a0)])) (fun t ht => ?_) ?_
  · refine XS.iconst X0.here hx rfl (hb hby dCf1_0) ?_
    show Steps p.tables e below (s₁.setTop (mkF m 1 _ [(.int (0 : Int32))])) _
    refine XS.istore X0.here hx rfl (hb hby dCf1_1) rfl (l' := #[.val (.ref a0), .val (.int (0 : Int32)), .val (.ref a2), .val (.int (0 : Int32)), .val (.int (1 : Int32)), .val (.int (0 : Int32)), .unset]) rfl ?_
    show Steps p.tables e below (s₁.setTop (mkF m 3 #[.val (.ref a0), .val (.int (0 : Int32)), .val (.ref a2), .val (.int (0 : Int32)), .val (.int (1 : Int32)), .val (.int (0 : Int32)), .unset] [])) _
    refine XS.iload X0.here hx rfl (hb hby dCf1_3) rfl ?_
    show Steps p.tables e below (s₁.setTop (mkF m 5 _ [(.int (0 : Int32))])) _
    refine XS.iload X0.here hx rfl (hb hby dCf1_5) rfl ?_
    show Steps p.tables e below (s₁.setTop (mkF m 7 _ [(.int (1 : Int32)), (.int (0 : Int32))])) _
    refine XS.icmpNo X0.here hx rfl (hb hby dCf1_7) rfl (tlt (by decide : (0 : Int32) < (1 : Int32))).2.1 ?_
    show Steps p.tables e below (s₁.setTop (mkF m 10 _ [])) _
    refine XS.aloadN X0.here hx rfl (hb hby dCf1_10) rfl rfl ?_
    show Steps p.tables e below (s₁.setTop (mkF m 11 _ [(.ref a0)])) _
    refine XS.iloadN X0.here hx rfl (hb hby dCf1_11) rfl ?_
    exact ht
  obtain ⟨cl1, Ar1, q1, S1, Ng1, H1, G1⟩ := id V1
  have hin1 := inb_of (j := (0 : Int32)) S1 ⟨by decide, by decide⟩
  have hat1 : cl1.slots[((0 : Int32)).toNatClampNeg]? = some (.int c0) := Has.at H1 hin1 rfl
  refine OFin.of (S' := s₁.setTop (mkF m 13 #[.val (.ref a0), .val (.int (0 : Int32)), .val (.ref a2), .val (.int (0 : Int32)), .val (.int (1 : Int32)), .val (.int (0 : Int32)), .unset] [(.int c0)])) (fun t ht => X0.caload hx (j := (0 : Int32)) (v := (.int c0)) (by rw [e0]; exact Ar1.1) (State.isArrayOf_alike hZ.alike Ar1.2.1) Ar1.2.2 hin1 hat1 (g := (mkF m 12 #[.val (.ref a0), .val (.int (0 : Int32)), .val (.ref a2), .val (.int (0 : Int32)), .val (.int (1 : Int32)), .val (.int (0 : Int32)), .unset] [(.int (0 : Int32)), (.ref a0)])) rfl rfl (hb hby dCf1_12) _ ht) ?_
  refine OFin.of (S' := s₁.setTop (mkF m 31 #[.val (.ref a0), .val (.int (0 : Int32)), .val (.ref a2), .val (.int (0 : Int32)), .val (.int (1 : Int32)), .val (.int (0 : Int32)), .val (.int c0)] [(.int (c0.toInt8.toInt32)), (.int (0 : Int32)), (.ref a2)])) (fun t ht => ?_) ?_
  · refine XS.istore X0.here hx rfl (hb hby dCf1_13) rfl (l' := #[.val (.ref a0), .val (.int (0 : Int32)), .val (.ref a2), .val (.int (0 : Int32)), .val (.int (1 : Int32)), .val (.int (0 : Int32)), .val (.int c0)]) rfl ?_
    show Steps p.tables e below (s₁.setTop (mkF m 15 #[.val (.ref a0), .val (.int (0 : Int32)), .val (.ref a2), .val (.int (0 : Int32)), .val (.int (1 : Int32)), .val (.int (0 : Int32)), .val (.int c0)] [])) _
    refine XS.iload X0.here hx rfl (hb hby dCf1_15) rfl ?_
    show Steps p.tables e below (s₁.setTop (mkF m 17 _ [(.int c0)])) _
    refine XS.sipush X0.here hx rfl (hb hby dCf1_17) ?_
    show Steps p.tables e below (s₁.setTop (mkF m 20 _ [(.int (255 : Int32)), (.int c0)])) _
    refine XS.icmpYes X0.here hx rfl (pc0 := 20) (pc' := 26) rfl (hb hby dCf1_20) rfl (flt (hp0 : ¬ ((255 : Int32) < c0))).2.2.2 (by decide) (by decide) ?_
    show Steps p.tables e below (s₁.setTop (mkF m 26 _ [])) _
    refine XS.aloadN X0.here hx rfl (hb hby dCf1_26) rfl rfl ?_
    show Steps p.tables e below (s₁.setTop (mkF m 27 _ [(.ref a2)])) _
    refine XS.iloadN X0.here hx rfl (hb hby dCf1_27) rfl ?_
    show Steps p.tables e below (s₁.setTop (mkF m 28 _ [(.int (0 : Int32)), (.ref a2)])) _
    refine XS.iload X0.here hx rfl (hb hby dCf1_28) rfl ?_
    show Steps p.tables e below (s₁.setTop (mkF m 30 _ [(.int c0), (.int (0 : Int32)), (.ref a2)])) _
    refine XS.i2b X0.here hx rfl (hb hby dCf1_30) rfl ?_
    exact ht
  obtain ⟨cl2, Ar2, q2, S2, Ng2, H2, G2⟩ := id V2
  have hin2 := inb_of (j := (0 : Int32)) S2 ⟨by decide, by decide⟩
  obtain ⟨T2, h2, X2, e2, W2, st2⟩ := stB X0 hx hZ e0 Ar2 (j := (0 : Int32)) hin2 (g := (mkF m 31 #[.val (.ref a0), .val (.int (0 : Int32)), .val (.ref a2), .val (.int (0 : Int32)), .val (.int (1 : Int32)), .val (.int (0 : Int32)), .val (.int c0)] [(.int (c0.toInt8.toInt32)), (.int (0 : Int32)), (.ref a2)])) rfl rfl (hb hby dCf1_31)
  have f3 := (V1.other W2 hne)
  have Z4 : n0 ≤ h2.size := (Nat.le_trans Z0 (Keep.of_wr W2).1)
  have K5 : Keep h0 h2 [a2] := (K0.wr W2 (Or.inl (List.mem_of_getElem? (i := 0) rfl)))
  have N6 := Fr.snoc X2 N0 g2
  have f7 : Arv Z h2 a2 kb .byte (1 : Int32) [(.int ((c0.toInt8.toInt32).toInt8.toInt32))] (.int (0 : Int32)) := Arv.set Ar2 q2 S2 Ng2 H2 G2 (fits_nar_byte _) W2 0 rfl (Nat.le_of_ble_eq_true rfl)
  refine OFin.of (S' := T2.setTop (mkF m 32 #[.val (.ref a0), .val (.int (0 : Int32)), .val (.ref a2), .val (.int (0 : Int32)), .val (.int (1 : Int32)), .val (.int (0 : Int32)), .val (.int c0)] [])) (fun t ht => st2 t ht) ?_
  refine OFin.of (S' := T2.setTop (mkF m 46 #[.val (.ref a0), .val (.int (1 : Int32)), .val (.ref a2), .val (.int (1 : Int32)), .val (.int (1 : Int32)), .val (.int (1 : Int32)), .val (.int c0)] [(.int (1 : Int32))])) (fun t ht => ?_) ?_
  · refine XS.iinc X2.here hx rfl (hb hby dCf1_32) rfl (l' := #[.val (.ref a0), .val (.int (1 : Int32)), .val (.ref a2), .val (.int (0 : Int32)), .val (.int (1 : Int32)), .val (.int (0 : Int32)), .val (.int c0)]) rfl ?_
    show Steps p.tables e below (T2.setTop (mkF m 35 #[.val (.ref a0), .val (.int (1 : Int32)), .val (.ref a2), .val (.int (0 : Int32)), .val (.int (1 : Int32)), .val (.int (0 : Int32)), .val (.int c0)] [])) _
    refine XS.iinc X2.here hx rfl (hb hby dCf1_35) rfl (l' := #[.val (.ref a0), .val (.int (1 : Int32)), .val (.ref a2), .val (.int (1 : Int32)), .val (.int (1 : Int32)), .val (.int (0 : Int32)), .val (.int c0)]) rfl ?_
    show Steps p.tables e below (T2.setTop (mkF m 38 #[.val (.ref a0), .val (.int (1 : Int32)), .val (.ref a2), .val (.int (1 : Int32)), .val (.int (1 : Int32)), .val (.int (0 : Int32)), .val (.int c0)] [])) _
    refine XS.iinc X2.here hx rfl (hb hby dCf1_38) rfl (l' := #[.val (.ref a0), .val (.int (1 : Int32)), .val (.ref a2), .val (.int (1 : Int32)), .val (.int (1 : Int32)), .val (.int (1 : Int32)), .val (.int c0)]) rfl ?_
    show Steps p.tables e below (T2.setTop (mkF m 41 #[.val (.ref a0), .val (.int (1 : Int32)), .val (.ref a2), .val (.int (1 : Int32)), .val (.int (1 : Int32)), .val (.int (1 : Int32)), .val (.int c0)] [])) _
    refine XS.goto X2.here hx rfl (pc0 := 41) (pc' := 3) rfl (hb hby dCf1_41) (by decide) (by decide) ?_
    show Steps p.tables e below (T2.setTop (mkF m 3 _ [])) _
    refine XS.iload X2.here hx rfl (hb hby dCf1_3) rfl ?_
    show Steps p.tables e below (T2.setTop (mkF m 5 _ [(.int (1 : Int32))])) _
    refine XS.iload X2.here hx rfl (hb hby dCf1_5) rfl ?_
    show Steps p.tables e below (T2.setTop (mkF m 7 _ [(.int (1 : Int32)), (.int (1 : Int32))])) _
    refine XS.icmpYes X2.here hx rfl (pc0 := 7) (pc' := 44) rfl (hb hby dCf1_7) rfl (flt (by decide : ¬ ((1 : Int32) < (1 : Int32)))).2.1 (by decide) (by decide) ?_
    show Steps p.tables e below (T2.setTop (mkF m 44 _ [])) _
    refine XS.iload X2.here hx rfl (hb hby dCf1_44) rfl ?_
    exact ht
  exact OFin.retI X2 hx hlk hret (hb hby dCf1_46) (by decide) (by decide) (by rw [e2]; exact ⟨rfl, N6, K5, f7⟩)
theorem dCt1_0 : decode jdk_52_method_16_code 0 = .ok (.iload_n 2, 1) := by decide +kernel
theorem dCt1_1 : decode jdk_52_method_16_code 1 = .ok (.newarray .byte, 2) := by decide +kernel
theorem dCt1_3 : decode jdk_52_method_16_code 3 = .ok (.astore_n 3, 1) := by decide +kernel
theorem dCt1_4 : decode jdk_52_method_16_code 4 = .ok (.aload_n 0, 1) := by decide +kernel
theorem dCt1_5 : decode jdk_52_method_16_code 5 = .ok (.iload_n 1, 1) := by decide +kernel
theorem dCt1_6 : decode jdk_52_method_16_code 6 = .ok (.aload_n 3, 1) := by decide +kernel
theorem dCt1_7 : decode jdk_52_method_16_code 7 = .ok (.iconst 0, 1) := by decide +kernel
theorem dCt1_8 : decode jdk_52_method_16_code 8 = .ok (.iload_n 2, 1) := by decide +kernel
theorem dCt1_9 : decode jdk_52_method_16_code 9 = .ok (.invokestatic 115, 3) := by decide +kernel
theorem dCt1_12 : decode jdk_52_method_16_code 12 = .ok (.istore 4, 2) := by decide +kernel
theorem dCt1_14 : decode jdk_52_method_16_code 14 = .ok (.iload 4, 2) := by decide +kernel
theorem dCt1_16 : decode jdk_52_method_16_code 16 = .ok (.iload_n 2, 1) := by decide +kernel
theorem dCt1_17 : decode jdk_52_method_16_code 17 = .ok (.if_icmp .eq 40, 3) := by decide +kernel
theorem dCt1_57 : decode jdk_52_method_16_code 57 = .ok (.aload_n 3, 1) := by decide +kernel
theorem dCt1_58 : decode jdk_52_method_16_code 58 = .ok (.areturn, 1) := by decide +kernel
theorem pnCt1 : plainName "java/lang/StringUTF16" = true := by first | (simp [plainName, overriddenIn]; done) | decide +kernel
theorem efCt1 (m : MethodId) (a0 : Addr) : entryFrame m #[(.ref a0), (.int (0 : Int32)), (.int (1 : Int32))] 6 = mkF m 0 #[.val (.ref a0), .val (.int (0 : Int32)), .val (.int (1 : Int32)), .unset, .unset, .unset] [] := by first | (simp [entryFrame, mkF, argsToLocals, Value.category]; done) | rfl
def QCt1 (Z : State) (a0 : Addr) (kc : ClassId) (c0 : Int32) (h0 : Heap) (n0 : Nat) (v : Option Value) (h : Heap) (L : List Loc) : Prop := v = some (.ref h0.size) ∧ Fr n0 L ∧ Keep h0 h [] ∧ ∃ kb, Arv Z h h0.size kb .byte (1 : Int32) [(.int ((c0.toInt8.toInt32).toInt8.toInt32))] (.int (0 : Int32))
set_option maxRecDepth 65536 in
set_option maxHeartbeats 40000000 in
theorem rmCt1 (l : Launch) (Z : State) (a0 : Array Value) (hw : ∀ d ∈ tables_1, d.before a0 Z = true) (ws : List Jvm.Cond) (a0 : Addr) (kc : ClassId) (c0 : Int32) (h0 : Heap) (n0 : Nat) (Z0 : n0 ≤ h0.size) (V1 : Arv Z h0 a0 kc .char (1 : Int32) [(.int c0)] (.int (0 : Int32))) (hp0 : ¬ (255 : Int32) < c0) :
    MetFree l (⟨"java/lang/StringUTF16", "compress", "([CII)[B"⟩ : MethodName) (head1 (Jvm.Cond.code (⟨"java/lang/StringUTF16", "compress", "([CII)[B"⟩ : MethodName) jdk_52_method_16_code 6 (some (.array .byte)) :: ws) ({ frames := 1, cells := 1, slots := 1, locals := 18 } : Room)) (fun a U => a = #[(.ref a0), (.int (0 : Int32)), (.int (1 : Int32))] ∧ Z.Warmed39 U.vm ∧ U.heap = h0) (fun _ _ _ _ _ => True) (fun _ U o U' => ∃ v L, o = .returned v ∧ QCt1 Z a0 kc c0 h0 n0 v U'.heap L ∧ FrameEnd U o U' L ({ frames := 1, cells := 1, slots := 1, locals := 18 } : Room).cells ({ frames := 1, cells := 1, slots := 1, locals := 18 } : Room).slots) := by
  refine MetFree.of_bodySF (plainFor_of_name pnCt1) hisR ?_
  intro p e s m args below meth c s₁ Bd hml0 hP hK
  obtain ⟨rfl, hZ, hh⟩ := hP
  have hx := Bd.exec
  have hby := Bd.bytes
  have hlk := BodyLoose.notSynchronized Bd
  have hret := Bd.returns
  have hml : c.maxLocals = 6 := hml0
  have hown : s.vm.findClass "java/lang/StringUTF16" = some m.cls := findClass_of_methodNamed Bd.named
  have hnm := (name_of_methodNamed Bd.named Bd.method).1
  have X0 : Stand p l e ({ frames := 1, cells := 1, slots := 1, locals := 18 } : Room) s m #[(.ref a0), (.int (0 : Int32)), (.int (1 : Int32))] below meth c s₁ [] 0 0 := Stand.of_body Bd
  have e0 : s₁.heap = h0 := by rw [← hh, Bd.state]; rfl
  have N0 := Fr.nil n0
  show OFin p e below (KPost s (QCt1 Z a0 kc c0 h0 n0) ({ frames := 1, cells := 1, slots := 1, locals := 18 } : Room).cells ({ frames := 1, cells := 1, slots := 1, locals := 18 } : Room).slots) _
  rw [efCt1 m a0]
  have K0 : Keep h0 h0 [] := Keep.refl _ _
  refine OFin.of (S' := s₁.setTop (mkF m 1 #[.val (.ref a0), .val (.int (0 : Int32)), .val (.int (1 : Int32)), .unset, .unset, .unset] [(.int (1 : Int32))])) (fun t ht => ?_) ?_
  · refine XS.iloadN X0.here hx rfl (hb hby dCt1_0) rfl ?_
    exact ht
  obtain ⟨T1, h1, k1, X1, e1, E1, A1, st1⟩ := newP X0 hx hZ (hw _ (List.mem_of_getElem? (i := 19) rfl)) e0 (g := (mkF m 1 #[.val (.ref a0), .val (.int (0 : Int32)), .val (.int (1 : Int32)), .unset, .unset, .unset] [(.int (1 : Int32))])) rfl (hb hby dCt1_1) rfl (by decide) (cap := 1) (by decide) (by decide) (by decide) (by decide)
  obtain ⟨b1, gq1⟩ : ∃ z, z = h0.size := ⟨_, rfl⟩
  rw [← gq1] at A1 st1
  have g2 : n0 ≤ b1 := (Nat.le_trans Z0 (Nat.le_of_eq gq1.symm))
  have sz3 : h0.size ≤ b1 := (Nat.le_trans K0.1 (Nat.le_of_eq gq1.symm))
  have ne4 : a0 ≠ b1 := (Nat.ne_of_lt (Nat.lt_of_lt_of_le V1.lt (Nat.le_of_eq gq1.symm)))
  have f5 := V1.ext E1
  have Z6 : n0 ≤ h1.size := (Nat.le_trans Z0 E1.1)
  have K7 : Keep h0 h1 [] := (K0.ext E1)
  have f8 : Arv Z h1 b1 k1 .byte (1 : Int32) [(.int (0 : Int32))] (.int (0 : Int32)) := ((Arv.new A1 (by decide)).pad (pad_rep [] (.int (0 : Int32)) 1))
  refine OFin.of (S' := T1.setTop (mkF m 3 #[.val (.ref a0), .val (.int (0 : Int32)), .val (.int (1 : Int32)), .unset, .unset, .unset] [(.ref b1)])) (fun t ht => st1 t ht) ?_
  refine OFin.of (S' := T1.setTop (mkF m 9 #[.val (.ref a0), .val (.int (0 : Int32)), .val (.int (1 : Int32)), .val (.ref b1), .unset, .unset] [(.int (1 : Int32)), (.int (0 : Int32)), (.ref b1), (.int (0 : Int32)), (.ref a0)])) (fun t ht => ?_) ?_
  · refine XS.astoreN X1.here hx rfl (hb hby dCt1_3) rfl rfl (l' := #[.val (.ref a0), .val (.int (0 : Int32)), .val (.int (1 : Int32)), .val (.ref b1), .unset, .unset]) rfl ?_
    show Steps p.tables e below (T1.setTop (mkF m 4 #[.val (.ref a0), .val (.int (0 : Int32)), .val (.int (1 : Int32)), .val (.ref b1), .unset, .unset] [])) _
    refine XS.aloadN X1.here hx rfl (hb hby dCt1_4) rfl rfl ?_
    show Steps p.tables e below (T1.setTop (mkF m 5 _ [(.ref a0)])) _
    refine XS.iloadN X1.here hx rfl (hb hby dCt1_5) rfl ?_
    show Steps p.tables e below (T1.setTop (mkF m 6 _ [(.int (0 : Int32)), (.ref a0)])) _
    refine XS.aloadN X1.here hx rfl (hb hby dCt1_6) rfl rfl ?_
    show Steps p.tables e below (T1.setTop (mkF m 7 _ [(.ref b1), (.int (0 : Int32)), (.ref a0)])) _
    refine XS.iconst X1.here hx rfl (hb hby dCt1_7) ?_
    show Steps p.tables e below (T1.setTop (mkF m 8 _ [(.int (0 : Int32)), (.ref b1), (.int (0 : Int32)), (.ref a0)])) _
    refine XS.iloadN X1.here hx rfl (hb hby dCt1_8) rfl ?_
    exact ht
  obtain ⟨_, _, ⟨T9, L9, k9, n9⟩, -, X9, ⟨Lc9, hQ9, l9, y9, z9⟩, st9⟩ := Jvm.LawKit.callS X1 hx (y := (⟨"java/lang/StringUTF16", "compress", "([CI[BII)I"⟩ : MethodName)) hown (mvT hZ (hw _ (List.mem_of_getElem? (i := 20) rfl))) (mvT hZ (hw _ (List.mem_of_getElem? (i := 21) rfl))) (mvT hZ (hw _ (List.mem_of_getElem? (i := 17) rfl))) (mvT hZ (hw _ (List.mem_of_getElem? (i := 22) rfl))) (by decide) (backOf (W := 0) (rmCf1 l Z _ hw [] a0 b1 kc k1 c0 h1 n0 Z6 f5 f8 g2 ne4 hp0) hZ (hw _ (List.mem_of_getElem? (i := 22) rfl)) (hw _ (List.mem_of_getElem? (i := 17) rfl)) (by decide) (by decide)) (g := (mkF m 9 #[.val (.ref a0), .val (.int (0 : Int32)), .val (.int (1 : Int32)), .val (.ref b1), .unset, .unset] [(.int (1 : Int32)), (.int (0 : Int32)), (.ref b1), (.int (0 : Int32)), (.ref a0)])) rfl (by rw [hml]; rfl) (argsL := [(.ref a0), (.int (0 : Int32)), (.ref b1), (.int (0 : Int32)), (.int (1 : Int32))]) (rest := []) (lenOf pd_1 rfl) rfl (by show 2 * 0 + _ ≤ _; exact Nat.le_of_eq rfl) (hb hby dCt1_9) (fun _ _ => ⟨rfl, e1, (by decide : 1 + 0 ≤ _), (by decide : 1 + 0 ≤ _)⟩)
  dsimp only [Pt.U, Pt.locs, Pt.cells, Pt.slots] at X9 l9 y9 z9 st9 hQ9
  subst l9 y9 z9
  obtain ⟨rfl, Nq9, Kq9, f10⟩ := hQ9
  have N11 := Fr.app N0 Nq9
  have f12 := (f5.keep Kq9 (ninS ne4 nin0))
  have Z13 : n0 ≤ T9.heap.size := (Nat.le_trans Z6 Kq9.1)
  have K14 : Keep h0 T9.heap [] := (K7.trans Kq9 (allS (Or.inr sz3) all0))
  refine OFin.of (S' := T9.setTop (mkF m 12 #[.val (.ref a0), .val (.int (0 : Int32)), .val (.int (1 : Int32)), .val (.ref b1), .unset, .unset] [(.int (1 : Int32))])) (fun t ht => st9 t ht) ?_
  refine OFin.of (S' := T9.setTop (mkF m 58 #[.val (.ref a0), .val (.int (0 : Int32)), .val (.int (1 : Int32)), .val (.ref b1), .val (.int (1 : Int32)), .unset] [(.ref b1)])) (fun t ht => ?_) ?_
  · refine XS.istore X9.here hx rfl (hb hby dCt1_12) rfl (l' := #[.val (.ref a0), .val (.int (0 : Int32)), .val (.int (1 : Int32)), .val (.ref b1), .val (.int (1 : Int32)), .unset]) rfl ?_
    show Steps p.tables e below (T9.setTop (mkF m 14 #[.val (.ref a0), .val (.int (0 : Int32)), .val (.int (1 : Int32)), .val (.ref b1), .val (.int (1 : Int32)), .unset] [])) _
    refine XS.iload X9.here hx rfl (hb hby dCt1_14) rfl ?_
    show Steps p.tables e below (T9.setTop (mkF m 16 _ [(.int (1 : Int32))])) _
    refine XS.iloadN X9.here hx rfl (hb hby dCt1_16) rfl ?_
    show Steps p.tables e below (T9.setTop (mkF m 17 _ [(.int (1 : Int32)), (.int (1 : Int32))])) _
    refine XS.icmpYes X9.here hx rfl (pc0 := 17) (pc' := 57) rfl (hb hby dCt1_17) rfl (teq (by decide : (1 : Int32) = (1 : Int32))).1 (by decide) (by decide) ?_
    show Steps p.tables e below (T9.setTop (mkF m 57 _ [])) _
    refine XS.aloadN X9.here hx rfl (hb hby dCt1_57) rfl rfl ?_
    exact ht
  exact OFin.retA X9 hx hlk (t := (.array .byte)) rfl rfl hret (hb hby dCt1_58) (by decide) (by decide) (by exact ⟨by rw [← gq1], N11, K14, k1, by rw [← gq1]; exact f10⟩)
theorem dCd1_0 : decode jdk_52_method_15_code 0 = .ok (.iload_n 1, 1) := by decide +kernel
theorem dCd1_1 : decode jdk_52_method_15_code 1 = .ok (.aload_n 0, 1) := by decide +kernel
theorem dCd1_2 : decode jdk_52_method_15_code 2 = .ok (.arraylength, 1) := by decide +kernel
theorem dCd1_3 : decode jdk_52_method_15_code 3 = .ok (.isub, 1) := by decide +kernel
theorem dCd1_4 : decode jdk_52_method_15_code 4 = .ok (.bipush 31, 2) := by decide +kernel
theorem dCd1_6 : decode jdk_52_method_15_code 6 = .ok (.iushr, 1) := by decide +kernel
theorem dCd1_7 : decode jdk_52_method_15_code 7 = .ok (.i2b, 1) := by decide +kernel
theorem dCd1_8 : decode jdk_52_method_15_code 8 = .ok (.ireturn, 1) := by decide +kernel
theorem pnCd1 : plainName "java/lang/StringUTF16" = true := by first | (simp [plainName, overriddenIn]; done) | decide +kernel
theorem efCd1 (m : MethodId) (a0 : Addr) : entryFrame m #[(.ref a0), (.int (1 : Int32))] 2 = mkF m 0 #[.val (.ref a0), .val (.int (1 : Int32))] [] := by first | (simp [entryFrame, mkF, argsToLocals, Value.category]; done) | rfl
def QCd1 (Z : State) (a0 : Addr) (k : ClassId) (x0 : Int32) (h0 : Heap) (n0 : Nat) (v : Option Value) (h : Heap) (L : List Loc) : Prop := v = some (.int (0 : Int32)) ∧ Fr n0 L ∧ h = h0
set_option maxRecDepth 65536 in
set_option maxHeartbeats 40000000 in
theorem rmCd1 (l : Launch) (Z : State) (a0 : Array Value) (hw : ∀ d ∈ tables_1, d.before a0 Z = true) (ws : List Jvm.Cond) (a0 : Addr) (k : ClassId) (x0 : Int32) (h0 : Heap) (n0 : Nat) (Z0 : n0 ≤ h0.size) (V1 : Arv Z h0 a0 k .byte (1 : Int32) [(.int x0)] (.int (0 : Int32))) :
    MetFree l (⟨"java/lang/StringUTF16", "coderFromArrayLen", "([BI)B"⟩ : MethodName) (head1 (Jvm.Cond.code (⟨"java/lang/StringUTF16", "coderFromArrayLen", "([BI)B"⟩ : MethodName) jdk_52_method_15_code 2 (some .byte) :: ws) ({ frames := 0, cells := 0, slots := 0, locals := 0 } : Room)) (fun a U => a = #[(.ref a0), (.int (1 : Int32))] ∧ Z.Warmed39 U.vm ∧ U.heap = h0) (fun _ _ _ _ _ => True) (fun _ U o U' => ∃ v L, o = .returned v ∧ QCd1 Z a0 k x0 h0 n0 v U'.heap L ∧ FrameEnd U o U' L ({ frames := 0, cells := 0, slots := 0, locals := 0 } : Room).cells ({ frames := 0, cells := 0, slots := 0, locals := 0 } : Room).slots) := by
  refine MetFree.of_bodySF (plainFor_of_name pnCd1) hisR ?_
  intro p e s m args below meth c s₁ Bd hml0 hP hK
  obtain ⟨rfl, hZ, hh⟩ := hP
  have hx := Bd.exec
  have hby := Bd.bytes
  have hlk := BodyLoose.notSynchronized Bd
  have hret := Bd.returns
  have hml : c.maxLocals = 2 := hml0
  have hown : s.vm.findClass "java/lang/StringUTF16" = some m.cls := findClass_of_methodNamed Bd.named
  have hnm := (name_of_methodNamed Bd.named Bd.method).1
  have X0 : Stand p l e ({ frames := 0, cells := 0, slots := 0, locals := 0 } : Room) s m #[(.ref a0), (.int (1 : Int32))] below meth c s₁ [] 0 0 := Stand.of_body Bd
  have e0 : s₁.heap = h0 := by rw [← hh, Bd.state]; rfl
  have N0 := Fr.nil n0
  show OFin p e below (KPost s (QCd1 Z a0 k x0 h0 n0) ({ frames := 0, cells := 0, slots := 0, locals := 0 } : Room).cells ({ frames := 0, cells := 0, slots := 0, locals := 0 } : Room).slots) _
  rw [efCd1 m a0]
  refine OFin.of (S' := s₁.setTop (mkF m 2 #[.val (.ref a0), .val (.int (1 : Int32))] [(.ref a0), (.int (1 : Int32))])) (fun t ht => ?_) ?_
  · refine XS.iloadN X0.here hx rfl (hb hby dCd1_0) rfl ?_
    show Steps p.tables e below (s₁.setTop (mkF m 1 _ [(.int (1 : Int32))])) _
    refine XS.aloadN X0.here hx rfl (hb hby dCd1_1) rfl rfl ?_
    exact ht
  obtain ⟨cl1, Ar1, q1, S1, Ng1, H1, G1⟩ := id V1
  refine OFin.of (S' := s₁.setTop (mkF m 3 #[.val (.ref a0), .val (.int (1 : Int32))] [(.int (1 : Int32)), (.int (1 : Int32))])) (fun t ht => own_alen X0 hx hZ e0 Ar1 S1 Ng1 (g := (mkF m 2 #[.val (.ref a0), .val (.int (1 : Int32))] [(.ref a0), (.int (1 : Int32))])) rfl rfl (hb hby dCd1_2) ht) ?_
  refine OFin.of (S' := s₁.setTop (mkF m 8 #[.val (.ref a0), .val (.int (1 : Int32))] [(.int ((((0 : Int32).toUInt32 >>> ((31 : Int32) &&& 31).toUInt32).toInt32).toInt8.toInt32))])) (fun t ht => ?_) ?_
  · refine XS.isub X0.here hx rfl (hb hby dCd1_3) rfl ?_
    show Steps p.tables e below (s₁.setTop (mkF m 4 _ [(.int (0 : Int32))])) _
    refine XS.bipush X0.here hx rfl (hb hby dCd1_4) ?_
    show Steps p.tables e below (s₁.setTop (mkF m 6 _ [(.int (31 : Int32)), (.int (0 : Int32))])) _
    refine XS.iushr X0.here hx rfl (hb hby dCd1_6) rfl ?_
    show Steps p.tables e below (s₁.setTop (mkF m 7 _ [(.int (((0 : Int32).toUInt32 >>> ((31 : Int32) &&& 31).toUInt32).toInt32))])) _
    refine XS.i2b X0.here hx rfl (hb hby dCd1_7) rfl ?_
    exact ht
  exact OFin.retB X0 hx hlk (t := .byte) (by simp) hret (hb hby dCd1_8) (by decide) (by decide) (by rw [e0]; exact ⟨(by show some (Value.int (nar .byte ((((0 : Int32).toUInt32 >>> ((31 : Int32) &&& 31).toUInt32).toInt32).toInt8.toInt32))) = _; rfl), N0, rfl⟩)
theorem dSf1_0 : decode jdk_42_method_149_code 0 = .ok (.aload_n 0, 1) := by decide +kernel
theorem dSf1_1 : decode jdk_42_method_149_code 1 = .ok (.invokespecial 1, 3) := by decide +kernel
theorem dSf1_4 : decode jdk_42_method_149_code 4 = .ok (.iload_n 3, 1) := by decide +kernel
theorem dSf1_5 : decode jdk_42_method_149_code 5 = .ok (.ifCond .ne 22, 3) := by decide +kernel
theorem dSf1_27 : decode jdk_42_method_149_code 27 = .ok (.getstatic 38, 3) := by decide +kernel
theorem dSf1_30 : decode jdk_42_method_149_code 30 = .ok (.ifCond .eq 28, 3) := by decide +kernel
theorem dSf1_33 : decode jdk_42_method_149_code 33 = .ok (.aload_n 1, 1) := by decide +kernel
theorem dSf1_34 : decode jdk_42_method_149_code 34 = .ok (.iload_n 2, 1) := by decide +kernel
theorem dSf1_35 : decode jdk_42_method_149_code 35 = .ok (.iload_n 3, 1) := by decide +kernel
theorem dSf1_36 : decode jdk_42_method_149_code 36 = .ok (.invokestatic 177, 3) := by decide +kernel
theorem dSf1_39 : decode jdk_42_method_149_code 39 = .ok (.astore 5, 2) := by decide +kernel
theorem dSf1_41 : decode jdk_42_method_149_code 41 = .ok (.aload_n 0, 1) := by decide +kernel
theorem dSf1_42 : decode jdk_42_method_149_code 42 = .ok (.aload 5, 2) := by decide +kernel
theorem dSf1_44 : decode jdk_42_method_149_code 44 = .ok (.iload_n 3, 1) := by decide +kernel
theorem dSf1_45 : decode jdk_42_method_149_code 45 = .ok (.invokestatic 47, 3) := by decide +kernel
theorem dSf1_48 : decode jdk_42_method_149_code 48 = .ok (.putfield 15, 3) := by decide +kernel
theorem dSf1_51 : decode jdk_42_method_149_code 51 = .ok (.aload_n 0, 1) := by decide +kernel
theorem dSf1_52 : decode jdk_42_method_149_code 52 = .ok (.aload 5, 2) := by decide +kernel
theorem dSf1_54 : decode jdk_42_method_149_code 54 = .ok (.putfield 9, 3) := by decide +kernel
theorem dSf1_57 : decode jdk_42_method_149_code 57 = .ok (.return_, 1) := by decide +kernel
theorem pnSf1 : plainName "java/lang/String" = true := by first | (simp [plainName, overriddenIn]; done) | decide +kernel
theorem efSf1 (m : MethodId) (a0 : Addr) (a1 : Addr) : entryFrame m #[(.ref a0), (.ref a1), (.int (0 : Int32)), (.int (1 : Int32)), .null] 6 = mkF m 0 #[.val (.ref a0), .val (.ref a1), .val (.int (0 : Int32)), .val (.int (1 : Int32)), .val .null, .unset] [] := by first | (simp [entryFrame, mkF, argsToLocals, Value.category]; done) | rfl
def QSf1 (Z : State) (a0 : Addr) (a1 : Addr) (kc : ClassId) (cs : Int32) (c0 : Int32) (h0 : Heap) (n0 : Nat) (v : Option Value) (h : Heap) (L : List Loc) : Prop := v = none ∧ Fr n0 L ∧ Keep h0 h [a0] ∧ Fld Z h a0 "java/lang/String" "coder" "B" (.int (0 : Int32)) ∧ Fld Z h a0 "java/lang/String" "value" "[B" (.ref h0.size) ∧ ∃ kb, Arv Z h h0.size kb .byte (1 : Int32) [(.int ((c0.toInt8.toInt32).toInt8.toInt32))] (.int (0 : Int32))
set_option maxRecDepth 65536 in
set_option maxHeartbeats 40000000 in
theorem rmSf1 (l : Launch) (Z : State) (a0 : Array Value) (hw : ∀ d ∈ tables_1, d.before a0 Z = true) (ws : List Jvm.Cond) (a0 : Addr) (a1 : Addr) (kc : ClassId) (cs : Int32) (c0 : Int32) (h0 : Heap) (n0 : Nat) (Z0 : n0 ≤ h0.size) (E0 : Exa Z h0 a0 "java/lang/String") (Fc : Fld Z h0 a0 "java/lang/String" "coder" "B" (.int (0 : Int32))) (Fv : Fld Z h0 a0 "java/lang/String" "value" "[B" .null) (V1 : Arv Z h0 a1 kc .char (1 : Int32) [(.int c0)] (.int (0 : Int32))) (g0 : n0 ≤ a0) (hne : a1 ≠ a0) (Scs : Sta Z h0 "java/lang/String" "COMPACT_STRINGS" "Z" (.int cs)) (hcs : ¬ cs = (0 : Int32)) (hp0 : ¬ (255 : Int32) < c0) :
    MetFree l (⟨"java/lang/String", "<init>", "([CIILjava/lang/Void;)V"⟩ : MethodName) (head1 (Jvm.Cond.code (⟨"java/lang/String", "<init>", "([CIILjava/lang/Void;)V"⟩ : MethodName) jdk_42_method_149_code 6 none :: ws) ({ frames := 2, cells := 1, slots := 1, locals := 35 } : Room)) (fun a U => a = #[(.ref a0), (.ref a1), (.int (0 : Int32)), (.int (1 : Int32)), .null] ∧ Z.Warmed39 U.vm ∧ U.heap = h0) (fun _ _ _ _ _ => True) (fun _ U o U' => ∃ v L, o = .returned v ∧ QSf1 Z a0 a1 kc cs c0 h0 n0 v U'.heap L ∧ FrameEnd U o U' L ({ frames := 2, cells := 1, slots := 1, locals := 35 } : Room).cells ({ frames := 2, cells := 1, slots := 1, locals := 35 } : Room).slots) := by
  refine MetFree.of_bodySF (plainFor_of_name pnSf1) hisR ?_
  intro p e s m args below meth c s₁ Bd hml0 hP hK
  obtain ⟨rfl, hZ, hh⟩ := hP
  have hx := Bd.exec
  have hby := Bd.bytes
  have hlk := BodyLoose.notSynchronized Bd
  have hret := Bd.returns
  have hml : c.maxLocals = 6 := hml0
  have hown : s.vm.findClass "java/lang/String" = some m.cls := findClass_of_methodNamed Bd.named
  have hnm := (name_of_methodNamed Bd.named Bd.method).1
  have X0 : Stand p l e ({ frames := 2, cells := 1, slots := 1, locals := 35 } : Room) s m #[(.ref a0), (.ref a1), (.int (0 : Int32)), (.int (1 : Int32)), .null] below meth c s₁ [] 0 0 := Stand.of_body Bd
  have e0 : s₁.heap = h0 := by rw [← hh, Bd.state]; rfl
  have N0 := Fr.nil n0
  show OFin p e below (KPost s (QSf1 Z a0 a1 kc cs c0 h0 n0) ({ frames := 2, cells := 1, slots := 1, locals := 35 } : Room).cells ({ frames := 2, cells := 1, slots := 1, locals := 35 } : Room).slots) _
  rw [efSf1 m a0 a1]
  have K0 : Keep h0 h0 [a0] := Keep.refl _ _
  refine OFin.of (S' := s₁.setTop (mkF m 1 #[.val (.ref a0), .val (.ref a1), .val (.int (0 : Int32)), .val (.int (1 : Int32)), .val .null, .unset] [(.ref a0)])) (fun t ht => ?_) ?_
  · refine XS.aloadN X0.here hx rfl (hb hby dSf1_0) rfl rfl ?_
    exact ht
  obtain ⟨T1, X1, e1, st1⟩ := initO X0 hx hZ hown (hw _ (List.mem_of_getElem? (i := 11) rfl)) (hw _ (List.mem_of_getElem? (i := 12) rfl)) (hw _ (List.mem_of_getElem? (i := 13) rfl)) e0 (g := (mkF m 1 #[.val (.ref a0), .val (.ref a1), .val (.int (0 : Int32)), .val (.int (1 : Int32)), .val .null, .unset] [(.ref a0)])) rfl (by rw [hml]; rfl) rfl (hb hby dSf1_1) (by decide) (W := 0) (by show 2 * 0 + _ ≤ _; exact Nat.le_of_eq rfl) (by decide)
  refine OFin.of (S' := T1.setTop (mkF m 4 #[.val (.ref a0), .val (.ref a1), .val (.int (0 : Int32)), .val (.int (1 : Int32)), .val .null, .unset] [])) (fun t ht => st1 t ht) ?_
  refine OFin.of (S' := T1.setTop (mkF m 27 #[.val (.ref a0), .val (.ref a1), .val (.int (0 : Int32)), .val (.int (1 : Int32)), .val .null, .unset] [])) (fun t ht => ?_) ?_
  · refine XS.iloadN X1.here hx rfl (hb hby dSf1_4) rfl ?_
    show Steps p.tables e below (T1.setTop (mkF m 5 _ [(.int (1 : Int32))])) _
    refine XS.ifYes X1.here hx rfl (pc0 := 5) (pc' := 27) rfl (hb hby dSf1_5) rfl ((if0 _ _).trans (feq (by decide : ¬ ((1 : Int32) = (0 : Int32)))).2) (by decide) (by decide) ?_
    exact ht
  obtain ⟨T2, X2, e2, st2⟩ := getS (host := "") X1 hx hZ hown (hw _ (List.mem_of_getElem? (i := 14) rfl)) Via.refl e1 Scs (g := (mkF m 27 #[.val (.ref a0), .val (.ref a1), .val (.int (0 : Int32)), .val (.int (1 : Int32)), .val .null, .unset] [])) rfl (hb hby dSf1_27)
  refine OFin.of (S' := T2.setTop (mkF m 30 #[.val (.ref a0), .val (.ref a1), .val (.int (0 : Int32)), .val (.int (1 : Int32)), .val .null, .unset] [(.int cs)])) (fun t ht => st2 t ht) ?_
  refine OFin.of (S' := T2.setTop (mkF m 36 #[.val (.ref a0), .val (.ref a1), .val (.int (0 : Int32)), .val (.int (1 : Int32)), .val .null, .unset] [(.int (1 : Int32)), (.int (0 : Int32)), (.ref a1)])) (fun t ht => ?_) ?_
  · refine XS.ifNo X2.here hx rfl (hb hby dSf1_30) rfl ((if0 _ _).trans (feq (hcs : ¬ (cs = (0 : Int32)))).1) ?_
    show Steps p.tables e below (T2.setTop (mkF m 33 _ [])) _
    refine XS.aloadN X2.here hx rfl (hb hby dSf1_33) rfl rfl ?_
    show Steps p.tables e below (T2.setTop (mkF m 34 _ [(.ref a1)])) _
    refine XS.iloadN X2.here hx rfl (hb hby dSf1_34) rfl ?_
    show Steps p.tables e below (T2.setTop (mkF m 35 _ [(.int (0 : Int32)), (.ref a1)])) _
    refine XS.iloadN X2.here hx rfl (hb hby dSf1_35) rfl ?_
    exact ht
  obtain ⟨_, _, ⟨T3, L3, k3, n3⟩, -, X3, ⟨Lc3, hQ3, l3, y3, z3⟩, st3⟩ := Jvm.LawKit.callS X2 hx (y := (⟨"java/lang/StringUTF16", "compress", "([CII)[B"⟩ : MethodName)) hown (mvT hZ (hw _ (List.mem_of_getElem? (i := 15) rfl))) (mvT hZ (hw _ (List.mem_of_getElem? (i := 16) rfl))) (mvT hZ (hw _ (List.mem_of_getElem? (i := 17) rfl))) (mvT hZ (hw _ (List.mem_of_getElem? (i := 18) rfl))) (by decide) (backOf (W := 0) (rmCt1 l Z _ hw [] a1 kc c0 h0 n0 Z0 V1 hp0) hZ (hw _ (List.mem_of_getElem? (i := 18) rfl)) (hw _ (List.mem_of_getElem? (i := 17) rfl)) (by decide) (by decide)) (g := (mkF m 36 #[.val (.ref a0), .val (.ref a1), .val (.int (0 : Int32)), .val (.int (1 : Int32)), .val .null, .unset] [(.int (1 : Int32)), (.int (0 : Int32)), (.ref a1)])) rfl (by rw [hml]; rfl) (argsL := [(.ref a1), (.int (0 : Int32)), (.int (1 : Int32))]) (rest := []) (lenOf pd_2 rfl) rfl (by show 2 * 0 + _ ≤ _; exact Nat.le_of_eq rfl) (hb hby dSf1_36) (fun _ _ => ⟨rfl, e2, (by decide : 0 + 1 ≤ _), (by decide : 0 + 1 ≤ _)⟩)
  dsimp only [Pt.U, Pt.locs, Pt.cells, Pt.slots] at X3 l3 y3 z3 st3 hQ3
  subst l3 y3 z3
  obtain ⟨rfl, Nq3, Kq3, ⟨kb_3, f4⟩⟩ := hQ3
  have N5 := Fr.app N0 Nq3
  obtain ⟨b3, gq3⟩ : ∃ z, z = h0.size := ⟨_, rfl⟩
  rw [← gq3] at f4 st3
  have g6 : n0 ≤ b3 := (Nat.le_trans Z0 (Nat.le_of_eq gq3.symm))
  have sz7 : h0.size ≤ b3 := (Nat.le_trans K0.1 (Nat.le_of_eq gq3.symm))
  have ne8 : a0 ≠ b3 := (Nat.ne_of_lt (Nat.lt_of_lt_of_le E0.lt (Nat.le_of_eq gq3.symm)))
  have ne9 : a1 ≠ b3 := (Nat.ne_of_lt (Nat.lt_of_lt_of_le V1.lt (Nat.le_of_eq gq3.symm)))
  have f10 := (E0.keep Kq3)
  have f11 := (Fc.keep Kq3 nin0)
  have f12 := (Fv.keep Kq3 nin0)
  have f13 := (V1.keep Kq3 nin0)
  have f14 := (own_staKeep Scs Kq3 own_sn0)
  have Z15 : n0 ≤ T3.heap.size := (Nat.le_trans Z0 Kq3.1)
  have K16 : Keep h0 T3.heap [a0] := (K0.trans Kq3 all0)
  refine OFin.of (S' := T3.setTop (mkF m 39 #[.val (.ref a0), .val (.ref a1), .val (.int (0 : Int32)), .val (.int (1 : Int32)), .val .null, .unset] [(.ref b3)])) (fun t ht => st3 t ht) ?_
  refine OFin.of (S' := T3.setTop (mkF m 45 #[.val (.ref a0), .val (.ref a1), .val (.int (0 : Int32)), .val (.int (1 : Int32)), .val .null, .val (.ref b3)] [(.int (1 : Int32)), (.ref b3), (.ref a0)])) (fun t ht => ?_) ?_
  · refine XS.astore X3.here hx rfl (hb hby dSf1_39) rfl rfl (l' := #[.val (.ref a0), .val (.ref a1), .val (.int (0 : Int32)), .val (.int (1 : Int32)), .val .null, .val (.ref b3)]) rfl ?_
    show Steps p.tables e below (T3.setTop (mkF m 41 #[.val (.ref a0), .val (.ref a1), .val (.int (0 : Int32)), .val (.int (1 : Int32)), .val .null, .val (.ref b3)] [])) _
    refine XS.aloadN X3.here hx rfl (hb hby dSf1_41) rfl rfl ?_
    show Steps p.tables e below (T3.setTop (mkF m 42 _ [(.ref a0)])) _
    refine XS.aload X3.here hx rfl (hb hby dSf1_42) rfl rfl ?_
    show Steps p.tables e below (T3.setTop (mkF m 44 _ [(.ref b3), (.ref a0)])) _
    refine XS.iloadN X3.here hx rfl (hb hby dSf1_44) rfl ?_
    exact ht
  obtain ⟨_, _, ⟨T17, L17, k17, n17⟩, -, X17, ⟨Lc17, hQ17, l17, y17, z17⟩, st17⟩ := Jvm.LawKit.callS X3 hx (y := (⟨"java/lang/StringUTF16", "coderFromArrayLen", "([BI)B"⟩ : MethodName)) hown (mvT hZ (hw _ (List.mem_of_getElem? (i := 23) rfl))) (mvT hZ (hw _ (List.mem_of_getElem? (i := 24) rfl))) (mvT hZ (hw _ (List.mem_of_getElem? (i := 17) rfl))) (mvT hZ (hw _ (List.mem_of_getElem? (i := 25) rfl))) (by decide) (backOf (W := 1) (rmCd1 l Z _ hw [] b3 kb_3 ((c0.toInt8.toInt32).toInt8.toInt32) T3.heap n0 Z15 f4) hZ (hw _ (List.mem_of_getElem? (i := 25) rfl)) (hw _ (List.mem_of_getElem? (i := 17) rfl)) (by decide) (by decide)) (g := (mkF m 45 #[.val (.ref a0), .val (.ref a1), .val (.int (0 : Int32)), .val (.int (1 : Int32)), .val .null, .val (.ref b3)] [(.int (1 : Int32)), (.ref b3), (.ref a0)])) rfl (by rw [hml]; rfl) (argsL := [(.ref b3), (.int (1 : Int32))]) (rest := [(.ref a0)]) (lenOf pd_3 rfl) rfl (by show 2 * 0 + _ ≤ _; exact Nat.le_of_eq rfl) (hb hby dSf1_45) (fun _ _ => ⟨rfl, (rfl : T3.heap = T3.heap), (by decide : 1 + 0 ≤ _), (by decide : 1 + 0 ≤ _)⟩)
  dsimp only [Pt.U, Pt.locs, Pt.cells, Pt.slots] at X17 l17 y17 z17 st17 hQ17
  subst l17 y17 z17
  obtain ⟨rfl, Nq17, hs17⟩ := hQ17
  have N18 := Fr.app N5 Nq17
  refine OFin.of (S' := T17.setTop (mkF m 48 #[.val (.ref a0), .val (.ref a1), .val (.int (0 : Int32)), .val (.int (1 : Int32)), .val .null, .val (.ref b3)] [(.int (0 : Int32)), (.ref a0)])) (fun t ht => st17 t ht) ?_
  obtain ⟨T19, h19, X19, e19, W19, st19⟩ := putFN X17 hx hZ hown (hw _ (List.mem_of_getElem? (i := 26) rfl)) Via.refl hs17 f11 f10 (Or.inr ⟨(hw _ (List.mem_of_getElem? (i := 27) rfl)), rfl, hnm⟩) (hw _ (List.mem_of_getElem? (i := 1) rfl)) (ty := .byte) (v' := (.int (0 : Int32))) (by decide) rfl rfl (g := (mkF m 48 #[.val (.ref a0), .val (.ref a1), .val (.int (0 : Int32)), .val (.int (1 : Int32)), .val .null, .val (.ref b3)] [(.int (0 : Int32)), (.ref a0)])) rfl rfl (hb hby dSf1_48)
  have f20 := (f10.wr W19)
  have f21 := (f12.other W19 (Or.inr (slot_ne (Or.inr (hw _ (List.mem_of_getElem? (i := 29) rfl))) (Or.inr (hw _ (List.mem_of_getElem? (i := 27) rfl))) (by decide) (t := (.array .byte)) (t' := .byte) (by decide) (by decide))))
  have f22 := (f13.other W19 hne)
  have f23 := (f14.wr W19)
  have f24 := (f4.other W19 (Ne.symm ne8))
  have Z25 : n0 ≤ h19.size := (Nat.le_trans Z15 (Keep.of_wr W19).1)
  have K26 : Keep h0 h19 [a0] := (K16.wr W19 (Or.inl (List.mem_of_getElem? (i := 0) rfl)))
  have N27 := Fr.snoc X19 N18 g0
  have f28 : Fld Z h19 a0 "java/lang/String" "coder" "B" (.int (0 : Int32)) := (f11.same W19)
  refine OFin.of (S' := T19.setTop (mkF m 51 #[.val (.ref a0), .val (.ref a1), .val (.int (0 : Int32)), .val (.int (1 : Int32)), .val .null, .val (.ref b3)] [])) (fun t ht => st19 t ht) ?_
  refine OFin.of (S' := T19.setTop (mkF m 54 #[.val (.ref a0), .val (.ref a1), .val (.int (0 : Int32)), .val (.int (1 : Int32)), .val .null, .val (.ref b3)] [(.ref b3), (.ref a0)])) (fun t ht => ?_) ?_
  · refine XS.aloadN X19.here hx rfl (hb hby dSf1_51) rfl rfl ?_
    show Steps p.tables e below (T19.setTop (mkF m 52 _ [(.ref a0)])) _
    refine XS.aload X19.here hx rfl (hb hby dSf1_52) rfl rfl ?_
    exact ht
  obtain ⟨T29, h29, X29, e29, W29, st29⟩ := putF X19 hx hZ hown (host := "") (Or.inl (hw _ (List.mem_of_getElem? (i := 28) rfl))) Via.refl e19 f21 f20 (Or.inr ⟨(hw _ (List.mem_of_getElem? (i := 29) rfl)), rfl, hnm⟩) (hw _ (List.mem_of_getElem? (i := 1) rfl)) (ty := (.array .byte)) (by decide) rfl rfl (g := (mkF m 54 #[.val (.ref a0), .val (.ref a1), .val (.int (0 : Int32)), .val (.int (1 : Int32)), .val .null, .val (.ref b3)] [(.ref b3), (.ref a0)])) rfl rfl (hb hby dSf1_54)
  have f30 := (f20.wr W29)
  have f31 := (f22.other W29 hne)
  have f32 := (f23.wr W29)
  have f33 := (f24.other W29 (Ne.symm ne8))
  have f34 := (f28.other W29 (Or.inr (slot_ne (Or.inr (hw _ (List.mem_of_getElem? (i := 27) rfl))) (Or.inr (hw _ (List.mem_of_getElem? (i := 29) rfl))) (by decide) (t := .byte) (t' := (.array .byte)) (by decide) (by decide))))
  have Z35 : n0 ≤ h29.size := (Nat.le_trans Z25 (Keep.of_wr W29).1)
  have K36 : Keep h0 h29 [a0] := (K26.wr W29 (Or.inl (List.mem_of_getElem? (i := 0) rfl)))
  have N37 := Fr.snoc X29 N27 g0
  have f38 : Fld Z h29 a0 "java/lang/String" "value" "[B" (.ref b3) := (f21.same W29)
  refine OFin.of (S' := T29.setTop (mkF m 57 #[.val (.ref a0), .val (.ref a1), .val (.int (0 : Int32)), .val (.int (1 : Int32)), .val .null, .val (.ref b3)] [])) (fun t ht => st29 t ht) ?_
  exact OFin.retV X29 hx hlk hret (hb hby dSf1_57) (by decide) (by decide) (by rw [e29]; exact ⟨rfl, N37, K36, f34, by rw [← gq3]; exact f38, kb_3, by rw [← gq3]; exact f33⟩)
theorem dSi1_0 : decode jdk_42_method_3_code 0 = .ok (.aload_n 0, 1) := by decide +kernel
theorem dSi1_1 : decode jdk_42_method_3_code 1 = .ok (.aload_n 1, 1) := by decide +kernel
theorem dSi1_2 : decode jdk_42_method_3_code 2 = .ok (.iconst 0, 1) := by decide +kernel
theorem dSi1_3 : decode jdk_42_method_3_code 3 = .ok (.aload_n 1, 1) := by decide +kernel
theorem dSi1_4 : decode jdk_42_method_3_code 4 = .ok (.arraylength, 1) := by decide +kernel
theorem dSi1_5 : decode jdk_42_method_3_code 5 = .ok (.aconst_null, 1) := by decide +kernel
theorem dSi1_6 : decode jdk_42_method_3_code 6 = .ok (.invokespecial 27, 3) := by decide +kernel
theorem dSi1_9 : decode jdk_42_method_3_code 9 = .ok (.return_, 1) := by decide +kernel
theorem pnSi1 : plainName "java/lang/String" = true := by first | (simp [plainName, overriddenIn]; done) | decide +kernel
theorem efSi1 (m : MethodId) (a0 : Addr) (a1 : Addr) : entryFrame m #[(.ref a0), (.ref a1)] 2 = mkF m 0 #[.val (.ref a0), .val (.ref a1)] [] := by first | (simp [entryFrame, mkF, argsToLocals, Value.category]; done) | rfl
def QSi1 (Z : State) (a0 : Addr) (a1 : Addr) (kc : ClassId) (cs : Int32) (c0 : Int32) (h0 : Heap) (n0 : Nat) (v : Option Value) (h : Heap) (L : List Loc) : Prop := v = none ∧ Fr n0 L ∧ Keep h0 h [a0] ∧ Fld Z h a0 "java/lang/String" "coder" "B" (.int (0 : Int32)) ∧ Fld Z h a0 "java/lang/String" "value" "[B" (.ref h0.size) ∧ ∃ kb, Arv Z h h0.size kb .byte (1 : Int32) [(.int ((c0.toInt8.toInt32).toInt8.toInt32))] (.int (0 : Int32))
set_option maxRecDepth 65536 in
set_option maxHeartbeats 40000000 in
theorem rmSi1 (l : Launch) (Z : State) (a0 : Array Value) (hw : ∀ d ∈ tables_1, d.before a0 Z = true) (ws : List Jvm.Cond) (a0 : Addr) (a1 : Addr) (kc : ClassId) (cs : Int32) (c0 : Int32) (h0 : Heap) (n0 : Nat) (Z0 : n0 ≤ h0.size) (E0 : Exa Z h0 a0 "java/lang/String") (Fc : Fld Z h0 a0 "java/lang/String" "coder" "B" (.int (0 : Int32))) (Fv : Fld Z h0 a0 "java/lang/String" "value" "[B" .null) (V1 : Arv Z h0 a1 kc .char (1 : Int32) [(.int c0)] (.int (0 : Int32))) (g0 : n0 ≤ a0) (hne : a1 ≠ a0) (Scs : Sta Z h0 "java/lang/String" "COMPACT_STRINGS" "Z" (.int cs)) (hcs : ¬ cs = (0 : Int32)) (hp0 : ¬ (255 : Int32) < c0) :
    MetFree l (⟨"java/lang/String", "<init>", "([C)V"⟩ : MethodName) (head1 (Jvm.Cond.code (⟨"java/lang/String", "<init>", "([C)V"⟩ : MethodName) jdk_42_method_3_code 2 none :: ws) ({ frames := 3, cells := 1, slots := 1, locals := 52 } : Room)) (fun a U => a = #[(.ref a0), (.ref a1)] ∧ Z.Warmed39 U.vm ∧ U.heap = h0) (fun _ _ _ _ _ => True) (fun _ U o U' => ∃ v L, o = .returned v ∧ QSi1 Z a0 a1 kc cs c0 h0 n0 v U'.heap L ∧ FrameEnd U o U' L ({ frames := 3, cells := 1, slots := 1, locals := 52 } : Room).cells ({ frames := 3, cells := 1, slots := 1, locals := 52 } : Room).slots) := by
  refine MetFree.of_bodySF (plainFor_of_name pnSi1) hisR ?_
  intro p e s m args below meth c s₁ Bd hml0 hP hK
  obtain ⟨rfl, hZ, hh⟩ := hP
  have hx := Bd.exec
  have hby := Bd.bytes
  have hlk := BodyLoose.notSynchronized Bd
  have hret := Bd.returns
  have hml : c.maxLocals = 2 := hml0
  have hown : s.vm.findClass "java/lang/String" = some m.cls := findClass_of_methodNamed Bd.named
  have hnm := (name_of_methodNamed Bd.named Bd.method).1
  have X0 : Stand p l e ({ frames := 3, cells := 1, slots := 1, locals := 52 } : Room) s m #[(.ref a0), (.ref a1)] below meth c s₁ [] 0 0 := Stand.of_body Bd
  have e0 : s₁.heap = h0 := by rw [← hh, Bd.state]; rfl
  have N0 := Fr.nil n0
  show OFin p e below (KPost s (QSi1 Z a0 a1 kc cs c0 h0 n0) ({ frames := 3, cells := 1, slots := 1, locals := 52 } : Room).cells ({ frames := 3, cells := 1, slots := 1, locals := 52 } : Room).slots) _
  rw [efSi1 m a0 a1]
  have K0 : Keep h0 h0 [a0] := Keep.refl _ _
  refine OFin.of (S' := s₁.setTop (mkF m 4 #[.val (.ref a0), .val (.ref a1)] [(.ref a1), (.int (0 : Int32)), (.ref a1), (.ref a0)])) (fun t ht => ?_) ?_
  · refine XS.aloadN X0.here hx rfl (hb hby dSi1_0) rfl rfl ?_
    show Steps p.tables e below (s₁.setTop (mkF m 1 _ [(.ref a0)])) _
    refine XS.aloadN X0.here hx rfl (hb hby dSi1_1) rfl rfl ?_
    show Steps p.tables e below (s₁.setTop (mkF m 2 _ [(.ref a1), (.ref a0)])) _
    refine XS.iconst X0.here hx rfl (hb hby dSi1_2) ?_
    show Steps p.tables e below (s₁.setTop (mkF m 3 _ [(.int (0 : Int32)), (.ref a1), (.ref a0)])) _
    refine XS.aloadN X0.here hx rfl (hb hby dSi1_3) rfl rfl ?_
    exact ht
  obtain ⟨cl1, Ar1, q1, S1, Ng1, H1, G1⟩ := id V1
  refine OFin.of (S' := s₁.setTop (mkF m 5 #[.val (.ref a0), .val (.ref a1)] [(.int (1 : Int32)), (.int (0 : Int32)), (.ref a1), (.ref a0)])) (fun t ht => own_alen X0 hx hZ e0 Ar1 S1 Ng1 (g := (mkF m 4 #[.val (.ref a0), .val (.ref a1)] [(.ref a1), (.int (0 : Int32)), (.ref a1), (.ref a0)])) rfl rfl (hb hby dSi1_4) ht) ?_
  refine OFin.of (S' := s₁.setTop (mkF m 6 #[.val (.ref a0), .val (.ref a1)] [.null, (.int (1 : Int32)), (.int (0 : Int32)), (.ref a1), (.ref a0)])) (fun t ht => ?_) ?_
  · refine XS.aconstNull X0.here hx rfl (hb hby dSi1_5) ?_
    exact ht
  obtain ⟨_, _, ⟨T2, L2, k2, n2⟩, -, X2, ⟨Lc2, hQ2, l2, y2, z2⟩, st2⟩ := X0.specialBack hx (y := (⟨"java/lang/String", "<init>", "([CIILjava/lang/Void;)V"⟩ : MethodName)) rfl hown (mvT hZ (hw _ (List.mem_of_getElem? (i := 7) rfl))) (mvT hZ (hw _ (List.mem_of_getElem? (i := 8) rfl))) (mvT hZ (hw _ (List.mem_of_getElem? (i := 10) rfl))) (by decide) (backOf (W := 0) (rmSf1 l Z _ hw [] a0 a1 kc cs c0 h0 n0 Z0 E0 Fc Fv V1 g0 hne Scs hcs hp0) hZ (hw _ (List.mem_of_getElem? (i := 10) rfl)) (hw _ (List.mem_of_getElem? (i := 2) rfl)) (by decide) (by decide)) (g := (mkF m 6 #[.val (.ref a0), .val (.ref a1)] [.null, (.int (1 : Int32)), (.int (0 : Int32)), (.ref a1), (.ref a0)])) rfl (by rw [hml]; rfl) (Steps.refl _) (a := a0) (argsL := [(.ref a1), (.int (0 : Int32)), (.int (1 : Int32)), .null]) (rest := []) (lenOf pd_4 rfl) rfl (by show 2 * 0 + _ ≤ _; exact Nat.le_of_eq rfl) (hb hby dSi1_6) (fun _ _ => ⟨rfl, e0, (by decide : 0 + 1 ≤ _), (by decide : 0 + 1 ≤ _)⟩)
  dsimp only [Pt.U, Pt.locs, Pt.cells, Pt.slots] at X2 l2 y2 z2 st2 hQ2
  subst l2 y2 z2
  obtain ⟨rfl, Nq2, Kq2, f3, f4, ⟨kb_2, f5⟩⟩ := hQ2
  have N6 := Fr.app N0 Nq2
  obtain ⟨b2, gq2⟩ : ∃ z, z = h0.size := ⟨_, rfl⟩
  rw [← gq2] at f4 f5
  have g7 : n0 ≤ b2 := (Nat.le_trans Z0 (Nat.le_of_eq gq2.symm))
  have sz8 : h0.size ≤ b2 := (Nat.le_trans K0.1 (Nat.le_of_eq gq2.symm))
  have ne9 : a0 ≠ b2 := (Nat.ne_of_lt (Nat.lt_of_lt_of_le E0.lt (Nat.le_of_eq gq2.symm)))
  have ne10 : a1 ≠ b2 := (Nat.ne_of_lt (Nat.lt_of_lt_of_le V1.lt (Nat.le_of_eq gq2.symm)))
  have f11 := (E0.keep Kq2)
  have f12 := (V1.keep Kq2 (ninS hne nin0))
  have f13 := (own_staKeep Scs Kq2 (own_snS E0 own_sn0))
  have Z14 : n0 ≤ T2.heap.size := (Nat.le_trans Z0 Kq2.1)
  have K15 : Keep h0 T2.heap [a0] := (K0.trans Kq2 (allS (Or.inl (List.mem_of_getElem? (i := 0) rfl)) all0))
  refine OFin.to (S' := T2.setTop (mkF m 9 #[.val (.ref a0), .val (.ref a1)] [])) st2 ?_
  exact OFin.retV X2 hx hlk hret (hb hby dSi1_9) (by decide) (by decide) (by exact ⟨rfl, N6, K15, f3, by rw [← gq2]; exact f4, kb_2, by rw [← gq2]; exact f5⟩)
theorem dCf2_0 : decode jdk_52_method_21_code 0 = .ok (.iconst 0, 1) := by decide +kernel
theorem dCf2_1 : decode jdk_52_method_21_code 1 = .ok (.istore 5, 2) := by decide +kernel
theorem dCf2_3 : decode jdk_52_method_21_code 3 = .ok (.iload 5, 2) := by decide +kernel
theorem dCf2_5 : decode jdk_52_method_21_code 5 = .ok (.iload 4, 2) := by decide +kernel
theorem dCf2_7 : decode jdk_52_method_21_code 7 = .ok (.if_icmp .ge 37, 3) := by decide +kernel
theorem dCf2_10 : decode jdk_52_method_21_code 10 = .ok (.aload_n 0, 1) := by decide +kernel
theorem dCf2_11 : decode jdk_52_method_21_code 11 = .ok (.iload_n 1, 1) := by decide +kernel
theorem dCf2_12 : decode jdk_52_method_21_code 12 = .ok (.caload, 1) := by decide +kernel
theorem dCf2_13 : decode jdk_52_method_21_code 13 = .ok (.istore 6, 2) := by decide +kernel
theorem dCf2_15 : decode jdk_52_method_21_code 15 = .ok (.iload 6, 2) := by decide +kernel
theorem dCf2_17 : decode jdk_52_method_21_code 17 = .ok (.sipush 255, 3) := by decide +kernel
theorem dCf2_20 : decode jdk_52_method_21_code 20 = .ok (.if_icmp .le 6, 3) := by decide +kernel
theorem dCf2_26 : decode jdk_52_method_21_code 26 = .ok (.aload_n 2, 1) := by decide +kernel
theorem dCf2_27 : decode jdk_52_method_21_code 27 = .ok (.iload_n 3, 1) := by decide +kernel
theorem dCf2_28 : decode jdk_52_method_21_code 28 = .ok (.iload 6, 2) := by decide +kernel
theorem dCf2_30 : decode jdk_52_method_21_code 30 = .ok (.i2b, 1) := by decide +kernel
theorem dCf2_31 : decode jdk_52_method_21_code 31 = .ok (.bastore, 1) := by decide +kernel
theorem dCf2_32 : decode jdk_52_method_21_code 32 = .ok (.iinc 1 1, 3) := by decide +kernel
theorem dCf2_35 : decode jdk_52_method_21_code 35 = .ok (.iinc 3 1, 3) := by decide +kernel
theorem dCf2_38 : decode jdk_52_method_21_code 38 = .ok (.iinc 5 1, 3) := by decide +kernel
theorem dCf2_41 : decode jdk_52_method_21_code 41 = .ok (.goto (-38), 3) := by decide +kernel
theorem dCf2_44 : decode jdk_52_method_21_code 44 = .ok (.iload 4, 2) := by decide +kernel
theorem dCf2_46 : decode jdk_52_method_21_code 46 = .ok (.ireturn, 1) := by decide +kernel
theorem pnCf2 : plainName "java/lang/StringUTF16" = true := by first | (simp [plainName, overriddenIn]; done) | decide +kernel
theorem efCf2 (m : MethodId) (a0 : Addr) (a2 : Addr) : entryFrame m #[(.ref a0), (.int (0 : Int32)), (.ref a2), (.int (0 : Int32)), (.int (2 : Int32))] 7 = mkF m 0 #[.val (.ref a0), .val (.int (0 : Int32)), .val (.ref a2), .val (.int (0 : Int32)), .val (.int (2 : Int32)), .unset, .unset] [] := by first | (simp [entryFrame, mkF, argsToLocals, Value.category]; done) | rfl
def QCf2 (Z : State) (a0 : Addr) (a2 : Addr) (kc : ClassId) (kb : ClassId) (c0 : Int32) (c1 : Int32) (h0 : Heap) (n0 : Nat) (v : Option Value) (h : Heap) (L : List Loc) : Prop := v = some (.int (2 : Int32)) ∧ Fr n0 L ∧ Keep h0 h [a2] ∧ Arv Z h a2 kb .byte (2 : Int32) [(.int ((c0.toInt8.toInt32).toInt8.toInt32)), (.int ((c1.toInt8.toInt32).toInt8.toInt32))] (.int (0 : Int32))
set_option maxRecDepth 65536 in
set_option maxHeartbeats 40000000 in
theorem rmCf2 (l : Launch) (Z : State) (a0 : Array Value) (hw : ∀ d ∈ tables_1, d.before a0 Z = true) (ws : List Jvm.Cond) (a0 : Addr) (a2 : Addr) (kc : ClassId) (kb : ClassId) (c0 : Int32) (c1 : Int32) (h0 : Heap) (n0 : Nat) (Z0 : n0 ≤ h0.size) (V1 : Arv Z h0 a0 kc .char (2 : Int32) [(.int c0), (.int c1)] (.int (0 : Int32))) (V2 : Arv Z h0 a2 kb .byte (2 : Int32) [(.int (0 : Int32)), (.int (0 : Int32))] (.int (0 : Int32))) (g2 : n0 ≤ a2) (hne : a0 ≠ a2) (hp0 : ¬ (255 : Int32) < c0) (hp1 : ¬ (255 : Int32) < c1) :
    MetFree l (⟨"java/lang/StringUTF16", "compress", "([CI[BII)I"⟩ : MethodName) (head1 (Jvm.Cond.code (⟨"java/lang/StringUTF16", "compress", "([CI[BII)I"⟩ : MethodName) jdk_52_method_21_code 7 (some .int) :: ws) ({ frames := 0, cells := 0, slots := 0, locals := 0 } : Room)) (fun a U => a = #[(.ref a0), (.int (0 : Int32)), (.ref a2), (.int (0 : Int32)), (.int (2 : Int32))] ∧ Z.Warmed39 U.vm ∧ U.heap = h0) (fun _ _ _ _ _ => True) (fun _ U o U' => ∃ v L, o = .returned v ∧ QCf2 Z a0 a2 kc kb c0 c1 h0 n0 v U'.heap L ∧ FrameEnd U o U' L ({ frames := 0, cells := 0, slots := 0, locals := 0 } : Room).cells ({ frames := 0, cells := 0, slots := 0, locals := 0 } : Room).slots) := by
  refine MetFree.of_bodySF (plainFor_of_name pnCf2) hisR ?_
  intro p e s m args below meth c s₁ Bd hml0 hP hK
  obtain ⟨rfl, hZ, hh⟩ := hP
  have hx := Bd.exec
  have hby := Bd.bytes
  have hlk := BodyLoose.notSynchronized Bd
  have hret := Bd.returns
  have hml : c.maxLocals = 7 := hml0
  have hown : s.vm.findClass "java/lang/StringUTF16" = some m.cls := findClass_of_methodNamed Bd.named
  have hnm := (name_of_methodNamed Bd.named Bd.method).1
  have X0 : Stand p l e ({ frames := 0, cells := 0, slots := 0, locals := 0 } : Room) s m #[(.ref a0), (.int (0 : Int32)), (.ref a2), (.int (0 : Int32)), (.int (2 : Int32))] below meth c s₁ [] 0 0 := Stand.of_body Bd
  have e0 : s₁.heap = h0 := by rw [← hh, Bd.state]; rfl
  have N0 := Fr.nil n0
  show OFin p e below (KPost s (QCf2 Z a0 a2 kc kb c0 c1 h0 n0) ({ frames := 0, cells := 0, slots := 0, locals := 0 } : Room).cells ({ frames := 0, cells := 0, slots := 0, locals := 0 } : Room).slots) _
  rw [efCf2 m a0 a2]
  have K0 : Keep h0 h0 [a2] := Keep.refl _ _
  refine OFin.of (S' := s₁.setTop (mkF m 12 #[.val (.ref a0), .val (.int (0 : Int32)), .val (.ref a2), .val (.int (0 : Int32)), .val (.int (2 : Int32)), .val (.int (0 : Int32)), .unset] [(.int (0 : Int32)), (.ref a0)])) (fun t ht => ?_) ?_
  · refine XS.iconst X0.here hx rfl (hb hby dCf2_0) ?_
    show Steps p.tables e below (s₁.setTop (mkF m 1 _ [(.int (0 : Int32))])) _
    refine XS.istore X0.here hx rfl (hb hby dCf2_1) rfl (l' := #[.val (.ref a0), .val (.int (0 : Int32)), .val (.ref a2), .val (.int (0 : Int32)), .val (.int (2 : Int32)), .val (.int (0 : Int32)), .unset]) rfl ?_
    show Steps p.tables e below (s₁.setTop (mkF m 3 #[.val (.ref a0), .val (.int (0 : Int32)), .val (.ref a2), .val (.int (0 : Int32)), .val (.int (2 : Int32)), .val (.int (0 : Int32)), .unset] [])) _
    refine XS.iload X0.here hx rfl (hb hby dCf2_3) rfl ?_
    show Steps p.tables e below (s₁.setTop (mkF m 5 _ [(.int (0 : Int32))])) _
    refine XS.iload X0.here hx rfl (hb hby dCf2_5) rfl ?_
    show Steps p.tables e below (s₁.setTop (mkF m 7 _ [(.int (2 : Int32)), (.int (0 : Int32))])) _
    refine XS.icmpNo X0.here hx rfl (hb hby dCf2_7) rfl (tlt (by decide : (0 : Int32) < (2 : Int32))).2.1 ?_
    show Steps p.tables e below (s₁.setTop (mkF m 10 _ [])) _
    refine XS.aloadN X0.here hx rfl (hb hby dCf2_10) rfl rfl ?_
    show Steps p.tables e below (s₁.setTop (mkF m 11 _ [(.ref a0)])) _
    refine XS.iloadN X0.here hx rfl (hb hby dCf2_11) rfl ?_
    exact ht
  obtain ⟨cl1, Ar1, q1, S1, Ng1, H1, G1⟩ := id V1
  have hin1 := inb_of (j := (0 : Int32)) S1 ⟨by decide, by decide⟩
  have hat1 : cl1.slots[((0 : Int32)).toNatClampNeg]? = some (.int c0) := Has.at H1 hin1 rfl
  refine OFin.of (S' := s₁.setTop (mkF m 13 #[.val (.ref a0), .val (.int (0 : Int32)), .val (.ref a2), .val (.int (0 : Int32)), .val (.int (2 : Int32)), .val (.int (0 : Int32)), .unset] [(.int c0)])) (fun t ht => X0.caload hx (j := (0 : Int32)) (v := (.int c0)) (by rw [e0]; exact Ar1.1) (State.isArrayOf_alike hZ.alike Ar1.2.1) Ar1.2.2 hin1 hat1 (g := (mkF m 12 #[.val (.ref a0), .val (.int (0 : Int32)), .val (.ref a2), .val (.int (0 : Int32)), .val (.int (2 : Int32)), .val (.int (0 : Int32)), .unset] [(.int (0 : Int32)), (.ref a0)])) rfl rfl (hb hby dCf2_12) _ ht) ?_
  refine OFin.of (S' := s₁.setTop (mkF m 31 #[.val (.ref a0), .val (.int (0 : Int32)), .val (.ref a2), .val (.int (0 : Int32)), .val (.int (2 : Int32)), .val (.int (0 : Int32)), .val (.int c0)] [(.int (c0.toInt8.toInt32)), (.int (0 : Int32)), (.ref a2)])) (fun t ht => ?_) ?_
  · refine XS.istore X0.here hx rfl (hb hby dCf2_13) rfl (l' := #[.val (.ref a0), .val (.int (0 : Int32)), .val (.ref a2), .val (.int (0 : Int32)), .val (.int (2 : Int32)), .val (.int (0 : Int32)), .val (.int c0)]) rfl ?_
    show Steps p.tables e below (s₁.setTop (mkF m 15 #[.val (.ref a0), .val (.int (0 : Int32)), .val (.ref a2), .val (.int (0 : Int32)), .val (.int (2 : Int32)), .val (.int (0 : Int32)), .val (.int c0)] [])) _
    refine XS.iload X0.here hx rfl (hb hby dCf2_15) rfl ?_
    show Steps p.tables e below (s₁.setTop (mkF m 17 _ [(.int c0)])) _
    refine XS.sipush X0.here hx rfl (hb hby dCf2_17) ?_
    show Steps p.tables e below (s₁.setTop (mkF m 20 _ [(.int (255 : Int32)), (.int c0)])) _
    refine XS.icmpYes X0.here hx rfl (pc0 := 20) (pc' := 26) rfl (hb hby dCf2_20) rfl (flt (hp0 : ¬ ((255 : Int32) < c0))).2.2.2 (by decide) (by decide) ?_
    show Steps p.tables e below (s₁.setTop (mkF m 26 _ [])) _
    refine XS.aloadN X0.here hx rfl (hb hby dCf2_26) rfl rfl ?_
    show Steps p.tables e below (s₁.setTop (mkF m 27 _ [(.ref a2)])) _
    refine XS.iloadN X0.here hx rfl (hb hby dCf2_27) rfl ?_
    show Steps p.tables e below (s₁.setTop (mkF m 28 _ [(.int (0 : Int32)), (.ref a2)])) _
    refine XS.iload X0.here hx rfl (hb hby dCf2_28) rfl ?_
    show Steps p.tables e below (s₁.setTop (mkF m 30 _ [(.int c0), (.int (0 : Int32)), (.ref a2)])) _
    refine XS.i2b X0.here hx rfl (hb hby dCf2_30) rfl ?_
    exact ht
  obtain ⟨cl2, Ar2, q2, S2, Ng2, H2, G2⟩ := id V2
  have hin2 := inb_of (j := (0 : Int32)) S2 ⟨by decide, by decide⟩
  obtain ⟨T2, h2, X2, e2, W2, st2⟩ := stB X0 hx hZ e0 Ar2 (j := (0 : Int32)) hin2 (g := (mkF m 31 #[.val (.ref a0), .val (.int (0 : Int32)), .val (.ref a2), .val (.int (0 : Int32)), .val (.int (2 : Int32)), .val (.int (0 : Int32)), .val (.int c0)] [(.int (c0.toInt8.toInt32)), (.int (0 : Int32)), (.ref a2)])) rfl rfl (hb hby dCf2_31)
  have f3 := (V1.other W2 hne)
  have Z4 : n0 ≤ h2.size := (Nat.le_trans Z0 (Keep.of_wr W2).1)
  have K5 : Keep h0 h2 [a2] := (K0.wr W2 (Or.inl (List.mem_of_getElem? (i := 0) rfl)))
  have N6 := Fr.snoc X2 N0 g2
  have f7 : Arv Z h2 a2 kb .byte (2 : Int32) [(.int ((c0.toInt8.toInt32).toInt8.toInt32)), (.int (0 : Int32))] (.int (0 : Int32)) := Arv.set Ar2 q2 S2 Ng2 H2 G2 (fits_nar_byte _) W2 0 rfl (Nat.le_of_ble_eq_true rfl)
  refine OFin.of (S' := T2.setTop (mkF m 32 #[.val (.ref a0), .val (.int (0 : Int32)), .val (.ref a2), .val (.int (0 : Int32)), .val (.int (2 : Int32)), .val (.int (0 : Int32)), .val (.int c0)] [])) (fun t ht => st2 t ht) ?_
  refine OFin.of (S' := T2.setTop (mkF m 12 #[.val (.ref a0), .val (.int (1 : Int32)), .val (.ref a2), .val (.int (1 : Int32)), .val (.int (2 : Int32)), .val (.int (1 : Int32)), .val (.int c0)] [(.int (1 : Int32)), (.ref a0)])) (fun t ht => ?_) ?_
  · refine XS.iinc X2.here hx rfl (hb hby dCf2_32) rfl (l' := #[.val (.ref a0), .val (.int (1 : Int32)), .val (.ref a2), .val (.int (0 : Int32)), .val (.int (2 : Int32)), .val (.int (0 : Int32)), .val (.int c0)]) rfl ?_
    show Steps p.tables e below (T2.setTop (mkF m 35 #[.val (.ref a0), .val (.int (1 : Int32)), .val (.ref a2), .val (.int (0 : Int32)), .val (.int (2 : Int32)), .val (.int (0 : Int32)), .val (.int c0)] [])) _
    refine XS.iinc X2.here hx rfl (hb hby dCf2_35) rfl (l' := #[.val (.ref a0), .val (.int (1 : Int32)), .val (.ref a2), .val (.int (1 : Int32)), .val (.int (2 : Int32)), .val (.int (0 : Int32)), .val (.int c0)]) rfl ?_
    show Steps p.tables e below (T2.setTop (mkF m 38 #[.val (.ref a0), .val (.int (1 : Int32)), .val (.ref a2), .val (.int (1 : Int32)), .val (.int (2 : Int32)), .val (.int (0 : Int32)), .val (.int c0)] [])) _
    refine XS.iinc X2.here hx rfl (hb hby dCf2_38) rfl (l' := #[.val (.ref a0), .val (.int (1 : Int32)), .val (.ref a2), .val (.int (1 : Int32)), .val (.int (2 : Int32)), .val (.int (1 : Int32)), .val (.int c0)]) rfl ?_
    show Steps p.tables e below (T2.setTop (mkF m 41 #[.val (.ref a0), .val (.int (1 : Int32)), .val (.ref a2), .val (.int (1 : Int32)), .val (.int (2 : Int32)), .val (.int (1 : Int32)), .val (.int c0)] [])) _
    refine XS.goto X2.here hx rfl (pc0 := 41) (pc' := 3) rfl (hb hby dCf2_41) (by decide) (by decide) ?_
    show Steps p.tables e below (T2.setTop (mkF m 3 _ [])) _
    refine XS.iload X2.here hx rfl (hb hby dCf2_3) rfl ?_
    show Steps p.tables e below (T2.setTop (mkF m 5 _ [(.int (1 : Int32))])) _
    refine XS.iload X2.here hx rfl (hb hby dCf2_5) rfl ?_
    show Steps p.tables e below (T2.setTop (mkF m 7 _ [(.int (2 : Int32)), (.int (1 : Int32))])) _
    refine XS.icmpNo X2.here hx rfl (hb hby dCf2_7) rfl (tlt (by decide : (1 : Int32) < (2 : Int32))).2.1 ?_
    show Steps p.tables e below (T2.setTop (mkF m 10 _ [])) _
    refine XS.aloadN X2.here hx rfl (hb hby dCf2_10) rfl rfl ?_
    show Steps p.tables e below (T2.setTop (mkF m 11 _ [(.ref a0)])) _
    refine XS.iloadN X2.here hx rfl (hb hby dCf2_11) rfl ?_
    exact ht
  obtain ⟨cl8, Ar8, q8, S8, Ng8, H8, G8⟩ := id f3
  have hin8 := inb_of (j := (1 : Int32)) S8 ⟨by decide, by decide⟩
  have hat8 : cl8.slots[((1 : Int32)).toNatClampNeg]? = some (.int c1) := Has.at H8 hin8 rfl
  refine OFin.of (S' := T2.setTop (mkF m 13 #[.val (.ref a0), .val (.int (1 : Int32)), .val (.ref a2), .val (.int (1 : Int32)), .val (.int (2 : Int32)), .val (.int (1 : Int32)), .val (.int c0)] [(.int c1)])) (fun t ht => X2.caload hx (j := (1 : Int32)) (v := (.int c1)) (by rw [e2]; exact Ar8.1) (State.isArrayOf_alike hZ.alike Ar8.2.1) Ar8.2.2 hin8 hat8 (g := (mkF m 12 #[.val (.ref a0), .val (.int (1 : Int32)), .val (.ref a2), .val (.int (1 : Int32)), .val (.int (2 : Int32)), .val (.int (1 : Int32)), .val (.int c0)] [(.int (1 : Int32)), (.ref a0)])) rfl rfl (hb hby dCf2_12) _ ht) ?_
  refine OFin.of (S' := T2.setTop (mkF m 31 #[.val (.ref a0), .val (.int (1 : Int32)), .val (.ref a2), .val (.int (1 : Int32)), .val (.int (2 : Int32)), .val (.int (1 : Int32)), .val (.int c1)] [(.int (c1.toInt8.toInt32)), (.int (1 : Int32)), (.ref a2)])) (fun t ht => ?_) ?_
  · refine XS.istore X2.here hx rfl (hb hby dCf2_13) rfl (l' := #[.val (.ref a0), .val (.int (1 : Int32)), .val (.ref a2), .val (.int (1 : Int32)), .val (.int (2 : Int32)), .val (.int (1 : Int32)), .val (.int c1)]) rfl ?_
    show Steps p.tables e below (T2.setTop (mkF m 15 #[.val (.ref a0), .val (.int (1 : Int32)), .val (.ref a2), .val (.int (1 : Int32)), .val (.int (2 : Int32)), .val (.int (1 : Int32)), .val (.int c1)] [])) _
    refine XS.iload X2.here hx rfl (hb hby dCf2_15) rfl ?_
    show Steps p.tables e below (T2.setTop (mkF m 17 _ [(.int c1)])) _
    refine XS.sipush X2.here hx rfl (hb hby dCf2_17) ?_
    show Steps p.tables e below (T2.setTop (mkF m 20 _ [(.int (255 : Int32)), (.int c1)])) _
    refine XS.icmpYes X2.here hx rfl (pc0 := 20) (pc' := 26) rfl (hb hby dCf2_20) rfl (flt (hp1 : ¬ ((255 : Int32) < c1))).2.2.2 (by decide) (by decide) ?_
    show Steps p.tables e below (T2.setTop (mkF m 26 _ [])) _
    refine XS.aloadN X2.here hx rfl (hb hby dCf2_26) rfl rfl ?_
    show Steps p.tables e below (T2.setTop (mkF m 27 _ [(.ref a2)])) _
    refine XS.iloadN X2.here hx rfl (hb hby dCf2_27) rfl ?_
    show Steps p.tables e below (T2.setTop (mkF m 28 _ [(.int (1 : Int32)), (.ref a2)])) _
    refine XS.iload X2.here hx rfl (hb hby dCf2_28) rfl ?_
    show Steps p.tables e below (T2.setTop (mkF m 30 _ [(.int c1), (.int (1 : Int32)), (.ref a2)])) _
    refine XS.i2b X2.here hx rfl (hb hby dCf2_30) rfl ?_
    exact ht
  obtain ⟨cl9, Ar9, q9, S9, Ng9, H9, G9⟩ := id f7
  have hin9 := inb_of (j := (1 : Int32)) S9 ⟨by decide, by decide⟩
  obtain ⟨T9, h9, X9, e9, W9, st9⟩ := stB X2 hx hZ e2 Ar9 (j := (1 : Int32)) hin9 (g := (mkF m 31 #[.val (.ref a0), .val (.int (1 : Int32)), .val (.ref a2), .val (.int (1 : Int32)), .val (.int (2 : Int32)), .val (.int (1 : Int32)), .val (.int c1)] [(.int (c1.toInt8.toInt32)), (.int (1 : Int32)), (.ref a2)])) rfl rfl (hb hby dCf2_31)
  have f10 := (f3.other W9 hne)
  have Z11 : n0 ≤ h9.size := (Nat.le_trans Z4 (Keep.of_wr W9).1)
  have K12 : Keep h0 h9 [a2] := (K5.wr W9 (Or.inl (List.mem_of_getElem? (i := 0) rfl)))
  have N13 := Fr.snoc X9 N6 g2
  have f14 : Arv Z h9 a2 kb .byte (2 : Int32) [(.int ((c0.toInt8.toInt32).toInt8.toInt32)), (.int ((c1.toInt8.toInt32).toInt8.toInt32))] (.int (0 : Int32)) := Arv.set Ar9 q9 S9 Ng9 H9 G9 (fits_nar_byte _) W9 1 rfl (Nat.le_of_ble_eq_true rfl)
  refine OFin.of (S' := T9.setTop (mkF m 32 #[.val (.ref a0), .val (.int (1 : Int32)), .val (.ref a2), .val (.int (1 : Int32)), .val (.int (2 : Int32)), .val (.int (1 : Int32)), .val (.int c1)] [])) (fun t ht => st9 t ht) ?_
  refine OFin.of (S' := T9.setTop (mkF m 46 #[.val (.ref a0), .val (.int (2 : Int32)), .val (.ref a2), .val (.int (2 : Int32)), .val (.int (2 : Int32)), .val (.int (2 : Int32)), .val (.int c1)] [(.int (2 : Int32))])) (fun t ht => ?_) ?_
  · refine XS.iinc X9.here hx rfl (hb hby dCf2_32) rfl (l' := #[.val (.ref a0), .val (.int (2 : Int32)), .val (.ref a2), .val (.int (1 : Int32)), .val (.int (2 : Int32)), .val (.int (1 : Int32)), .val (.int c1)]) rfl ?_
    show Steps p.tables e below (T9.setTop (mkF m 35 #[.val (.ref a0), .val (.int (2 : Int32)), .val (.ref a2), .val (.int (1 : Int32)), .val (.int (2 : Int32)), .val (.int (1 : Int32)), .val (.int c1)] [])) _
    refine XS.iinc X9.here hx rfl (hb hby dCf2_35) rfl (l' := #[.val (.ref a0), .val (.int (2 : Int32)), .val (.ref a2), .val (.int (2 : Int32)), .val (.int (2 : Int32)), .val (.int (1 : Int32)), .val (.int c1)]) rfl ?_
    show Steps p.tables e below (T9.setTop (mkF m 38 #[.val (.ref a0), .val (.int (2 : Int32)), .val (.ref a2), .val (.int (2 : Int32)), .val (.int (2 : Int32)), .val (.int (1 : Int32)), .val (.int c1)] [])) _
    refine XS.iinc X9.here hx rfl (hb hby dCf2_38) rfl (l' := #[.val (.ref a0), .val (.int (2 : Int32)), .val (.ref a2), .val (.int (2 : Int32)), .val (.int (2 : Int32)), .val (.int (2 : Int32)), .val (.int c1)]) rfl ?_
    show Steps p.tables e below (T9.setTop (mkF m 41 #[.val (.ref a0), .val (.int (2 : Int32)), .val (.ref a2), .val (.int (2 : Int32)), .val (.int (2 : Int32)), .val (.int (2 : Int32)), .val (.int c1)] [])) _
    refine XS.goto X9.here hx rfl (pc0 := 41) (pc' := 3) rfl (hb hby dCf2_41) (by decide) (by decide) ?_
    show Steps p.tables e below (T9.setTop (mkF m 3 _ [])) _
    refine XS.iload X9.here hx rfl (hb hby dCf2_3) rfl ?_
    show Steps p.tables e below (T9.setTop (mkF m 5 _ [(.int (2 : Int32))])) _
    refine XS.iload X9.here hx rfl (hb hby dCf2_5) rfl ?_
    show Steps p.tables e below (T9.setTop (mkF m 7 _ [(.int (2 : Int32)), (.int (2 : Int32))])) _
    refine XS.icmpYes X9.here hx rfl (pc0 := 7) (pc' := 44) rfl (hb hby dCf2_7) rfl (flt (by decide : ¬ ((2 : Int32) < (2 : Int32)))).2.1 (by decide) (by decide) ?_
    show Steps p.tables e below (T9.setTop (mkF m 44 _ [])) _
    refine XS.iload X9.here hx rfl (hb hby dCf2_44) rfl ?_
    exact ht
  exact OFin.retI X9 hx hlk hret (hb hby dCf2_46) (by decide) (by decide) (by rw [e9]; exact ⟨rfl, N13, K12, f14⟩)
theorem dCt2_0 : decode jdk_52_method_16_code 0 = .ok (.iload_n 2, 1) := by decide +kernel
theorem dCt2_1 : decode jdk_52_method_16_code 1 = .ok (.newarray .byte, 2) := by decide +kernel
theorem dCt2_3 : decode jdk_52_method_16_code 3 = .ok (.astore_n 3, 1) := by decide +kernel
theorem dCt2_4 : decode jdk_52_method_16_code 4 = .ok (.aload_n 0, 1) := by decide +kernel
theorem dCt2_5 : decode jdk_52_method_16_code 5 = .ok (.iload_n 1, 1) := by decide +kernel
theorem dCt2_6 : decode jdk_52_method_16_code 6 = .ok (.aload_n 3, 1) := by decide +kernel
theorem dCt2_7 : decode jdk_52_method_16_code 7 = .ok (.iconst 0, 1) := by decide +kernel
theorem dCt2_8 : decode jdk_52_method_16_code 8 = .ok (.iload_n 2, 1) := by decide +kernel
theorem dCt2_9 : decode jdk_52_method_16_code 9 = .ok (.invokestatic 115, 3) := by decide +kernel
theorem dCt2_12 : decode jdk_52_method_16_code 12 = .ok (.istore 4, 2) := by decide +kernel
theorem dCt2_14 : decode jdk_52_method_16_code 14 = .ok (.iload 4, 2) := by decide +kernel
theorem dCt2_16 : decode jdk_52_method_16_code 16 = .ok (.iload_n 2, 1) := by decide +kernel
theorem dCt2_17 : decode jdk_52_method_16_code 17 = .ok (.if_icmp .eq 40, 3) := by decide +kernel
theorem dCt2_57 : decode jdk_52_method_16_code 57 = .ok (.aload_n 3, 1) := by decide +kernel
theorem dCt2_58 : decode jdk_52_method_16_code 58 = .ok (.areturn, 1) := by decide +kernel
theorem pnCt2 : plainName "java/lang/StringUTF16" = true := by first | (simp [plainName, overriddenIn]; done) | decide +kernel
theorem efCt2 (m : MethodId) (a0 : Addr) : entryFrame m #[(.ref a0), (.int (0 : Int32)), (.int (2 : Int32))] 6 = mkF m 0 #[.val (.ref a0), .val (.int (0 : Int32)), .val (.int (2 : Int32)), .unset, .unset, .unset] [] := by first | (simp [entryFrame, mkF, argsToLocals, Value.category]; done) | rfl
def QCt2 (Z : State) (a0 : Addr) (kc : ClassId) (c0 : Int32) (c1 : Int32) (h0 : Heap) (n0 : Nat) (v : Option Value) (h : Heap) (L : List Loc) : Prop := v = some (.ref h0.size) ∧ Fr n0 L ∧ Keep h0 h [] ∧ ∃ kb, Arv Z h h0.size kb .byte (2 : Int32) [(.int ((c0.toInt8.toInt32).toInt8.toInt32)), (.int ((c1.toInt8.toInt32).toInt8.toInt32))] (.int (0 : Int32))
set_option maxRecDepth 65536 in
set_option maxHeartbeats 40000000 in
theorem rmCt2 (l : Launch) (Z : State) (a0 : Array Value) (hw : ∀ d ∈ tables_1, d.before a0 Z = true) (ws : List Jvm.Cond) (a0 : Addr) (kc : ClassId) (c0 : Int32) (c1 : Int32) (h0 : Heap) (n0 : Nat) (Z0 : n0 ≤ h0.size) (V1 : Arv Z h0 a0 kc .char (2 : Int32) [(.int c0), (.int c1)] (.int (0 : Int32))) (hp0 : ¬ (255 : Int32) < c0) (hp1 : ¬ (255 : Int32) < c1) :
    MetFree l (⟨"java/lang/StringUTF16", "compress", "([CII)[B"⟩ : MethodName) (head1 (Jvm.Cond.code (⟨"java/lang/StringUTF16", "compress", "([CII)[B"⟩ : MethodName) jdk_52_method_16_code 6 (some (.array .byte)) :: ws) ({ frames := 1, cells := 1, slots := 2, locals := 18 } : Room)) (fun a U => a = #[(.ref a0), (.int (0 : Int32)), (.int (2 : Int32))] ∧ Z.Warmed39 U.vm ∧ U.heap = h0) (fun _ _ _ _ _ => True) (fun _ U o U' => ∃ v L, o = .returned v ∧ QCt2 Z a0 kc c0 c1 h0 n0 v U'.heap L ∧ FrameEnd U o U' L ({ frames := 1, cells := 1, slots := 2, locals := 18 } : Room).cells ({ frames := 1, cells := 1, slots := 2, locals := 18 } : Room).slots) := by
  refine MetFree.of_bodySF (plainFor_of_name pnCt2) hisR ?_
  intro p e s m args below meth c s₁ Bd hml0 hP hK
  obtain ⟨rfl, hZ, hh⟩ := hP
  have hx := Bd.exec
  have hby := Bd.bytes
  have hlk := BodyLoose.notSynchronized Bd
  have hret := Bd.returns
  have hml : c.maxLocals = 6 := hml0
  have hown : s.vm.findClass "java/lang/StringUTF16" = some m.cls := findClass_of_methodNamed Bd.named
  have hnm := (name_of_methodNamed Bd.named Bd.method).1
  have X0 : Stand p l e ({ frames := 1, cells := 1, slots := 2, locals := 18 } : Room) s m #[(.ref a0), (.int (0 : Int32)), (.int (2 : Int32))] below meth c s₁ [] 0 0 := Stand.of_body Bd
  have e0 : s₁.heap = h0 := by rw [← hh, Bd.state]; rfl
  have N0 := Fr.nil n0
  show OFin p e below (KPost s (QCt2 Z a0 kc c0 c1 h0 n0) ({ frames := 1, cells := 1, slots := 2, locals := 18 } : Room).cells ({ frames := 1, cells := 1, slots := 2, locals := 18 } : Room).slots) _
  rw [efCt2 m a0]
  have K0 : Keep h0 h0 [] := Keep.refl _ _
  refine OFin.of (S' := s₁.setTop (mkF m 1 #[.val (.ref a0), .val (.int (0 : Int32)), .val (.int (2 : Int32)), .unset, .unset, .unset] [(.int (2 : Int32))])) (fun t ht => ?_) ?_
  · refine XS.iloadN X0.here hx rfl (hb hby dCt2_0) rfl ?_
    exact ht
  obtain ⟨T1, h1, k1, X1, e1, E1, A1, st1⟩ := newP X0 hx hZ (hw _ (List.mem_of_getElem? (i := 19) rfl)) e0 (g := (mkF m 1 #[.val (.ref a0), .val (.int (0 : Int32)), .val (.int (2 : Int32)), .unset, .unset, .unset] [(.int (2 : Int32))])) rfl (hb hby dCt2_1) rfl (by decide) (cap := 2) (by decide) (by decide) (by decide) (by decide)
  obtain ⟨b1, gq1⟩ : ∃ z, z = h0.size := ⟨_, rfl⟩
  rw [← gq1] at A1 st1
  have g2 : n0 ≤ b1 := (Nat.le_trans Z0 (Nat.le_of_eq gq1.symm))
  have sz3 : h0.size ≤ b1 := (Nat.le_trans K0.1 (Nat.le_of_eq gq1.symm))
  have ne4 : a0 ≠ b1 := (Nat.ne_of_lt (Nat.lt_of_lt_of_le V1.lt (Nat.le_of_eq gq1.symm)))
  have f5 := V1.ext E1
  have Z6 : n0 ≤ h1.size := (Nat.le_trans Z0 E1.1)
  have K7 : Keep h0 h1 [] := (K0.ext E1)
  have f8 : Arv Z h1 b1 k1 .byte (2 : Int32) [(.int (0 : Int32)), (.int (0 : Int32))] (.int (0 : Int32)) := ((Arv.new A1 (by decide)).pad (pad_rep [] (.int (0 : Int32)) 2))
  refine OFin.of (S' := T1.setTop (mkF m 3 #[.val (.ref a0), .val (.int (0 : Int32)), .val (.int (2 : Int32)), .unset, .unset, .unset] [(.ref b1)])) (fun t ht => st1 t ht) ?_
  refine OFin.of (S' := T1.setTop (mkF m 9 #[.val (.ref a0), .val (.int (0 : Int32)), .val (.int (2 : Int32)), .val (.ref b1), .unset, .unset] [(.int (2 : Int32)), (.int (0 : Int32)), (.ref b1), (.int (0 : Int32)), (.ref a0)])) (fun t ht => ?_) ?_
  · refine XS.astoreN X1.here hx rfl (hb hby dCt2_3) rfl rfl (l' := #[.val (.ref a0), .val (.int (0 : Int32)), .val (.int (2 : Int32)), .val (.ref b1), .unset, .unset]) rfl ?_
    show Steps p.tables e below (T1.setTop (mkF m 4 #[.val (.ref a0), .val (.int (0 : Int32)), .val (.int (2 : Int32)), .val (.ref b1), .unset, .unset] [])) _
    refine XS.aloadN X1.here hx rfl (hb hby dCt2_4) rfl rfl ?_
    show Steps p.tables e below (T1.setTop (mkF m 5 _ [(.ref a0)])) _
    refine XS.iloadN X1.here hx rfl (hb hby dCt2_5) rfl ?_
    show Steps p.tables e below (T1.setTop (mkF m 6 _ [(.int (0 : Int32)), (.ref a0)])) _
    refine XS.aloadN X1.here hx rfl (hb hby dCt2_6) rfl rfl ?_
    show Steps p.tables e below (T1.setTop (mkF m 7 _ [(.ref b1), (.int (0 : Int32)), (.ref a0)])) _
    refine XS.iconst X1.here hx rfl (hb hby dCt2_7) ?_
    show Steps p.tables e below (T1.setTop (mkF m 8 _ [(.int (0 : Int32)), (.ref b1), (.int (0 : Int32)), (.ref a0)])) _
    refine XS.iloadN X1.here hx rfl (hb hby dCt2_8) rfl ?_
    exact ht
  obtain ⟨_, _, ⟨T9, L9, k9, n9⟩, -, X9, ⟨Lc9, hQ9, l9, y9, z9⟩, st9⟩ := Jvm.LawKit.callS X1 hx (y := (⟨"java/lang/StringUTF16", "compress", "([CI[BII)I"⟩ : MethodName)) hown (mvT hZ (hw _ (List.mem_of_getElem? (i := 20) rfl))) (mvT hZ (hw _ (List.mem_of_getElem? (i := 21) rfl))) (mvT hZ (hw _ (List.mem_of_getElem? (i := 17) rfl))) (mvT hZ (hw _ (List.mem_of_getElem? (i := 22) rfl))) (by decide) (backOf (W := 0) (rmCf2 l Z _ hw [] a0 b1 kc k1 c0 c1 h1 n0 Z6 f5 f8 g2 ne4 hp0 hp1) hZ (hw _ (List.mem_of_getElem? (i := 22) rfl)) (hw _ (List.mem_of_getElem? (i := 17) rfl)) (by decide) (by decide)) (g := (mkF m 9 #[.val (.ref a0), .val (.int (0 : Int32)), .val (.int (2 : Int32)), .val (.ref b1), .unset, .unset] [(.int (2 : Int32)), (.int (0 : Int32)), (.ref b1), (.int (0 : Int32)), (.ref a0)])) rfl (by rw [hml]; rfl) (argsL := [(.ref a0), (.int (0 : Int32)), (.ref b1), (.int (0 : Int32)), (.int (2 : Int32))]) (rest := []) (lenOf pd_1 rfl) rfl (by show 2 * 0 + _ ≤ _; exact Nat.le_of_eq rfl) (hb hby dCt2_9) (fun _ _ => ⟨rfl, e1, (by decide : 1 + 0 ≤ _), (by decide : 2 + 0 ≤ _)⟩)
  dsimp only [Pt.U, Pt.locs, Pt.cells, Pt.slots] at X9 l9 y9 z9 st9 hQ9
  subst l9 y9 z9
  obtain ⟨rfl, Nq9, Kq9, f10⟩ := hQ9
  have N11 := Fr.app N0 Nq9
  have f12 := (f5.keep Kq9 (ninS ne4 nin0))
  have Z13 : n0 ≤ T9.heap.size := (Nat.le_trans Z6 Kq9.1)
  have K14 : Keep h0 T9.heap [] := (K7.trans Kq9 (allS (Or.inr sz3) all0))
  refine OFin.of (S' := T9.setTop (mkF m 12 #[.val (.ref a0), .val (.int (0 : Int32)), .val (.int (2 : Int32)), .val (.ref b1), .unset, .unset] [(.int (2 : Int32))])) (fun t ht => st9 t ht) ?_
  refine OFin.of (S' := T9.setTop (mkF m 58 #[.val (.ref a0), .val (.int (0 : Int32)), .val (.int (2 : Int32)), .val (.ref b1), .val (.int (2 : Int32)), .unset] [(.ref b1)])) (fun t ht => ?_) ?_
  · refine XS.istore X9.here hx rfl (hb hby dCt2_12) rfl (l' := #[.val (.ref a0), .val (.int (0 : Int32)), .val (.int (2 : Int32)), .val (.ref b1), .val (.int (2 : Int32)), .unset]) rfl ?_
    show Steps p.tables e below (T9.setTop (mkF m 14 #[.val (.ref a0), .val (.int (0 : Int32)), .val (.int (2 : Int32)), .val (.ref b1), .val (.int (2 : Int32)), .unset] [])) _
    refine XS.iload X9.here hx rfl (hb hby dCt2_14) rfl ?_
    show Steps p.tables e below (T9.setTop (mkF m 16 _ [(.int (2 : Int32))])) _
    refine XS.iloadN X9.here hx rfl (hb hby dCt2_16) rfl ?_
    show Steps p.tables e below (T9.setTop (mkF m 17 _ [(.int (2 : Int32)), (.int (2 : Int32))])) _
    refine XS.icmpYes X9.here hx rfl (pc0 := 17) (pc' := 57) rfl (hb hby dCt2_17) rfl (teq (by decide : (2 : Int32) = (2 : Int32))).1 (by decide) (by decide) ?_
    show Steps p.tables e below (T9.setTop (mkF m 57 _ [])) _
    refine XS.aloadN X9.here hx rfl (hb hby dCt2_57) rfl rfl ?_
    exact ht
  exact OFin.retA X9 hx hlk (t := (.array .byte)) rfl rfl hret (hb hby dCt2_58) (by decide) (by decide) (by exact ⟨by rw [← gq1], N11, K14, k1, by rw [← gq1]; exact f10⟩)
theorem dCd2_0 : decode jdk_52_method_15_code 0 = .ok (.iload_n 1, 1) := by decide +kernel
theorem dCd2_1 : decode jdk_52_method_15_code 1 = .ok (.aload_n 0, 1) := by decide +kernel
theorem dCd2_2 : decode jdk_52_method_15_code 2 = .ok (.arraylength, 1) := by decide +kernel
theorem dCd2_3 : decode jdk_52_method_15_code 3 = .ok (.isub, 1) := by decide +kernel
theorem dCd2_4 : decode jdk_52_method_15_code 4 = .ok (.bipush 31, 2) := by decide +kernel
theorem dCd2_6 : decode jdk_52_method_15_code 6 = .ok (.iushr, 1) := by decide +kernel
theorem dCd2_7 : decode jdk_52_method_15_code 7 = .ok (.i2b, 1) := by decide +kernel
theorem dCd2_8 : decode jdk_52_method_15_code 8 = .ok (.ireturn, 1) := by decide +kernel
theorem pnCd2 : plainName "java/lang/StringUTF16" = true := by first | (simp [plainName, overriddenIn]; done) | decide +kernel
theorem efCd2 (m : MethodId) (a0 : Addr) : entryFrame m #[(.ref a0), (.int (2 : Int32))] 2 = mkF m 0 #[.val (.ref a0), .val (.int (2 : Int32))] [] := by first | (simp [entryFrame, mkF, argsToLocals, Value.category]; done) | rfl
def QCd2 (Z : State) (a0 : Addr) (k : ClassId) (x0 : Int32) (x1 : Int32) (h0 : Heap) (n0 : Nat) (v : Option Value) (h : Heap) (L : List Loc) : Prop := v = some (.int (0 : Int32)) ∧ Fr n0 L ∧ h = h0
set_option maxRecDepth 65536 in
set_option maxHeartbeats 40000000 in
theorem rmCd2 (l : Launch) (Z : State) (a0 : Array Value) (hw : ∀ d ∈ tables_1, d.before a0 Z = true) (ws : List Jvm.Cond) (a0 : Addr) (k : ClassId) (x0 : Int32) (x1 : Int32) (h0 : Heap) (n0 : Nat) (Z0 : n0 ≤ h0.size) (V1 : Arv Z h0 a0 k .byte (2 : Int32) [(.int x0), (.int x1)] (.int (0 : Int32))) :
    MetFree l (⟨"java/lang/StringUTF16", "coderFromArrayLen", "([BI)B"⟩ : MethodName) (head1 (Jvm.Cond.code (⟨"java/lang/StringUTF16", "coderFromArrayLen", "([BI)B"⟩ : MethodName) jdk_52_method_15_code 2 (some .byte) :: ws) ({ frames := 0, cells := 0, slots := 0, locals := 0 } : Room)) (fun a U => a = #[(.ref a0), (.int (2 : Int32))] ∧ Z.Warmed39 U.vm ∧ U.heap = h0) (fun _ _ _ _ _ => True) (fun _ U o U' => ∃ v L, o = .returned v ∧ QCd2 Z a0 k x0 x1 h0 n0 v U'.heap L ∧ FrameEnd U o U' L ({ frames := 0, cells := 0, slots := 0, locals := 0 } : Room).cells ({ frames := 0, cells := 0, slots := 0, locals := 0 } : Room).slots) := by
  refine MetFree.of_bodySF (plainFor_of_name pnCd2) hisR ?_
  intro p e s m args below meth c s₁ Bd hml0 hP hK
  obtain ⟨rfl, hZ, hh⟩ := hP
  have hx := Bd.exec
  have hby := Bd.bytes
  have hlk := BodyLoose.notSynchronized Bd
  have hret := Bd.returns
  have hml : c.maxLocals = 2 := hml0
  have hown : s.vm.findClass "java/lang/StringUTF16" = some m.cls := findClass_of_methodNamed Bd.named
  have hnm := (name_of_methodNamed Bd.named Bd.method).1
  have X0 : Stand p l e ({ frames := 0, cells := 0, slots := 0, locals := 0 } : Room) s m #[(.ref a0), (.int (2 : Int32))] below meth c s₁ [] 0 0 := Stand.of_body Bd
  have e0 : s₁.heap = h0 := by rw [← hh, Bd.state]; rfl
  have N0 := Fr.nil n0
  show OFin p e below (KPost s (QCd2 Z a0 k x0 x1 h0 n0) ({ frames := 0, cells := 0, slots := 0, locals := 0 } : Room).cells ({ frames := 0, cells := 0, slots := 0, locals := 0 } : Room).slots) _
  rw [efCd2 m a0]
  refine OFin.of (S' := s₁.setTop (mkF m 2 #[.val (.ref a0), .val (.int (2 : Int32))] [(.ref a0), (.int (2 : Int32))])) (fun t ht => ?_) ?_
  · refine XS.iloadN X0.here hx rfl (hb hby dCd2_0) rfl ?_
    show Steps p.tables e below (s₁.setTop (mkF m 1 _ [(.int (2 : Int32))])) _
    refine XS.aloadN X0.here hx rfl (hb hby dCd2_1) rfl rfl ?_
    exact ht
  obtain ⟨cl1, Ar1, q1, S1, Ng1, H1, G1⟩ := id V1
  refine OFin.of (S' := s₁.setTop (mkF m 3 #[.val (.ref a0), .val (.int (2 : Int32))] [(.int (2 : Int32)), (.int (2 : Int32))])) (fun t ht => own_alen X0 hx hZ e0 Ar1 S1 Ng1 (g := (mkF m 2 #[.val (.ref a0), .val (.int (2 : Int32))] [(.ref a0), (.int (2 : Int32))])) rfl rfl (hb hby dCd2_2) ht) ?_
  refine OFin.of (S' := s₁.setTop (mkF m 8 #[.val (.ref a0), .val (.int (2 : Int32))] [(.int ((((0 : Int32).toUInt32 >>> ((31 : Int32) &&& 31).toUInt32).toInt32).toInt8.toInt32))])) (fun t ht => ?_) ?_
  · refine XS.isub X0.here hx rfl (hb hby dCd2_3) rfl ?_
    show Steps p.tables e below (s₁.setTop (mkF m 4 _ [(.int (0 : Int32))])) _
    refine XS.bipush X0.here hx rfl (hb hby dCd2_4) ?_
    show Steps p.tables e below (s₁.setTop (mkF m 6 _ [(.int (31 : Int32)), (.int (0 : Int32))])) _
    refine XS.iushr X0.here hx rfl (hb hby dCd2_6) rfl ?_
    show Steps p.tables e below (s₁.setTop (mkF m 7 _ [(.int (((0 : Int32).toUInt32 >>> ((31 : Int32) &&& 31).toUInt32).toInt32))])) _
    refine XS.i2b X0.here hx rfl (hb hby dCd2_7) rfl ?_
    exact ht
  exact OFin.retB X0 hx hlk (t := .byte) (by simp) hret (hb hby dCd2_8) (by decide) (by decide) (by rw [e0]; exact ⟨(by show some (Value.int (nar .byte ((((0 : Int32).toUInt32 >>> ((31 : Int32) &&& 31).toUInt32).toInt32).toInt8.toInt32))) = _; rfl), N0, rfl⟩)
theorem dSf2_0 : decode jdk_42_method_149_code 0 = .ok (.aload_n 0, 1) := by decide +kernel
theorem dSf2_1 : decode jdk_42_method_149_code 1 = .ok (.invokespecial 1, 3) := by decide +kernel
theorem dSf2_4 : decode jdk_42_method_149_code 4 = .ok (.iload_n 3, 1) := by decide +kernel
theorem dSf2_5 : decode jdk_42_method_149_code 5 = .ok (.ifCond .ne 22, 3) := by decide +kernel
theorem dSf2_27 : decode jdk_42_method_149_code 27 = .ok (.getstatic 38, 3) := by decide +kernel
theorem dSf2_30 : decode jdk_42_method_149_code 30 = .ok (.ifCond .eq 28, 3) := by decide +kernel
theorem dSf2_33 : decode jdk_42_method_149_code 33 = .ok (.aload_n 1, 1) := by decide +kernel
theorem dSf2_34 : decode jdk_42_method_149_code 34 = .ok (.iload_n 2, 1) := by decide +kernel
theorem dSf2_35 : decode jdk_42_method_149_code 35 = .ok (.iload_n 3, 1) := by decide +kernel
theorem dSf2_36 : decode jdk_42_method_149_code 36 = .ok (.invokestatic 177, 3) := by decide +kernel
theorem dSf2_39 : decode jdk_42_method_149_code 39 = .ok (.astore 5, 2) := by decide +kernel
theorem dSf2_41 : decode jdk_42_method_149_code 41 = .ok (.aload_n 0, 1) := by decide +kernel
theorem dSf2_42 : decode jdk_42_method_149_code 42 = .ok (.aload 5, 2) := by decide +kernel
theorem dSf2_44 : decode jdk_42_method_149_code 44 = .ok (.iload_n 3, 1) := by decide +kernel
theorem dSf2_45 : decode jdk_42_method_149_code 45 = .ok (.invokestatic 47, 3) := by decide +kernel
theorem dSf2_48 : decode jdk_42_method_149_code 48 = .ok (.putfield 15, 3) := by decide +kernel
theorem dSf2_51 : decode jdk_42_method_149_code 51 = .ok (.aload_n 0, 1) := by decide +kernel
theorem dSf2_52 : decode jdk_42_method_149_code 52 = .ok (.aload 5, 2) := by decide +kernel
theorem dSf2_54 : decode jdk_42_method_149_code 54 = .ok (.putfield 9, 3) := by decide +kernel
theorem dSf2_57 : decode jdk_42_method_149_code 57 = .ok (.return_, 1) := by decide +kernel
theorem pnSf2 : plainName "java/lang/String" = true := by first | (simp [plainName, overriddenIn]; done) | decide +kernel
theorem efSf2 (m : MethodId) (a0 : Addr) (a1 : Addr) : entryFrame m #[(.ref a0), (.ref a1), (.int (0 : Int32)), (.int (2 : Int32)), .null] 6 = mkF m 0 #[.val (.ref a0), .val (.ref a1), .val (.int (0 : Int32)), .val (.int (2 : Int32)), .val .null, .unset] [] := by first | (simp [entryFrame, mkF, argsToLocals, Value.category]; done) | rfl
def QSf2 (Z : State) (a0 : Addr) (a1 : Addr) (kc : ClassId) (cs : Int32) (c0 : Int32) (c1 : Int32) (h0 : Heap) (n0 : Nat) (v : Option Value) (h : Heap) (L : List Loc) : Prop := v = none ∧ Fr n0 L ∧ Keep h0 h [a0] ∧ Fld Z h a0 "java/lang/String" "coder" "B" (.int (0 : Int32)) ∧ Fld Z h a0 "java/lang/String" "value" "[B" (.ref h0.size) ∧ ∃ kb, Arv Z h h0.size kb .byte (2 : Int32) [(.int ((c0.toInt8.toInt32).toInt8.toInt32)), (.int ((c1.toInt8.toInt32).toInt8.toInt32))] (.int (0 : Int32))
set_option maxRecDepth 65536 in
set_option maxHeartbeats 40000000 in
theorem rmSf2 (l : Launch) (Z : State) (a0 : Array Value) (hw : ∀ d ∈ tables_1, d.before a0 Z = true) (ws : List Jvm.Cond) (a0 : Addr) (a1 : Addr) (kc : ClassId) (cs : Int32) (c0 : Int32) (c1 : Int32) (h0 : Heap) (n0 : Nat) (Z0 : n0 ≤ h0.size) (E0 : Exa Z h0 a0 "java/lang/String") (Fc : Fld Z h0 a0 "java/lang/String" "coder" "B" (.int (0 : Int32))) (Fv : Fld Z h0 a0 "java/lang/String" "value" "[B" .null) (V1 : Arv Z h0 a1 kc .char (2 : Int32) [(.int c0), (.int c1)] (.int (0 : Int32))) (g0 : n0 ≤ a0) (hne : a1 ≠ a0) (Scs : Sta Z h0 "java/lang/String" "COMPACT_STRINGS" "Z" (.int cs)) (hcs : ¬ cs = (0 : Int32)) (hp0 : ¬ (255 : Int32) < c0) (hp1 : ¬ (255 : Int32) < c1) :
    MetFree l (⟨"java/lang/String", "<init>", "([CIILjava/lang/Void;)V"⟩ : MethodName) (head1 (Jvm.Cond.code (⟨"java/lang/String", "<init>", "([CIILjava/lang/Void;)V"⟩ : MethodName) jdk_42_method_149_code 6 none :: ws) ({ frames := 2, cells := 1, slots := 2, locals := 35 } : Room)) (fun a U => a = #[(.ref a0), (.ref a1), (.int (0 : Int32)), (.int (2 : Int32)), .null] ∧ Z.Warmed39 U.vm ∧ U.heap = h0) (fun _ _ _ _ _ => True) (fun _ U o U' => ∃ v L, o = .returned v ∧ QSf2 Z a0 a1 kc cs c0 c1 h0 n0 v U'.heap L ∧ FrameEnd U o U' L ({ frames := 2, cells := 1, slots := 2, locals := 35 } : Room).cells ({ frames := 2, cells := 1, slots := 2, locals := 35 } : Room).slots) := by
  refine MetFree.of_bodySF (plainFor_of_name pnSf2) hisR ?_
  intro p e s m args below meth c s₁ Bd hml0 hP hK
  obtain ⟨rfl, hZ, hh⟩ := hP
  have hx := Bd.exec
  have hby := Bd.bytes
  have hlk := BodyLoose.notSynchronized Bd
  have hret := Bd.returns
  have hml : c.maxLocals = 6 := hml0
  have hown : s.vm.findClass "java/lang/String" = some m.cls := findClass_of_methodNamed Bd.named
  have hnm := (name_of_methodNamed Bd.named Bd.method).1
  have X0 : Stand p l e ({ frames := 2, cells := 1, slots := 2, locals := 35 } : Room) s m #[(.ref a0), (.ref a1), (.int (0 : Int32)), (.int (2 : Int32)), .null] below meth c s₁ [] 0 0 := Stand.of_body Bd
  have e0 : s₁.heap = h0 := by rw [← hh, Bd.state]; rfl
  have N0 := Fr.nil n0
  show OFin p e below (KPost s (QSf2 Z a0 a1 kc cs c0 c1 h0 n0) ({ frames := 2, cells := 1, slots := 2, locals := 35 } : Room).cells ({ frames := 2, cells := 1, slots := 2, locals := 35 } : Room).slots) _
  rw [efSf2 m a0 a1]
  have K0 : Keep h0 h0 [a0] := Keep.refl _ _
  refine OFin.of (S' := s₁.setTop (mkF m 1 #[.val (.ref a0), .val (.ref a1), .val (.int (0 : Int32)), .val (.int (2 : Int32)), .val .null, .unset] [(.ref a0)])) (fun t ht => ?_) ?_
  · refine XS.aloadN X0.here hx rfl (hb hby dSf2_0) rfl rfl ?_
    exact ht
  obtain ⟨T1, X1, e1, st1⟩ := initO X0 hx hZ hown (hw _ (List.mem_of_getElem? (i := 11) rfl)) (hw _ (List.mem_of_getElem? (i := 12) rfl)) (hw _ (List.mem_of_getElem? (i := 13) rfl)) e0 (g := (mkF m 1 #[.val (.ref a0), .val (.ref a1), .val (.int (0 : Int32)), .val (.int (2 : Int32)), .val .null, .unset] [(.ref a0)])) rfl (by rw [hml]; rfl) rfl (hb hby dSf2_1) (by decide) (W := 0) (by show 2 * 0 + _ ≤ _; exact Nat.le_of_eq rfl) (by decide)
  refine OFin.of (S' := T1.setTop (mkF m 4 #[.val (.ref a0), .val (.ref a1), .val (.int (0 : Int32)), .val (.int (2 : Int32)), .val .null, .unset] [])) (fun t ht => st1 t ht) ?_
  refine OFin.of (S' := T1.setTop (mkF m 27 #[.val (.ref a0), .val (.ref a1), .val (.int (0 : Int32)), .val (.int (2 : Int32)), .val .null, .unset] [])) (fun t ht => ?_) ?_
  · refine XS.iloadN X1.here hx rfl (hb hby dSf2_4) rfl ?_
    show Steps p.tables e below (T1.setTop (mkF m 5 _ [(.int (2 : Int32))])) _
    refine XS.ifYes X1.here hx rfl (pc0 := 5) (pc' := 27) rfl (hb hby dSf2_5) rfl ((if0 _ _).trans (feq (by decide : ¬ ((2 : Int32) = (0 : Int32)))).2) (by decide) (by decide) ?_
    exact ht
  obtain ⟨T2, X2, e2, st2⟩ := getS (host := "") X1 hx hZ hown (hw _ (List.mem_of_getElem? (i := 14) rfl)) Via.refl e1 Scs (g := (mkF m 27 #[.val (.ref a0), .val (.ref a1), .val (.int (0 : Int32)), .val (.int (2 : Int32)), .val .null, .unset] [])) rfl (hb hby dSf2_27)
  refine OFin.of (S' := T2.setTop (mkF m 30 #[.val (.ref a0), .val (.ref a1), .val (.int (0 : Int32)), .val (.int (2 : Int32)), .val .null, .unset] [(.int cs)])) (fun t ht => st2 t ht) ?_
  refine OFin.of (S' := T2.setTop (mkF m 36 #[.val (.ref a0), .val (.ref a1), .val (.int (0 : Int32)), .val (.int (2 : Int32)), .val .null, .unset] [(.int (2 : Int32)), (.int (0 : Int32)), (.ref a1)])) (fun t ht => ?_) ?_
  · refine XS.ifNo X2.here hx rfl (hb hby dSf2_30) rfl ((if0 _ _).trans (feq (hcs : ¬ (cs = (0 : Int32)))).1) ?_
    show Steps p.tables e below (T2.setTop (mkF m 33 _ [])) _
    refine XS.aloadN X2.here hx rfl (hb hby dSf2_33) rfl rfl ?_
    show Steps p.tables e below (T2.setTop (mkF m 34 _ [(.ref a1)])) _
    refine XS.iloadN X2.here hx rfl (hb hby dSf2_34) rfl ?_
    show Steps p.tables e below (T2.setTop (mkF m 35 _ [(.int (0 : Int32)), (.ref a1)])) _
    refine XS.iloadN X2.here hx rfl (hb hby dSf2_35) rfl ?_
    exact ht
  obtain ⟨_, _, ⟨T3, L3, k3, n3⟩, -, X3, ⟨Lc3, hQ3, l3, y3, z3⟩, st3⟩ := Jvm.LawKit.callS X2 hx (y := (⟨"java/lang/StringUTF16", "compress", "([CII)[B"⟩ : MethodName)) hown (mvT hZ (hw _ (List.mem_of_getElem? (i := 15) rfl))) (mvT hZ (hw _ (List.mem_of_getElem? (i := 16) rfl))) (mvT hZ (hw _ (List.mem_of_getElem? (i := 17) rfl))) (mvT hZ (hw _ (List.mem_of_getElem? (i := 18) rfl))) (by decide) (backOf (W := 0) (rmCt2 l Z _ hw [] a1 kc c0 c1 h0 n0 Z0 V1 hp0 hp1) hZ (hw _ (List.mem_of_getElem? (i := 18) rfl)) (hw _ (List.mem_of_getElem? (i := 17) rfl)) (by decide) (by decide)) (g := (mkF m 36 #[.val (.ref a0), .val (.ref a1), .val (.int (0 : Int32)), .val (.int (2 : Int32)), .val .null, .unset] [(.int (2 : Int32)), (.int (0 : Int32)), (.ref a1)])) rfl (by rw [hml]; rfl) (argsL := [(.ref a1), (.int (0 : Int32)), (.int (2 : Int32))]) (rest := []) (lenOf pd_2 rfl) rfl (by show 2 * 0 + _ ≤ _; exact Nat.le_of_eq rfl) (hb hby dSf2_36) (fun _ _ => ⟨rfl, e2, (by decide : 0 + 1 ≤ _), (by decide : 0 + 2 ≤ _)⟩)
  dsimp only [Pt.U, Pt.locs, Pt.cells, Pt.slots] at X3 l3 y3 z3 st3 hQ3
  subst l3 y3 z3
  obtain ⟨rfl, Nq3, Kq3, ⟨kb_3, f4⟩⟩ := hQ3
  have N5 := Fr.app N0 Nq3
  obtain ⟨b3, gq3⟩ : ∃ z, z = h0.size := ⟨_, rfl⟩
  rw [← gq3] at f4 st3
  have g6 : n0 ≤ b3 := (Nat.le_trans Z0 (Nat.le_of_eq gq3.symm))
  have sz7 : h0.size ≤ b3 := (Nat.le_trans K0.1 (Nat.le_of_eq gq3.symm))
  have ne8 : a0 ≠ b3 := (Nat.ne_of_lt (Nat.lt_of_lt_of_le E0.lt (Nat.le_of_eq gq3.symm)))
  have ne9 : a1 ≠ b3 := (Nat.ne_of_lt (Nat.lt_of_lt_of_le V1.lt (Nat.le_of_eq gq3.symm)))
  have f10 := (E0.keep Kq3)
  have f11 := (Fc.keep Kq3 nin0)
  have f12 := (Fv.keep Kq3 nin0)
  have f13 := (V1.keep Kq3 nin0)
  have f14 := (own_staKeep Scs Kq3 own_sn0)
  have Z15 : n0 ≤ T3.heap.size := (Nat.le_trans Z0 Kq3.1)
  have K16 : Keep h0 T3.heap [a0] := (K0.trans Kq3 all0)
  refine OFin.of (S' := T3.setTop (mkF m 39 #[.val (.ref a0), .val (.ref a1), .val (.int (0 : Int32)), .val (.int (2 : Int32)), .val .null, .unset] [(.ref b3)])) (fun t ht => st3 t ht) ?_
  refine OFin.of (S' := T3.setTop (mkF m 45 #[.val (.ref a0), .val (.ref a1), .val (.int (0 : Int32)), .val (.int (2 : Int32)), .val .null, .val (.ref b3)] [(.int (2 : Int32)), (.ref b3), (.ref a0)])) (fun t ht => ?_) ?_
  · refine XS.astore X3.here hx rfl (hb hby dSf2_39) rfl rfl (l' := #[.val (.ref a0), .val (.ref a1), .val (.int (0 : Int32)), .val (.int (2 : Int32)), .val .null, .val (.ref b3)]) rfl ?_
    show Steps p.tables e below (T3.setTop (mkF m 41 #[.val (.ref a0), .val (.ref a1), .val (.int (0 : Int32)), .val (.int (2 : Int32)), .val .null, .val (.ref b3)] [])) _
    refine XS.aloadN X3.here hx rfl (hb hby dSf2_41) rfl rfl ?_
    show Steps p.tables e below (T3.setTop (mkF m 42 _ [(.ref a0)])) _
    refine XS.aload X3.here hx rfl (hb hby dSf2_42) rfl rfl ?_
    show Steps p.tables e below (T3.setTop (mkF m 44 _ [(.ref b3), (.ref a0)])) _
    refine XS.iloadN X3.here hx rfl (hb hby dSf2_44) rfl ?_
    exact ht
  obtain ⟨_, _, ⟨T17, L17, k17, n17⟩, -, X17, ⟨Lc17, hQ17, l17, y17, z17⟩, st17⟩ := Jvm.LawKit.callS X3 hx (y := (⟨"java/lang/StringUTF16", "coderFromArrayLen", "([BI)B"⟩ : MethodName)) hown (mvT hZ (hw _ (List.mem_of_getElem? (i := 23) rfl))) (mvT hZ (hw _ (List.mem_of_getElem? (i := 24) rfl))) (mvT hZ (hw _ (List.mem_of_getElem? (i := 17) rfl))) (mvT hZ (hw _ (List.mem_of_getElem? (i := 25) rfl))) (by decide) (backOf (W := 1) (rmCd2 l Z _ hw [] b3 kb_3 ((c0.toInt8.toInt32).toInt8.toInt32) ((c1.toInt8.toInt32).toInt8.toInt32) T3.heap n0 Z15 f4) hZ (hw _ (List.mem_of_getElem? (i := 25) rfl)) (hw _ (List.mem_of_getElem? (i := 17) rfl)) (by decide) (by decide)) (g := (mkF m 45 #[.val (.ref a0), .val (.ref a1), .val (.int (0 : Int32)), .val (.int (2 : Int32)), .val .null, .val (.ref b3)] [(.int (2 : Int32)), (.ref b3), (.ref a0)])) rfl (by rw [hml]; rfl) (argsL := [(.ref b3), (.int (2 : Int32))]) (rest := [(.ref a0)]) (lenOf pd_3 rfl) rfl (by show 2 * 0 + _ ≤ _; exact Nat.le_of_eq rfl) (hb hby dSf2_45) (fun _ _ => ⟨rfl, (rfl : T3.heap = T3.heap), (by decide : 1 + 0 ≤ _), (by decide : 2 + 0 ≤ _)⟩)
  dsimp only [Pt.U, Pt.locs, Pt.cells, Pt.slots] at X17 l17 y17 z17 st17 hQ17
  subst l17 y17 z17
  obtain ⟨rfl, Nq17, hs17⟩ := hQ17
  have N18 := Fr.app N5 Nq17
  refine OFin.of (S' := T17.setTop (mkF m 48 #[.val (.ref a0), .val (.ref a1), .val (.int (0 : Int32)), .val (.int (2 : Int32)), .val .null, .val (.ref b3)] [(.int (0 : Int32)), (.ref a0)])) (fun t ht => st17 t ht) ?_
  obtain ⟨T19, h19, X19, e19, W19, st19⟩ := putFN X17 hx hZ hown (hw _ (List.mem_of_getElem? (i := 26) rfl)) Via.refl hs17 f11 f10 (Or.inr ⟨(hw _ (List.mem_of_getElem? (i := 27) rfl)), rfl, hnm⟩) (hw _ (List.mem_of_getElem? (i := 1) rfl)) (ty := .byte) (v' := (.int (0 : Int32))) (by decide) rfl rfl (g := (mkF m 48 #[.val (.ref a0), .val (.ref a1), .val (.int (0 : Int32)), .val (.int (2 : Int32)), .val .null, .val (.ref b3)] [(.int (0 : Int32)), (.ref a0)])) rfl rfl (hb hby dSf2_48)
  have f20 := (f10.wr W19)
  have f21 := (f12.other W19 (Or.inr (slot_ne (Or.inr (hw _ (List.mem_of_getElem? (i := 29) rfl))) (Or.inr (hw _ (List.mem_of_getElem? (i := 27) rfl))) (by decide) (t := (.array .byte)) (t' := .byte) (by decide) (by decide))))
  have f22 := (f13.other W19 hne)
  have f23 := (f14.wr W19)
  have f24 := (f4.other W19 (Ne.symm ne8))
  have Z25 : n0 ≤ h19.size := (Nat.le_trans Z15 (Keep.of_wr W19).1)
  have K26 : Keep h0 h19 [a0] := (K16.wr W19 (Or.inl (List.mem_of_getElem? (i := 0) rfl)))
  have N27 := Fr.snoc X19 N18 g0
  have f28 : Fld Z h19 a0 "java/lang/String" "coder" "B" (.int (0 : Int32)) := (f11.same W19)
  refine OFin.of (S' := T19.setTop (mkF m 51 #[.val (.ref a0), .val (.ref a1), .val (.int (0 : Int32)), .val (.int (2 : Int32)), .val .null, .val (.ref b3)] [])) (fun t ht => st19 t ht) ?_
  refine OFin.of (S' := T19.setTop (mkF m 54 #[.val (.ref a0), .val (.ref a1), .val (.int (0 : Int32)), .val (.int (2 : Int32)), .val .null, .val (.ref b3)] [(.ref b3), (.ref a0)])) (fun t ht => ?_) ?_
  · refine XS.aloadN X19.here hx rfl (hb hby dSf2_51) rfl rfl ?_
    show Steps p.tables e below (T19.setTop (mkF m 52 _ [(.ref a0)])) _
    refine XS.aload X19.here hx rfl (hb hby dSf2_52) rfl rfl ?_
    exact ht
  obtain ⟨T29, h29, X29, e29, W29, st29⟩ := putF X19 hx hZ hown (host := "") (Or.inl (hw _ (List.mem_of_getElem? (i := 28) rfl))) Via.refl e19 f21 f20 (Or.inr ⟨(hw _ (List.mem_of_getElem? (i := 29) rfl)), rfl, hnm⟩) (hw _ (List.mem_of_getElem? (i := 1) rfl)) (ty := (.array .byte)) (by decide) rfl rfl (g := (mkF m 54 #[.val (.ref a0), .val (.ref a1), .val (.int (0 : Int32)), .val (.int (2 : Int32)), .val .null, .val (.ref b3)] [(.ref b3), (.ref a0)])) rfl rfl (hb hby dSf2_54)
  have f30 := (f20.wr W29)
  have f31 := (f22.other W29 hne)
  have f32 := (f23.wr W29)
  have f33 := (f24.other W29 (Ne.symm ne8))
  have f34 := (f28.other W29 (Or.inr (slot_ne (Or.inr (hw _ (List.mem_of_getElem? (i := 27) rfl))) (Or.inr (hw _ (List.mem_of_getElem? (i := 29) rfl))) (by decide) (t := .byte) (t' := (.array .byte)) (by decide) (by decide))))
  have Z35 : n0 ≤ h29.size := (Nat.le_trans Z25 (Keep.of_wr W29).1)
  have K36 : Keep h0 h29 [a0] := (K26.wr W29 (Or.inl (List.mem_of_getElem? (i := 0) rfl)))
  have N37 := Fr.snoc X29 N27 g0
  have f38 : Fld Z h29 a0 "java/lang/String" "value" "[B" (.ref b3) := (f21.same W29)
  refine OFin.of (S' := T29.setTop (mkF m 57 #[.val (.ref a0), .val (.ref a1), .val (.int (0 : Int32)), .val (.int (2 : Int32)), .val .null, .val (.ref b3)] [])) (fun t ht => st29 t ht) ?_
  exact OFin.retV X29 hx hlk hret (hb hby dSf2_57) (by decide) (by decide) (by rw [e29]; exact ⟨rfl, N37, K36, f34, by rw [← gq3]; exact f38, kb_3, by rw [← gq3]; exact f33⟩)
theorem dSi2_0 : decode jdk_42_method_3_code 0 = .ok (.aload_n 0, 1) := by decide +kernel
theorem dSi2_1 : decode jdk_42_method_3_code 1 = .ok (.aload_n 1, 1) := by decide +kernel
theorem dSi2_2 : decode jdk_42_method_3_code 2 = .ok (.iconst 0, 1) := by decide +kernel
theorem dSi2_3 : decode jdk_42_method_3_code 3 = .ok (.aload_n 1, 1) := by decide +kernel
theorem dSi2_4 : decode jdk_42_method_3_code 4 = .ok (.arraylength, 1) := by decide +kernel
theorem dSi2_5 : decode jdk_42_method_3_code 5 = .ok (.aconst_null, 1) := by decide +kernel
theorem dSi2_6 : decode jdk_42_method_3_code 6 = .ok (.invokespecial 27, 3) := by decide +kernel
theorem dSi2_9 : decode jdk_42_method_3_code 9 = .ok (.return_, 1) := by decide +kernel
theorem pnSi2 : plainName "java/lang/String" = true := by first | (simp [plainName, overriddenIn]; done) | decide +kernel
theorem efSi2 (m : MethodId) (a0 : Addr) (a1 : Addr) : entryFrame m #[(.ref a0), (.ref a1)] 2 = mkF m 0 #[.val (.ref a0), .val (.ref a1)] [] := by first | (simp [entryFrame, mkF, argsToLocals, Value.category]; done) | rfl
def QSi2 (Z : State) (a0 : Addr) (a1 : Addr) (kc : ClassId) (cs : Int32) (c0 : Int32) (c1 : Int32) (h0 : Heap) (n0 : Nat) (v : Option Value) (h : Heap) (L : List Loc) : Prop := v = none ∧ Fr n0 L ∧ Keep h0 h [a0] ∧ Fld Z h a0 "java/lang/String" "coder" "B" (.int (0 : Int32)) ∧ Fld Z h a0 "java/lang/String" "value" "[B" (.ref h0.size) ∧ ∃ kb, Arv Z h h0.size kb .byte (2 : Int32) [(.int ((c0.toInt8.toInt32).toInt8.toInt32)), (.int ((c1.toInt8.toInt32).toInt8.toInt32))] (.int (0 : Int32))
set_option maxRecDepth 65536 in
set_option maxHeartbeats 40000000 in
theorem rmSi2 (l : Launch) (Z : State) (a0 : Array Value) (hw : ∀ d ∈ tables_1, d.before a0 Z = true) (ws : List Jvm.Cond) (a0 : Addr) (a1 : Addr) (kc : ClassId) (cs : Int32) (c0 : Int32) (c1 : Int32) (h0 : Heap) (n0 : Nat) (Z0 : n0 ≤ h0.size) (E0 : Exa Z h0 a0 "java/lang/String") (Fc : Fld Z h0 a0 "java/lang/String" "coder" "B" (.int (0 : Int32))) (Fv : Fld Z h0 a0 "java/lang/String" "value" "[B" .null) (V1 : Arv Z h0 a1 kc .char (2 : Int32) [(.int c0), (.int c1)] (.int (0 : Int32))) (g0 : n0 ≤ a0) (hne : a1 ≠ a0) (Scs : Sta Z h0 "java/lang/String" "COMPACT_STRINGS" "Z" (.int cs)) (hcs : ¬ cs = (0 : Int32)) (hp0 : ¬ (255 : Int32) < c0) (hp1 : ¬ (255 : Int32) < c1) :
    MetFree l (⟨"java/lang/String", "<init>", "([C)V"⟩ : MethodName) (head1 (Jvm.Cond.code (⟨"java/lang/String", "<init>", "([C)V"⟩ : MethodName) jdk_42_method_3_code 2 none :: ws) ({ frames := 3, cells := 1, slots := 2, locals := 52 } : Room)) (fun a U => a = #[(.ref a0), (.ref a1)] ∧ Z.Warmed39 U.vm ∧ U.heap = h0) (fun _ _ _ _ _ => True) (fun _ U o U' => ∃ v L, o = .returned v ∧ QSi2 Z a0 a1 kc cs c0 c1 h0 n0 v U'.heap L ∧ FrameEnd U o U' L ({ frames := 3, cells := 1, slots := 2, locals := 52 } : Room).cells ({ frames := 3, cells := 1, slots := 2, locals := 52 } : Room).slots) := by
  refine MetFree.of_bodySF (plainFor_of_name pnSi2) hisR ?_
  intro p e s m args below meth c s₁ Bd hml0 hP hK
  obtain ⟨rfl, hZ, hh⟩ := hP
  have hx := Bd.exec
  have hby := Bd.bytes
  have hlk := BodyLoose.notSynchronized Bd
  have hret := Bd.returns
  have hml : c.maxLocals = 2 := hml0
  have hown : s.vm.findClass "java/lang/String" = some m.cls := findClass_of_methodNamed Bd.named
  have hnm := (name_of_methodNamed Bd.named Bd.method).1
  have X0 : Stand p l e ({ frames := 3, cells := 1, slots := 2, locals := 52 } : Room) s m #[(.ref a0), (.ref a1)] below meth c s₁ [] 0 0 := Stand.of_body Bd
  have e0 : s₁.heap = h0 := by rw [← hh, Bd.state]; rfl
  have N0 := Fr.nil n0
  show OFin p e below (KPost s (QSi2 Z a0 a1 kc cs c0 c1 h0 n0) ({ frames := 3, cells := 1, slots := 2, locals := 52 } : Room).cells ({ frames := 3, cells := 1, slots := 2, locals := 52 } : Room).slots) _
  rw [efSi2 m a0 a1]
  have K0 : Keep h0 h0 [a0] := Keep.refl _ _
  refine OFin.of (S' := s₁.setTop (mkF m 4 #[.val (.ref a0), .val (.ref a1)] [(.ref a1), (.int (0 : Int32)), (.ref a1), (.ref a0)])) (fun t ht => ?_) ?_
  · refine XS.aloadN X0.here hx rfl (hb hby dSi2_0) rfl rfl ?_
    show Steps p.tables e below (s₁.setTop (mkF m 1 _ [(.ref a0)])) _
    refine XS.aloadN X0.here hx rfl (hb hby dSi2_1) rfl rfl ?_
    show Steps p.tables e below (s₁.setTop (mkF m 2 _ [(.ref a1), (.ref a0)])) _
    refine XS.iconst X0.here hx rfl (hb hby dSi2_2) ?_
    show Steps p.tables e below (s₁.setTop (mkF m 3 _ [(.int (0 : Int32)), (.ref a1), (.ref a0)])) _
    refine XS.aloadN X0.here hx rfl (hb hby dSi2_3) rfl rfl ?_
    exact ht
  obtain ⟨cl1, Ar1, q1, S1, Ng1, H1, G1⟩ := id V1
  refine OFin.of (S' := s₁.setTop (mkF m 5 #[.val (.ref a0), .val (.ref a1)] [(.int (2 : Int32)), (.int (0 : Int32)), (.ref a1), (.ref a0)])) (fun t ht => own_alen X0 hx hZ e0 Ar1 S1 Ng1 (g := (mkF m 4 #[.val (.ref a0), .val (.ref a1)] [(.ref a1), (.int (0 : Int32)), (.ref a1), (.ref a0)])) rfl rfl (hb hby dSi2_4) ht) ?_
  refine OFin.of (S' := s₁.setTop (mkF m 6 #[.val (.ref a0), .val (.ref a1)] [.null, (.int (2 : Int32)), (.int (0 : Int32)), (.ref a1), (.ref a0)])) (fun t ht => ?_) ?_
  · refine XS.aconstNull X0.here hx rfl (hb hby dSi2_5) ?_
    exact ht
  obtain ⟨_, _, ⟨T2, L2, k2, n2⟩, -, X2, ⟨Lc2, hQ2, l2, y2, z2⟩, st2⟩ := X0.specialBack hx (y := (⟨"java/lang/String", "<init>", "([CIILjava/lang/Void;)V"⟩ : MethodName)) rfl hown (mvT hZ (hw _ (List.mem_of_getElem? (i := 7) rfl))) (mvT hZ (hw _ (List.mem_of_getElem? (i := 8) rfl))) (mvT hZ (hw _ (List.mem_of_getElem? (i := 10) rfl))) (by decide) (backOf (W := 0) (rmSf2 l Z _ hw [] a0 a1 kc cs c0 c1 h0 n0 Z0 E0 Fc Fv V1 g0 hne Scs hcs hp0 hp1) hZ (hw _ (List.mem_of_getElem? (i := 10) rfl)) (hw _ (List.mem_of_getElem? (i := 2) rfl)) (by decide) (by decide)) (g := (mkF m 6 #[.val (.ref a0), .val (.ref a1)] [.null, (.int (2 : Int32)), (.int (0 : Int32)), (.ref a1), (.ref a0)])) rfl (by rw [hml]; rfl) (Steps.refl _) (a := a0) (argsL := [(.ref a1), (.int (0 : Int32)), (.int (2 : Int32)), .null]) (rest := []) (lenOf pd_4 rfl) rfl (by show 2 * 0 + _ ≤ _; exact Nat.le_of_eq rfl) (hb hby dSi2_6) (fun _ _ => ⟨rfl, e0, (by decide : 0 + 1 ≤ _), (by decide : 0 + 2 ≤ _)⟩)
  dsimp only [Pt.U, Pt.locs, Pt.cells, Pt.slots] at X2 l2 y2 z2 st2 hQ2
  subst l2 y2 z2
  obtain ⟨rfl, Nq2, Kq2, f3, f4, ⟨kb_2, f5⟩⟩ := hQ2
  have N6 := Fr.app N0 Nq2
  obtain ⟨b2, gq2⟩ : ∃ z, z = h0.size := ⟨_, rfl⟩
  rw [← gq2] at f4 f5
  have g7 : n0 ≤ b2 := (Nat.le_trans Z0 (Nat.le_of_eq gq2.symm))
  have sz8 : h0.size ≤ b2 := (Nat.le_trans K0.1 (Nat.le_of_eq gq2.symm))
  have ne9 : a0 ≠ b2 := (Nat.ne_of_lt (Nat.lt_of_lt_of_le E0.lt (Nat.le_of_eq gq2.symm)))
  have ne10 : a1 ≠ b2 := (Nat.ne_of_lt (Nat.lt_of_lt_of_le V1.lt (Nat.le_of_eq gq2.symm)))
  have f11 := (E0.keep Kq2)
  have f12 := (V1.keep Kq2 (ninS hne nin0))
  have f13 := (own_staKeep Scs Kq2 (own_snS E0 own_sn0))
  have Z14 : n0 ≤ T2.heap.size := (Nat.le_trans Z0 Kq2.1)
  have K15 : Keep h0 T2.heap [a0] := (K0.trans Kq2 (allS (Or.inl (List.mem_of_getElem? (i := 0) rfl)) all0))
  refine OFin.to (S' := T2.setTop (mkF m 9 #[.val (.ref a0), .val (.ref a1)] [])) st2 ?_
  exact OFin.retV X2 hx hlk hret (hb hby dSi2_9) (by decide) (by decide) (by exact ⟨rfl, N6, K15, f3, by rw [← gq2]; exact f4, kb_2, by rw [← gq2]; exact f5⟩)
theorem dCo21_0 : decode prog_27_method_9_code 0 = .ok (.aload_n 0, 1) := by decide +kernel
theorem dCo21_1 : decode prog_27_method_9_code 1 = .ok (.getfield 7, 3) := by decide +kernel
theorem dCo21_4 : decode prog_27_method_9_code 4 = .ok (.aload_n 1, 1) := by decide +kernel
theorem dCo21_5 : decode prog_27_method_9_code 5 = .ok (.getfield 7, 3) := by decide +kernel
theorem dCo21_8 : decode prog_27_method_9_code 8 = .ok (.invokevirtual 93, 3) := by decide +kernel
theorem dCo21_11 : decode prog_27_method_9_code 11 = .ok (.ifCond .eq 31, 3) := by decide +kernel
theorem dCo21_14 : decode prog_27_method_9_code 14 = .ok (.aload_n 0, 1) := by decide +kernel
theorem dCo21_15 : decode prog_27_method_9_code 15 = .ok (.getfield 13, 3) := by decide +kernel
theorem dCo21_18 : decode prog_27_method_9_code 18 = .ok (.aload_n 1, 1) := by decide +kernel
theorem dCo21_19 : decode prog_27_method_9_code 19 = .ok (.getfield 13, 3) := by decide +kernel
theorem dCo21_22 : decode prog_27_method_9_code 22 = .ok (.lcmp, 1) := by decide +kernel
theorem dCo21_23 : decode prog_27_method_9_code 23 = .ok (.ifCond .gt 19, 3) := by decide +kernel
theorem dCo21_26 : decode prog_27_method_9_code 26 = .ok (.aload_n 1, 1) := by decide +kernel
theorem dCo21_27 : decode prog_27_method_9_code 27 = .ok (.getfield 17, 3) := by decide +kernel
theorem dCo21_30 : decode prog_27_method_9_code 30 = .ok (.aload_n 0, 1) := by decide +kernel
theorem dCo21_31 : decode prog_27_method_9_code 31 = .ok (.getfield 17, 3) := by decide +kernel
theorem dCo21_34 : decode prog_27_method_9_code 34 = .ok (.lcmp, 1) := by decide +kernel
theorem dCo21_35 : decode prog_27_method_9_code 35 = .ok (.ifCond .gt 7, 3) := by decide +kernel
theorem dCo21_38 : decode prog_27_method_9_code 38 = .ok (.iconst 1, 1) := by decide +kernel
theorem dCo21_39 : decode prog_27_method_9_code 39 = .ok (.goto 4, 3) := by decide +kernel
theorem dCo21_42 : decode prog_27_method_9_code 42 = .ok (.iconst 0, 1) := by decide +kernel
theorem dCo21_43 : decode prog_27_method_9_code 43 = .ok (.ireturn, 1) := by decide +kernel
theorem pnCo21 : plainName "com/example/greylag/greylag/model/Bundle" = true := by first | (simp [plainName, overriddenIn]; done) | decide +kernel
theorem efCo21 (m : MethodId) (a0 : Addr) (a1 : Addr) : entryFrame m #[(.ref a0), (.ref a1)] 2 = mkF m 0 #[.val (.ref a0), .val (.ref a1)] [] := by first | (simp [entryFrame, mkF, argsToLocals, Value.category]; done) | rfl
def QCo21 (Z : State) (a0 : Addr) (a1 : Addr) (s1 : Addr) (s2 : Addr) (l1 : Int64) (u1 : Int64) (l2 : Int64) (u2 : Int64) (E : Int32) (h0 : Heap) (n0 : Nat) (v : Option Value) (h : Heap) (L : List Loc) : Prop := v = some (.int (own_cont E l1 u1 l2 u2)) ∧ Fr n0 L ∧ h = h0
set_option maxRecDepth 65536 in
set_option maxHeartbeats 40000000 in
theorem rmCo21 (l : Launch) (Z : State) (a0 : Array Value) (hw : ∀ d ∈ tables_1, d.before a0 Z = true) (ws : List Jvm.Cond) (a0 : Addr) (a1 : Addr) (s1 : Addr) (s2 : Addr) (l1 : Int64) (u1 : Int64) (l2 : Int64) (u2 : Int64) (E : Int32) (h0 : Heap) (n0 : Nat) (Z0 : n0 ≤ h0.size) (N0a : Fld Z h0 a0 "com/example/greylag/greylag/model/Bundle" "namespace" "Ljava/lang/String;" (.ref s1)) (N1a : Fld Z h0 a1 "com/example/greylag/greylag/model/Bundle" "namespace" "Ljava/lang/String;" (.ref s2)) (L0a : Fld Z h0 a0 "com/example/greylag/greylag/model/Bundle" "lower" "J" (.long l1)) (L1a : Fld Z h0 a1 "com/example/greylag/greylag/model/Bundle" "lower" "J" (.long l2)) (U0a : Fld Z h0 a0 "com/example/greylag/greylag/model/Bundle" "upper" "J" (.long u1)) (U1a : Fld Z h0 a1 "com/example/greylag/greylag/model/Bundle" "upper" "J" (.long u2)) (Es : Exa Z h0 s1 "java/lang/String") (hM : MetFree l (⟨"java/lang/String", "equals", "(Ljava/lang/Object;)Z"⟩ : MethodName) (head1 [Jvm.Cond.code (⟨"java/lang/String", "equals", "(Ljava/lang/Object;)Z"⟩ : MethodName) jdk_42_method_66_code 3 (some .boolean)] ({ frames := 1, cells := 0, slots := 0, locals := 14 } : Room)) (fun a U => a = #[(.ref s1), (.ref s2)] ∧ Z.Warmed39 U.vm ∧ U.heap = h0) (fun _ _ _ _ _ => True) (fun _ U o U' => ∃ v L, o = .returned v ∧ OwnMet E h0 n0 v U'.heap L ∧ FrameEnd U o U' L ({ frames := 1, cells := 0, slots := 0, locals := 14 } : Room).cells ({ frames := 1, cells := 0, slots := 0, locals := 14 } : Room).slots)) :
    MetFree l (⟨"com/example/greylag/greylag/model/Bundle", "contains", "(Lcom/example/greylag/greylag/model/Bundle;)Z"⟩ : MethodName) (head1 (Jvm.Cond.code (⟨"com/example/greylag/greylag/model/Bundle", "contains", "(Lcom/example/greylag/greylag/model/Bundle;)Z"⟩ : MethodName) prog_27_method_9_code 2 (some .boolean) :: ws) ({ frames := 2, cells := 0, slots := 0, locals := 28 } : Room)) (fun a U => a = #[(.ref a0), (.ref a1)] ∧ Z.Warmed39 U.vm ∧ U.heap = h0) (fun _ _ _ _ _ => True) (fun _ U o U' => ∃ v L, o = .returned v ∧ QCo21 Z a0 a1 s1 s2 l1 u1 l2 u2 E h0 n0 v U'.heap L ∧ FrameEnd U o U' L ({ frames := 2, cells := 0, slots := 0, locals := 28 } : Room).cells ({ frames := 2, cells := 0, slots := 0, locals := 28 } : Room).slots) := by
  refine MetFree.of_bodySF (plainFor_of_name pnCo21) hisR ?_
  intro p e s m args below meth c s₁ Bd hml0 hP hK
  obtain ⟨rfl, hZ, hh⟩ := hP
  have hx := Bd.exec
  have hby := Bd.bytes
  have hlk := BodyLoose.notSynchronized Bd
  have hret := Bd.returns
  have hml : c.maxLocals = 2 := hml0
  have hown : s.vm.findClass "com/example/greylag/greylag/model/Bundle" = some m.cls := findClass_of_methodNamed Bd.named
  have hnm := (name_of_methodNamed Bd.named Bd.method).1
  have X0 : Stand p l e ({ frames := 2, cells := 0, slots := 0, locals := 28 } : Room) s m #[(.ref a0), (.ref a1)] below meth c s₁ [] 0 0 := Stand.of_body Bd
  have e0 : s₁.heap = h0 := by rw [← hh, Bd.state]; rfl
  have N0 := Fr.nil n0
  show OFin p e below (KPost s (QCo21 Z a0 a1 s1 s2 l1 u1 l2 u2 E h0 n0) ({ frames := 2, cells := 0, slots := 0, locals := 28 } : Room).cells ({ frames := 2, cells := 0, slots := 0, locals := 28 } : Room).slots) _
  rw [efCo21 m a0 a1]
  refine OFin.of (S' := s₁.setTop (mkF m 1 #[.val (.ref a0), .val (.ref a1)] [(.ref a0)])) (fun t ht => ?_) ?_
  · refine XS.aloadN X0.here hx rfl (hb hby dCo21_0) rfl rfl ?_
    exact ht
  obtain ⟨T1, X1, e1, st1⟩ := getF X0 hx hZ hown (host := "") (Or.inl (hw _ (List.mem_of_getElem? (i := 46) rfl))) Via.refl e0 N0a (g := (mkF m 1 #[.val (.ref a0), .val (.ref a1)] [(.ref a0)])) rfl rfl (hb hby dCo21_1)
  refine OFin.of (S' := T1.setTop (mkF m 4 #[.val (.ref a0), .val (.ref a1)] [(.ref s1)])) (fun t ht => st1 t ht) ?_
  refine OFin.of (S' := T1.setTop (mkF m 5 #[.val (.ref a0), .val (.ref a1)] [(.ref a1), (.ref s1)])) (fun t ht => ?_) ?_
  · refine XS.aloadN X1.here hx rfl (hb hby dCo21_4) rfl rfl ?_
    exact ht
  obtain ⟨T2, X2, e2, st2⟩ := getF X1 hx hZ hown (host := "") (Or.inl (hw _ (List.mem_of_getElem? (i := 46) rfl))) Via.refl e1 N1a (g := (mkF m 5 #[.val (.ref a0), .val (.ref a1)] [(.ref a1), (.ref s1)])) rfl rfl (hb hby dCo21_5)
  refine OFin.of (S' := T2.setTop (mkF m 8 #[.val (.ref a0), .val (.ref a1)] [(.ref s2), (.ref s1)])) (fun t ht => st2 t ht) ?_
  obtain ⟨cq4, kq4, q4a, q4b, q4c⟩ := isOf hZ e2 Es
  obtain ⟨_, _, ⟨T3, L3, k3, n3⟩, -, X3, ⟨Lc3, hQ3, l3, y3, z3⟩, st3⟩ := X2.virtualBack hx (y := (⟨"java/lang/String", "equals", "(Ljava/lang/Object;)Z"⟩ : MethodName)) (z := (⟨"java/lang/String", "equals", "(Ljava/lang/Object;)Z"⟩ : MethodName)) hown (mvT hZ (hw _ (List.mem_of_getElem? (i := 57) rfl))) (mvT hZ (hw _ (List.mem_of_getElem? (i := 58) rfl))) (notFace_of_selects (args := #[]) (mvT hZ (hw _ (List.mem_of_getElem? (i := 60) rfl)))) (mvT hZ (hw _ (List.mem_of_getElem? (i := 60) rfl))) (mvT hZ (hw _ (List.mem_of_getElem? (i := 59) rfl))) (by decide) (backOf (W := 0) hM hZ (hw _ (List.mem_of_getElem? (i := 61) rfl)) (hw _ (List.mem_of_getElem? (i := 2) rfl)) (by decide) (by decide)) q4a q4c (g := (mkF m 8 #[.val (.ref a0), .val (.ref a1)] [(.ref s2), (.ref s1)])) rfl (by rw [hml]; rfl) (Steps.refl _) (argsL := [(.ref s2)]) (rest := []) (lenOf pd_5 rfl) rfl (by show 2 * 0 + _ ≤ _; exact Nat.le_of_eq rfl) (hb hby dCo21_8) (fun _ _ => ⟨rfl, e2, (by decide : 0 + 0 ≤ _), (by decide : 0 + 0 ≤ _)⟩)
  dsimp only [Pt.U, Pt.locs, Pt.cells, Pt.slots] at X3 l3 y3 z3 st3 hQ3
  subst l3 y3 z3
  obtain ⟨rfl, Nq3, hs3⟩ := hQ3
  have N5 := Fr.app N0 Nq3
  refine OFin.to (S' := T3.setTop (mkF m 11 #[.val (.ref a0), .val (.ref a1)] [(.int E)])) st3 ?_
  by_cases hc6 : E = (0 : Int32)
  · refine OFin.of (S' := T3.setTop (mkF m 43 #[.val (.ref a0), .val (.ref a1)] [(.int (0 : Int32))])) (fun t ht => ?_) ?_
    · refine XS.ifYes X3.here hx rfl (pc0 := 11) (pc' := 42) rfl (hb hby dCo21_11) rfl ((if0 _ _).trans (teq (hc6 : E = (0 : Int32))).1) (by decide) (by decide) ?_
      show Steps p.tables e below (T3.setTop (mkF m 42 _ [])) _
      refine XS.iconst X3.here hx rfl (hb hby dCo21_42) ?_
      exact ht
    exact OFin.retB X3 hx hlk (t := .boolean) (by simp) hret (hb hby dCo21_43) (by decide) (by decide) (by rw [hs3]; exact ⟨(by show some (Value.int (0 : Int32)) = _; simp [own_cont, hc6]), N5, rfl⟩)
  · refine OFin.of (S' := T3.setTop (mkF m 15 #[.val (.ref a0), .val (.ref a1)] [(.ref a0)])) (fun t ht => ?_) ?_
    · refine XS.ifNo X3.here hx rfl (hb hby dCo21_11) rfl ((if0 _ _).trans (feq (hc6 : ¬ (E = (0 : Int32)))).1) ?_
      show Steps p.tables e below (T3.setTop (mkF m 14 _ [])) _
      refine XS.aloadN X3.here hx rfl (hb hby dCo21_14) rfl rfl ?_
      exact ht
    obtain ⟨T7, X7, e7, st7⟩ := getF X3 hx hZ hown (host := "") (Or.inl (hw _ (List.mem_of_getElem? (i := 48) rfl))) Via.refl hs3 L0a (g := (mkF m 15 #[.val (.ref a0), .val (.ref a1)] [(.ref a0)])) rfl rfl (hb hby dCo21_15)
    refine OFin.of (S' := T7.setTop (mkF m 18 #[.val (.ref a0), .val (.ref a1)] [(.long l1)])) (fun t ht => st7 t ht) ?_
    refine OFin.of (S' := T7.setTop (mkF m 19 #[.val (.ref a0), .val (.ref a1)] [(.ref a1), (.long l1)])) (fun t ht => ?_) ?_
    · refine XS.aloadN X7.here hx rfl (hb hby dCo21_18) rfl rfl ?_
      exact ht
    obtain ⟨T8, X8, e8, st8⟩ := getF X7 hx hZ hown (host := "") (Or.inl (hw _ (List.mem_of_getElem? (i := 48) rfl))) Via.refl e7 L1a (g := (mkF m 19 #[.val (.ref a0), .val (.ref a1)] [(.ref a1), (.long l1)])) rfl rfl (hb hby dCo21_19)
    refine OFin.of (S' := T8.setTop (mkF m 22 #[.val (.ref a0), .val (.ref a1)] [(.long l2), (.long l1)])) (fun t ht => st8 t ht) ?_
    refine OFin.of (S' := T8.setTop (mkF m 23 #[.val (.ref a0), .val (.ref a1)] [(.int (lcmpW l1 l2))])) (fun t ht => ?_) ?_
    · refine XS.lcmp X8.here hx rfl (hb hby dCo21_22) rfl ?_
      exact ht
    by_cases hc9 : (0 : Int32) < (lcmpW l1 l2)
    · refine OFin.of (S' := T8.setTop (mkF m 43 #[.val (.ref a0), .val (.ref a1)] [(.int (0 : Int32))])) (fun t ht => ?_) ?_
      · refine XS.ifYes X8.here hx rfl (pc0 := 23) (pc' := 42) rfl (hb hby dCo21_23) rfl ((if0 _ _).trans (tlt (hc9 : (0 : Int32) < (lcmpW l1 l2))).2.2.1) (by decide) (by decide) ?_
        show Steps p.tables e below (T8.setTop (mkF m 42 _ [])) _
        refine XS.iconst X8.here hx rfl (hb hby dCo21_42) ?_
        exact ht
      exact OFin.retB X8 hx hlk (t := .boolean) (by simp) hret (hb hby dCo21_43) (by decide) (by decide) (by rw [e8]; exact ⟨(by show some (Value.int (0 : Int32)) = _; simp [own_cont, hc6, hc9]), N5, rfl⟩)
    · refine OFin.of (S' := T8.setTop (mkF m 27 #[.val (.ref a0), .val (.ref a1)] [(.ref a1)])) (fun t ht => ?_) ?_
      · refine XS.ifNo X8.here hx rfl (hb hby dCo21_23) rfl ((if0 _ _).trans (flt (hc9 : ¬ ((0 : Int32) < (lcmpW l1 l2)))).2.2.1) ?_
        show Steps p.tables e below (T8.setTop (mkF m 26 _ [])) _
        refine XS.aloadN X8.here hx rfl (hb hby dCo21_26) rfl rfl ?_
        exact ht
      obtain ⟨T10, X10, e10, st10⟩ := getF X8 hx hZ hown (host := "") (Or.inl (hw _ (List.mem_of_getElem? (i := 50) rfl))) Via.refl e8 U1a (g := (mkF m 27 #[.val (.ref a0), .val (.ref a1)] [(.ref a1)])) rfl rfl (hb hby dCo21_27)
      refine OFin.of (S' := T10.setTop (mkF m 30 #[.val (.ref a0), .val (.ref a1)] [(.long u2)])) (fun t ht => st10 t ht) ?_
      refine OFin.of (S' := T10.setTop (mkF m 31 #[.val (.ref a0), .val (.ref a1)] [(.ref a0), (.long u2)])) (fun t ht => ?_) ?_
      · refine XS.aloadN X10.here hx rfl (hb hby dCo21_30) rfl rfl ?_
        exact ht
      obtain ⟨T11, X11, e11, st11⟩ := getF X10 hx hZ hown (host := "") (Or.inl (hw _ (List.mem_of_getElem? (i := 50) rfl))) Via.refl e10 U0a (g := (mkF m 31 #[.val (.ref a0), .val (.ref a1)] [(.ref a0), (.long u2)])) rfl rfl (hb hby dCo21_31)
      refine OFin.of (S' := T11.setTop (mkF m 34 #[.val (.ref a0), .val (.ref a1)] [(.long u1), (.long u2)])) (fun t ht => st11 t ht) ?_
      refine OFin.of (S' := T11.setTop (mkF m 35 #[.val (.ref a0), .val (.ref a1)] [(.int (lcmpW u2 u1))])) (fun t ht => ?_) ?_
      · refine XS.lcmp X11.here hx rfl (hb hby dCo21_34) rfl ?_
        exact ht
      by_cases hc12 : (0 : Int32) < (lcmpW u2 u1)
      · refine OFin.of (S' := T11.setTop (mkF m 43 #[.val (.ref a0), .val (.ref a1)] [(.int (0 : Int32))])) (fun t ht => ?_) ?_
        · refine XS.ifYes X11.here hx rfl (pc0 := 35) (pc' := 42) rfl (hb hby dCo21_35) rfl ((if0 _ _).trans (tlt (hc12 : (0 : Int32) < (lcmpW u2 u1))).2.2.1) (by decide) (by decide) ?_
          show Steps p.tables e below (T11.setTop (mkF m 42 _ [])) _
          refine XS.iconst X11.here hx rfl (hb hby dCo21_42) ?_
          exact ht
        exact OFin.retB X11 hx hlk (t := .boolean) (by simp) hret (hb hby dCo21_43) (by decide) (by decide) (by rw [e11]; exact ⟨(by show some (Value.int (0 : Int32)) = _; simp [own_cont, hc6, hc9, hc12]), N5, rfl⟩)
      · refine OFin.of (S' := T11.setTop (mkF m 43 #[.val (.ref a0), .val (.ref a1)] [(.int (1 : Int32))])) (fun t ht => ?_) ?_
        · refine XS.ifNo X11.here hx rfl (hb hby dCo21_35) rfl ((if0 _ _).trans (flt (hc12 : ¬ ((0 : Int32) < (lcmpW u2 u1)))).2.2.1) ?_
          show Steps p.tables e below (T11.setTop (mkF m 38 _ [])) _
          refine XS.iconst X11.here hx rfl (hb hby dCo21_38) ?_
          show Steps p.tables e below (T11.setTop (mkF m 39 _ [(.int (1 : Int32))])) _
          refine XS.goto X11.here hx rfl (pc0 := 39) (pc' := 43) rfl (hb hby dCo21_39) (by decide) (by decide) ?_
          exact ht
        exact OFin.retB X11 hx hlk (t := .boolean) (by simp) hret (hb hby dCo21_43) (by decide) (by decide) (by rw [e11]; exact ⟨(by show some (Value.int (1 : Int32)) = _; simp [own_cont, hc6, hc9, hc12]), N5, rfl⟩)
theorem dCo12_0 : decode prog_27_method_9_code 0 = .ok (.aload_n 0, 1) := by decide +kernel
theorem dCo12_1 : decode prog_27_method_9_code 1 = .ok (.getfield 7, 3) := by decide +kernel
theorem dCo12_4 : decode prog_27_method_9_code 4 = .ok (.aload_n 1, 1) := by decide +kernel
theorem dCo12_5 : decode prog_27_method_9_code 5 = .ok (.getfield 7, 3) := by decide +kernel
theorem dCo12_8 : decode prog_27_method_9_code 8 = .ok (.invokevirtual 93, 3) := by decide +kernel
theorem dCo12_11 : decode prog_27_method_9_code 11 = .ok (.ifCond .eq 31, 3) := by decide +kernel
theorem dCo12_14 : decode prog_27_method_9_code 14 = .ok (.aload_n 0, 1) := by decide +kernel
theorem dCo12_15 : decode prog_27_method_9_code 15 = .ok (.getfield 13, 3) := by decide +kernel
theorem dCo12_18 : decode prog_27_method_9_code 18 = .ok (.aload_n 1, 1) := by decide +kernel
theorem dCo12_19 : decode prog_27_method_9_code 19 = .ok (.getfield 13, 3) := by decide +kernel
theorem dCo12_22 : decode prog_27_method_9_code 22 = .ok (.lcmp, 1) := by decide +kernel
theorem dCo12_23 : decode prog_27_method_9_code 23 = .ok (.ifCond .gt 19, 3) := by decide +kernel
theorem dCo12_26 : decode prog_27_method_9_code 26 = .ok (.aload_n 1, 1) := by decide +kernel
theorem dCo12_27 : decode prog_27_method_9_code 27 = .ok (.getfield 17, 3) := by decide +kernel
theorem dCo12_30 : decode prog_27_method_9_code 30 = .ok (.aload_n 0, 1) := by decide +kernel
theorem dCo12_31 : decode prog_27_method_9_code 31 = .ok (.getfield 17, 3) := by decide +kernel
theorem dCo12_34 : decode prog_27_method_9_code 34 = .ok (.lcmp, 1) := by decide +kernel
theorem dCo12_35 : decode prog_27_method_9_code 35 = .ok (.ifCond .gt 7, 3) := by decide +kernel
theorem dCo12_38 : decode prog_27_method_9_code 38 = .ok (.iconst 1, 1) := by decide +kernel
theorem dCo12_39 : decode prog_27_method_9_code 39 = .ok (.goto 4, 3) := by decide +kernel
theorem dCo12_42 : decode prog_27_method_9_code 42 = .ok (.iconst 0, 1) := by decide +kernel
theorem dCo12_43 : decode prog_27_method_9_code 43 = .ok (.ireturn, 1) := by decide +kernel
theorem pnCo12 : plainName "com/example/greylag/greylag/model/Bundle" = true := by first | (simp [plainName, overriddenIn]; done) | decide +kernel
theorem efCo12 (m : MethodId) (a0 : Addr) (a1 : Addr) : entryFrame m #[(.ref a0), (.ref a1)] 2 = mkF m 0 #[.val (.ref a0), .val (.ref a1)] [] := by first | (simp [entryFrame, mkF, argsToLocals, Value.category]; done) | rfl
def QCo12 (Z : State) (a0 : Addr) (a1 : Addr) (s1 : Addr) (s2 : Addr) (l1 : Int64) (u1 : Int64) (l2 : Int64) (u2 : Int64) (E : Int32) (h0 : Heap) (n0 : Nat) (v : Option Value) (h : Heap) (L : List Loc) : Prop := v = some (.int (own_cont E l1 u1 l2 u2)) ∧ Fr n0 L ∧ h = h0
set_option maxRecDepth 65536 in
set_option maxHeartbeats 40000000 in
theorem rmCo12 (l : Launch) (Z : State) (a0 : Array Value) (hw : ∀ d ∈ tables_1, d.before a0 Z = true) (ws : List Jvm.Cond) (a0 : Addr) (a1 : Addr) (s1 : Addr) (s2 : Addr) (l1 : Int64) (u1 : Int64) (l2 : Int64) (u2 : Int64) (E : Int32) (h0 : Heap) (n0 : Nat) (Z0 : n0 ≤ h0.size) (N0a : Fld Z h0 a0 "com/example/greylag/greylag/model/Bundle" "namespace" "Ljava/lang/String;" (.ref s1)) (N1a : Fld Z h0 a1 "com/example/greylag/greylag/model/Bundle" "namespace" "Ljava/lang/String;" (.ref s2)) (L0a : Fld Z h0 a0 "com/example/greylag/greylag/model/Bundle" "lower" "J" (.long l1)) (L1a : Fld Z h0 a1 "com/example/greylag/greylag/model/Bundle" "lower" "J" (.long l2)) (U0a : Fld Z h0 a0 "com/example/greylag/greylag/model/Bundle" "upper" "J" (.long u1)) (U1a : Fld Z h0 a1 "com/example/greylag/greylag/model/Bundle" "upper" "J" (.long u2)) (Es : Exa Z h0 s1 "java/lang/String") (hM : MetFree l (⟨"java/lang/String", "equals", "(Ljava/lang/Object;)Z"⟩ : MethodName) (head1 [Jvm.Cond.code (⟨"java/lang/String", "equals", "(Ljava/lang/Object;)Z"⟩ : MethodName) jdk_42_method_66_code 3 (some .boolean)] ({ frames := 1, cells := 0, slots := 0, locals := 14 } : Room)) (fun a U => a = #[(.ref s1), (.ref s2)] ∧ Z.Warmed39 U.vm ∧ U.heap = h0) (fun _ _ _ _ _ => True) (fun _ U o U' => ∃ v L, o = .returned v ∧ OwnMet E h0 n0 v U'.heap L ∧ FrameEnd U o U' L ({ frames := 1, cells := 0, slots := 0, locals := 14 } : Room).cells ({ frames := 1, cells := 0, slots := 0, locals := 14 } : Room).slots)) :
    MetFree l (⟨"com/example/greylag/greylag/model/Bundle", "contains", "(Lcom/example/greylag/greylag/model/Bundle;)Z"⟩ : MethodName) (head1 (Jvm.Cond.code (⟨"com/example/greylag/greylag/model/Bundle", "contains", "(Lcom/example/greylag/greylag/model/Bundle;)Z"⟩ : MethodName) prog_27_method_9_code 2 (some .boolean) :: ws) ({ frames := 2, cells := 0, slots := 0, locals := 28 } : Room)) (fun a U => a = #[(.ref a0), (.ref a1)] ∧ Z.Warmed39 U.vm ∧ U.heap = h0) (fun _ _ _ _ _ => True) (fun _ U o U' => ∃ v L, o = .returned v ∧ QCo12 Z a0 a1 s1 s2 l1 u1 l2 u2 E h0 n0 v U'.heap L ∧ FrameEnd U o U' L ({ frames := 2, cells := 0, slots := 0, locals := 28 } : Room).cells ({ frames := 2, cells := 0, slots := 0, locals := 28 } : Room).slots) := by
  refine MetFree.of_bodySF (plainFor_of_name pnCo12) hisR ?_
  intro p e s m args below meth c s₁ Bd hml0 hP hK
  obtain ⟨rfl, hZ, hh⟩ := hP
  have hx := Bd.exec
  have hby := Bd.bytes
  have hlk := BodyLoose.notSynchronized Bd
  have hret := Bd.returns
  have hml : c.maxLocals = 2 := hml0
  have hown : s.vm.findClass "com/example/greylag/greylag/model/Bundle" = some m.cls := findClass_of_methodNamed Bd.named
  have hnm := (name_of_methodNamed Bd.named Bd.method).1
  have X0 : Stand p l e ({ frames := 2, cells := 0, slots := 0, locals := 28 } : Room) s m #[(.ref a0), (.ref a1)] below meth c s₁ [] 0 0 := Stand.of_body Bd
  have e0 : s₁.heap = h0 := by rw [← hh, Bd.state]; rfl
  have N0 := Fr.nil n0
  show OFin p e below (KPost s (QCo12 Z a0 a1 s1 s2 l1 u1 l2 u2 E h0 n0) ({ frames := 2, cells := 0, slots := 0, locals := 28 } : Room).cells ({ frames := 2, cells := 0, slots := 0, locals := 28 } : Room).slots) _
  rw [efCo12 m a0 a1]
  refine OFin.of (S' := s₁.setTop (mkF m 1 #[.val (.ref a0), .val (.ref a1)] [(.ref a0)])) (fun t ht => ?_) ?_
  · refine XS.aloadN X0.here hx rfl (hb hby dCo12_0) rfl rfl ?_
    exact ht
  obtain ⟨T1, X1, e1, st1⟩ := getF X0 hx hZ hown (host := "") (Or.inl (hw _ (List.mem_of_getElem? (i := 46) rfl))) Via.refl e0 N0a (g := (mkF m 1 #[.val (.ref a0), .val (.ref a1)] [(.ref a0)])) rfl rfl (hb hby dCo12_1)
  refine OFin.of (S' := T1.setTop (mkF m 4 #[.val (.ref a0), .val (.ref a1)] [(.ref s1)])) (fun t ht => st1 t ht) ?_
  refine OFin.of (S' := T1.setTop (mkF m 5 #[.val (.ref a0), .val (.ref a1)] [(.ref a1), (.ref s1)])) (fun t ht => ?_) ?_
  · refine XS.aloadN X1.here hx rfl (hb hby dCo12_4) rfl rfl ?_
    exact ht
  obtain ⟨T2, X2, e2, st2⟩ := getF X1 hx hZ hown (host := "") (Or.inl (hw _ (List.mem_of_getElem? (i := 46) rfl))) Via.refl e1 N1a (g := (mkF m 5 #[.val (.ref a0), .val (.ref a1)] [(.ref a1), (.ref s1)])) rfl rfl (hb hby dCo12_5)
  refine OFin.of (S' := T2.setTop (mkF m 8 #[.val (.ref a0), .val (.ref a1)] [(.ref s2), (.ref s1)])) (fun t ht => st2 t ht) ?_
  obtain ⟨cq4, kq4, q4a, q4b, q4c⟩ := isOf hZ e2 Es
  obtain ⟨_, _, ⟨T3, L3, k3, n3⟩, -, X3, ⟨Lc3, hQ3, l3, y3, z3⟩, st3⟩ := X2.virtualBack hx (y := (⟨"java/lang/String", "equals", "(Ljava/lang/Object;)Z"⟩ : MethodName)) (z := (⟨"java/lang/String", "equals", "(Ljava/lang/Object;)Z"⟩ : MethodName)) hown (mvT hZ (hw _ (List.mem_of_getElem? (i := 57) rfl))) (mvT hZ (hw _ (List.mem_of_getElem? (i := 58) rfl))) (notFace_of_selects (args := #[]) (mvT hZ (hw _ (List.mem_of_getElem? (i := 60) rfl)))) (mvT hZ (hw _ (List.mem_of_getElem? (i := 60) rfl))) (mvT hZ (hw _ (List.mem_of_getElem? (i := 59) rfl))) (by decide) (backOf (W := 0) hM hZ (hw _ (List.mem_of_getElem? (i := 61) rfl)) (hw _ (List.mem_of_getElem? (i := 2) rfl)) (by decide) (by decide)) q4a q4c (g := (mkF m 8 #[.val (.ref a0), .val (.ref a1)] [(.ref s2), (.ref s1)])) rfl (by rw [hml]; rfl) (Steps.refl _) (argsL := [(.ref s2)]) (rest := []) (lenOf pd_5 rfl) rfl (by show 2 * 0 + _ ≤ _; exact Nat.le_of_eq rfl) (hb hby dCo12_8) (fun _ _ => ⟨rfl, e2, (by decide : 0 + 0 ≤ _), (by decide : 0 + 0 ≤ _)⟩)
  dsimp only [Pt.U, Pt.locs, Pt.cells, Pt.slots] at X3 l3 y3 z3 st3 hQ3
  subst l3 y3 z3
  obtain ⟨rfl, Nq3, hs3⟩ := hQ3
  have N5 := Fr.app N0 Nq3
  refine OFin.to (S' := T3.setTop (mkF m 11 #[.val (.ref a0), .val (.ref a1)] [(.int E)])) st3 ?_
  by_cases hc6 : E = (0 : Int32)
  · refine OFin.of (S' := T3.setTop (mkF m 43 #[.val (.ref a0), .val (.ref a1)] [(.int (0 : Int32))])) (fun t ht => ?_) ?_
    · refine XS.ifYes X3.here hx rfl (pc0 := 11) (pc' := 42) rfl (hb hby dCo12_11) rfl ((if0 _ _).trans (teq (hc6 : E = (0 : Int32))).1) (by decide) (by decide) ?_
      show Steps p.tables e below (T3.setTop (mkF m 42 _ [])) _
      refine XS.iconst X3.here hx rfl (hb hby dCo12_42) ?_
      exact ht
    exact OFin.retB X3 hx hlk (t := .boolean) (by simp) hret (hb hby dCo12_43) (by decide) (by decide) (by rw [hs3]; exact ⟨(by show some (Value.int (0 : Int32)) = _; simp [own_cont, hc6]), N5, rfl⟩)
  · refine OFin.of (S' := T3.setTop (mkF m 15 #[.val (.ref a0), .val (.ref a1)] [(.ref a0)])) (fun t ht => ?_) ?_
    · refine XS.ifNo X3.here hx rfl (hb hby dCo12_11) rfl ((if0 _ _).trans (feq (hc6 : ¬ (E = (0 : Int32)))).1) ?_
      show Steps p.tables e below (T3.setTop (mkF m 14 _ [])) _
      refine XS.aloadN X3.here hx rfl (hb hby dCo12_14) rfl rfl ?_
      exact ht
    obtain ⟨T7, X7, e7, st7⟩ := getF X3 hx hZ hown (host := "") (Or.inl (hw _ (List.mem_of_getElem? (i := 48) rfl))) Via.refl hs3 L0a (g := (mkF m 15 #[.val (.ref a0), .val (.ref a1)] [(.ref a0)])) rfl rfl (hb hby dCo12_15)
    refine OFin.of (S' := T7.setTop (mkF m 18 #[.val (.ref a0), .val (.ref a1)] [(.long l1)])) (fun t ht => st7 t ht) ?_
    refine OFin.of (S' := T7.setTop (mkF m 19 #[.val (.ref a0), .val (.ref a1)] [(.ref a1), (.long l1)])) (fun t ht => ?_) ?_
    · refine XS.aloadN X7.here hx rfl (hb hby dCo12_18) rfl rfl ?_
      exact ht
    obtain ⟨T8, X8, e8, st8⟩ := getF X7 hx hZ hown (host := "") (Or.inl (hw _ (List.mem_of_getElem? (i := 48) rfl))) Via.refl e7 L1a (g := (mkF m 19 #[.val (.ref a0), .val (.ref a1)] [(.ref a1), (.long l1)])) rfl rfl (hb hby dCo12_19)
    refine OFin.of (S' := T8.setTop (mkF m 22 #[.val (.ref a0), .val (.ref a1)] [(.long l2), (.long l1)])) (fun t ht => st8 t ht) ?_
    refine OFin.of (S' := T8.setTop (mkF m 23 #[.val (.ref a0), .val (.ref a1)] [(.int (lcmpW l1 l2))])) (fun t ht => ?_) ?_
    · refine XS.lcmp X8.here hx rfl (hb hby dCo12_22) rfl ?_
      exact ht
    by_cases hc9 : (0 : Int32) < (lcmpW l1 l2)
    · refine OFin.of (S' := T8.setTop (mkF m 43 #[.val (.ref a0), .val (.ref a1)] [(.int (0 : Int32))])) (fun t ht => ?_) ?_
      · refine XS.ifYes X8.here hx rfl (pc0 := 23) (pc' := 42) rfl (hb hby dCo12_23) rfl ((if0 _ _).trans (tlt (hc9 : (0 : Int32) < (lcmpW l1 l2))).2.2.1) (by decide) (by decide) ?_
        show Steps p.tables e below (T8.setTop (mkF m 42 _ [])) _
        refine XS.iconst X8.here hx rfl (hb hby dCo12_42) ?_
        exact ht
      exact OFin.retB X8 hx hlk (t := .boolean) (by simp) hret (hb hby dCo12_43) (by decide) (by decide) (by rw [e8]; exact ⟨(by show some (Value.int (0 : Int32)) = _; simp [own_cont, hc6, hc9]), N5, rfl⟩)
    · refine OFin.of (S' := T8.setTop (mkF m 27 #[.val (.ref a0), .val (.ref a1)] [(.ref a1)])) (fun t ht => ?_) ?_
      · refine XS.ifNo X8.here hx rfl (hb hby dCo12_23) rfl ((if0 _ _).trans (flt (hc9 : ¬ ((0 : Int32) < (lcmpW l1 l2)))).2.2.1) ?_
        show Steps p.tables e below (T8.setTop (mkF m 26 _ [])) _
        refine XS.aloadN X8.here hx rfl (hb hby dCo12_26) rfl rfl ?_
        exact ht
      obtain ⟨T10, X10, e10, st10⟩ := getF X8 hx hZ hown (host := "") (Or.inl (hw _ (List.mem_of_getElem? (i := 50) rfl))) Via.refl e8 U1a (g := (mkF m 27 #[.val (.ref a0), .val (.ref a1)] [(.ref a1)])) rfl rfl (hb hby dCo12_27)
      refine OFin.of (S' := T10.setTop (mkF m 30 #[.val (.ref a0), .val (.ref a1)] [(.long u2)])) (fun t ht => st10 t ht) ?_
      refine OFin.of (S' := T10.setTop (mkF m 31 #[.val (.ref a0), .val (.ref a1)] [(.ref a0), (.long u2)])) (fun t ht => ?_) ?_
      · refine XS.aloadN X10.here hx rfl (hb hby dCo12_30) rfl rfl ?_
        exact ht
      obtain ⟨T11, X11, e11, st11⟩ := getF X10 hx hZ hown (host := "") (Or.inl (hw _ (List.mem_of_getElem? (i := 50) rfl))) Via.refl e10 U0a (g := (mkF m 31 #[.val (.ref a0), .val (.ref a1)] [(.ref a0), (.long u2)])) rfl rfl (hb hby dCo12_31)
      refine OFin.of (S' := T11.setTop (mkF m 34 #[.val (.ref a0), .val (.ref a1)] [(.long u1), (.long u2)])) (fun t ht => st11 t ht) ?_
      refine OFin.of (S' := T11.setTop (mkF m 35 #[.val (.ref a0), .val (.ref a1)] [(.int (lcmpW u2 u1))])) (fun t ht => ?_) ?_
      · refine XS.lcmp X11.here hx rfl (hb hby dCo12_34) rfl ?_
        exact ht
      by_cases hc12 : (0 : Int32) < (lcmpW u2 u1)
      · refine OFin.of (S' := T11.setTop (mkF m 43 #[.val (.ref a0), .val (.ref a1)] [(.int (0 : Int32))])) (fun t ht => ?_) ?_
        · refine XS.ifYes X11.here hx rfl (pc0 := 35) (pc' := 42) rfl (hb hby dCo12_35) rfl ((if0 _ _).trans (tlt (hc12 : (0 : Int32) < (lcmpW u2 u1))).2.2.1) (by decide) (by decide) ?_
          show Steps p.tables e below (T11.setTop (mkF m 42 _ [])) _
          refine XS.iconst X11.here hx rfl (hb hby dCo12_42) ?_
          exact ht
        exact OFin.retB X11 hx hlk (t := .boolean) (by simp) hret (hb hby dCo12_43) (by decide) (by decide) (by rw [e11]; exact ⟨(by show some (Value.int (0 : Int32)) = _; simp [own_cont, hc6, hc9, hc12]), N5, rfl⟩)
      · refine OFin.of (S' := T11.setTop (mkF m 43 #[.val (.ref a0), .val (.ref a1)] [(.int (1 : Int32))])) (fun t ht => ?_) ?_
        · refine XS.ifNo X11.here hx rfl (hb hby dCo12_35) rfl ((if0 _ _).trans (flt (hc12 : ¬ ((0 : Int32) < (lcmpW u2 u1)))).2.2.1) ?_
          show Steps p.tables e below (T11.setTop (mkF m 38 _ [])) _
          refine XS.iconst X11.here hx rfl (hb hby dCo12_38) ?_
          show Steps p.tables e below (T11.setTop (mkF m 39 _ [(.int (1 : Int32))])) _
          refine XS.goto X11.here hx rfl (pc0 := 39) (pc' := 43) rfl (hb hby dCo12_39) (by decide) (by decide) ?_
          exact ht
        exact OFin.retB X11 hx hlk (t := .boolean) (by simp) hret (hb hby dCo12_43) (by decide) (by decide) (by rw [e11]; exact ⟨(by show some (Value.int (1 : Int32)) = _; simp [own_cont, hc6, hc9, hc12]), N5, rfl⟩)
theorem dCo22_0 : decode prog_27_method_9_code 0 = .ok (.aload_n 0, 1) := by decide +kernel
theorem dCo22_1 : decode prog_27_method_9_code 1 = .ok (.getfield 7, 3) := by decide +kernel
theorem dCo22_4 : decode prog_27_method_9_code 4 = .ok (.aload_n 1, 1) := by decide +kernel
theorem dCo22_5 : decode prog_27_method_9_code 5 = .ok (.getfield 7, 3) := by decide +kernel
theorem dCo22_8 : decode prog_27_method_9_code 8 = .ok (.invokevirtual 93, 3) := by decide +kernel
theorem dCo22_11 : decode prog_27_method_9_code 11 = .ok (.ifCond .eq 31, 3) := by decide +kernel
theorem dCo22_14 : decode prog_27_method_9_code 14 = .ok (.aload_n 0, 1) := by decide +kernel
theorem dCo22_15 : decode prog_27_method_9_code 15 = .ok (.getfield 13, 3) := by decide +kernel
theorem dCo22_18 : decode prog_27_method_9_code 18 = .ok (.aload_n 1, 1) := by decide +kernel
theorem dCo22_19 : decode prog_27_method_9_code 19 = .ok (.getfield 13, 3) := by decide +kernel
theorem dCo22_22 : decode prog_27_method_9_code 22 = .ok (.lcmp, 1) := by decide +kernel
theorem dCo22_23 : decode prog_27_method_9_code 23 = .ok (.ifCond .gt 19, 3) := by decide +kernel
theorem dCo22_26 : decode prog_27_method_9_code 26 = .ok (.aload_n 1, 1) := by decide +kernel
theorem dCo22_27 : decode prog_27_method_9_code 27 = .ok (.getfield 17, 3) := by decide +kernel
theorem dCo22_30 : decode prog_27_method_9_code 30 = .ok (.aload_n 0, 1) := by decide +kernel
theorem dCo22_31 : decode prog_27_method_9_code 31 = .ok (.getfield 17, 3) := by decide +kernel
theorem dCo22_34 : decode prog_27_method_9_code 34 = .ok (.lcmp, 1) := by decide +kernel
theorem dCo22_35 : decode prog_27_method_9_code 35 = .ok (.ifCond .gt 7, 3) := by decide +kernel
theorem dCo22_38 : decode prog_27_method_9_code 38 = .ok (.iconst 1, 1) := by decide +kernel
theorem dCo22_39 : decode prog_27_method_9_code 39 = .ok (.goto 4, 3) := by decide +kernel
theorem dCo22_42 : decode prog_27_method_9_code 42 = .ok (.iconst 0, 1) := by decide +kernel
theorem dCo22_43 : decode prog_27_method_9_code 43 = .ok (.ireturn, 1) := by decide +kernel
theorem pnCo22 : plainName "com/example/greylag/greylag/model/Bundle" = true := by first | (simp [plainName, overriddenIn]; done) | decide +kernel
theorem efCo22 (m : MethodId) (a0 : Addr) (a1 : Addr) : entryFrame m #[(.ref a0), (.ref a1)] 2 = mkF m 0 #[.val (.ref a0), .val (.ref a1)] [] := by first | (simp [entryFrame, mkF, argsToLocals, Value.category]; done) | rfl
def QCo22 (Z : State) (a0 : Addr) (a1 : Addr) (s1 : Addr) (s2 : Addr) (l1 : Int64) (u1 : Int64) (l2 : Int64) (u2 : Int64) (E : Int32) (h0 : Heap) (n0 : Nat) (v : Option Value) (h : Heap) (L : List Loc) : Prop := v = some (.int (own_cont E l1 u1 l2 u2)) ∧ Fr n0 L ∧ h = h0
set_option maxRecDepth 65536 in
set_option maxHeartbeats 40000000 in
theorem rmCo22 (l : Launch) (Z : State) (a0 : Array Value) (hw : ∀ d ∈ tables_1, d.before a0 Z = true) (ws : List Jvm.Cond) (a0 : Addr) (a1 : Addr) (s1 : Addr) (s2 : Addr) (l1 : Int64) (u1 : Int64) (l2 : Int64) (u2 : Int64) (E : Int32) (h0 : Heap) (n0 : Nat) (Z0 : n0 ≤ h0.size) (N0a : Fld Z h0 a0 "com/example/greylag/greylag/model/Bundle" "namespace" "Ljava/lang/String;" (.ref s1)) (N1a : Fld Z h0 a1 "com/example/greylag/greylag/model/Bundle" "namespace" "Ljava/lang/String;" (.ref s2)) (L0a : Fld Z h0 a0 "com/example/greylag/greylag/model/Bundle" "lower" "J" (.long l1)) (L1a : Fld Z h0 a1 "com/example/greylag/greylag/model/Bundle" "lower" "J" (.long l2)) (U0a : Fld Z h0 a0 "com/example/greylag/greylag/model/Bundle" "upper" "J" (.long u1)) (U1a : Fld Z h0 a1 "com/example/greylag/greylag/model/Bundle" "upper" "J" (.long u2)) (Es : Exa Z h0 s1 "java/lang/String") (hM : MetFree l (⟨"java/lang/String", "equals", "(Ljava/lang/Object;)Z"⟩ : MethodName) (head1 [Jvm.Cond.code (⟨"java/lang/String", "equals", "(Ljava/lang/Object;)Z"⟩ : MethodName) jdk_42_method_66_code 3 (some .boolean)] ({ frames := 1, cells := 0, slots := 0, locals := 14 } : Room)) (fun a U => a = #[(.ref s1), (.ref s2)] ∧ Z.Warmed39 U.vm ∧ U.heap = h0) (fun _ _ _ _ _ => True) (fun _ U o U' => ∃ v L, o = .returned v ∧ OwnMet E h0 n0 v U'.heap L ∧ FrameEnd U o U' L ({ frames := 1, cells := 0, slots := 0, locals := 14 } : Room).cells ({ frames := 1, cells := 0, slots := 0, locals := 14 } : Room).slots)) :
    MetFree l (⟨"com/example/greylag/greylag/model/Bundle", "contains", "(Lcom/example/greylag/greylag/model/Bundle;)Z"⟩ : MethodName) (head1 (Jvm.Cond.code (⟨"com/example/greylag/greylag/model/Bundle", "contains", "(Lcom/example/greylag/greylag/model/Bundle;)Z"⟩ : MethodName) prog_27_method_9_code 2 (some .boolean) :: ws) ({ frames := 2, cells := 0, slots := 0, locals := 28 } : Room)) (fun a U => a = #[(.ref a0), (.ref a1)] ∧ Z.Warmed39 U.vm ∧ U.heap = h0) (fun _ _ _ _ _ => True) (fun _ U o U' => ∃ v L, o = .returned v ∧ QCo22 Z a0 a1 s1 s2 l1 u1 l2 u2 E h0 n0 v U'.heap L ∧ FrameEnd U o U' L ({ frames := 2, cells := 0, slots := 0, locals := 28 } : Room).cells ({ frames := 2, cells := 0, slots := 0, locals := 28 } : Room).slots) := by
  refine MetFree.of_bodySF (plainFor_of_name pnCo22) hisR ?_
  intro p e s m args below meth c s₁ Bd hml0 hP hK
  obtain ⟨rfl, hZ, hh⟩ := hP
  have hx := Bd.exec
  have hby := Bd.bytes
  have hlk := BodyLoose.notSynchronized Bd
  have hret := Bd.returns
  have hml : c.maxLocals = 2 := hml0
  have hown : s.vm.findClass "com/example/greylag/greylag/model/Bundle" = some m.cls := findClass_of_methodNamed Bd.named
  have hnm := (name_of_methodNamed Bd.named Bd.method).1
  have X0 : Stand p l e ({ frames := 2, cells := 0, slots := 0, locals := 28 } : Room) s m #[(.ref a0), (.ref a1)] below meth c s₁ [] 0 0 := Stand.of_body Bd
  have e0 : s₁.heap = h0 := by rw [← hh, Bd.state]; rfl
  have N0 := Fr.nil n0
  show OFin p e below (KPost s (QCo22 Z a0 a1 s1 s2 l1 u1 l2 u2 E h0 n0) ({ frames := 2, cells := 0, slots := 0, locals := 28 } : Room).cells ({ frames := 2, cells := 0, slots := 0, locals := 28 } : Room).slots) _
  rw [efCo22 m a0 a1]
  refine OFin.of (S' := s₁.setTop (mkF m 1 #[.val (.ref a0), .val (.ref a1)] [(.ref a0)])) (fun t ht => ?_) ?_
  · refine XS.aloadN X0.here hx rfl (hb hby dCo22_0) rfl rfl ?_
    exact ht
  obtain ⟨T1, X1, e1, st1⟩ := getF X0 hx hZ hown (host := "") (Or.inl (hw _ (List.mem_of_getElem? (i := 46) rfl))) Via.refl e0 N0a (g := (mkF m 1 #[.val (.ref a0), .val (.ref a1)] [(.ref a0)])) rfl rfl (hb hby dCo22_1)
  refine OFin.of (S' := T1.setTop (mkF m 4 #[.val (.ref a0), .val (.ref a1)] [(.ref s1)])) (fun t ht => st1 t ht) ?_
  refine OFin.of (S' := T1.setTop (mkF m 5 #[.val (.ref a0), .val (.ref a1)] [(.ref a1), (.ref s1)])) (fun t ht => ?_) ?_
  · refine XS.aloadN X1.here hx rfl (hb hby dCo22_4) rfl rfl ?_
    exact ht
  obtain ⟨T2, X2, e2, st2⟩ := getF X1 hx hZ hown (host := "") (Or.inl (hw _ (List.mem_of_getElem? (i := 46) rfl))) Via.refl e1 N1a (g := (mkF m 5 #[.val (.ref a0), .val (.ref a1)] [(.ref a1), (.ref s1)])) rfl rfl (hb hby dCo22_5)
  refine OFin.of (S' := T2.setTop (mkF m 8 #[.val (.ref a0), .val (.ref a1)] [(.ref s2), (.ref s1)])) (fun t ht => st2 t ht) ?_
  obtain ⟨cq4, kq4, q4a, q4b, q4c⟩ := isOf hZ e2 Es
  obtain ⟨_, _, ⟨T3, L3, k3, n3⟩, -, X3, ⟨Lc3, hQ3, l3, y3, z3⟩, st3⟩ := X2.virtualBack hx (y := (⟨"java/lang/String", "equals", "(Ljava/lang/Object;)Z"⟩ : MethodName)) (z := (⟨"java/lang/String", "equals", "(Ljava/lang/Object;)Z"⟩ : MethodName)) hown (mvT hZ (hw _ (List.mem_of_getElem? (i := 57) rfl))) (mvT hZ (hw _ (List.mem_of_getElem? (i := 58) rfl))) (notFace_of_selects (args := #[]) (mvT hZ (hw _ (List.mem_of_getElem? (i := 60) rfl)))) (mvT hZ (hw _ (List.mem_of_getElem? (i := 60) rfl))) (mvT hZ (hw _ (List.mem_of_getElem? (i := 59) rfl))) (by decide) (backOf (W := 0) hM hZ (hw _ (List.mem_of_getElem? (i := 61) rfl)) (hw _ (List.mem_of_getElem? (i := 2) rfl)) (by decide) (by decide)) q4a q4c (g := (mkF m 8 #[.val (.ref a0), .val (.ref a1)] [(.ref s2), (.ref s1)])) rfl (by rw [hml]; rfl) (Steps.refl _) (argsL := [(.ref s2)]) (rest := []) (lenOf pd_5 rfl) rfl (by show 2 * 0 + _ ≤ _; exact Nat.le_of_eq rfl) (hb hby dCo22_8) (fun _ _ => ⟨rfl, e2, (by decide : 0 + 0 ≤ _), (by decide : 0 + 0 ≤ _)⟩)
  dsimp only [Pt.U, Pt.locs, Pt.cells, Pt.slots] at X3 l3 y3 z3 st3 hQ3
  subst l3 y3 z3
  obtain ⟨rfl, Nq3, hs3⟩ := hQ3
  have N5 := Fr.app N0 Nq3
  refine OFin.to (S' := T3.setTop (mkF m 11 #[.val (.ref a0), .val (.ref a1)] [(.int E)])) st3 ?_
  by_cases hc6 : E = (0 : Int32)
  · refine OFin.of (S' := T3.setTop (mkF m 43 #[.val (.ref a0), .val (.ref a1)] [(.int (0 : Int32))])) (fun t ht => ?_) ?_
    · refine XS.ifYes X3.here hx rfl (pc0 := 11) (pc' := 42) rfl (hb hby dCo22_11) rfl ((if0 _ _).trans (teq (hc6 : E = (0 : Int32))).1) (by decide) (by decide) ?_
      show Steps p.tables e below (T3.setTop (mkF m 42 _ [])) _
      refine XS.iconst X3.here hx rfl (hb hby dCo22_42) ?_
      exact ht
    exact OFin.retB X3 hx hlk (t := .boolean) (by simp) hret (hb hby dCo22_43) (by decide) (by decide) (by rw [hs3]; exact ⟨(by show some (Value.int (0 : Int32)) = _; simp [own_cont, hc6]), N5, rfl⟩)
  · refine OFin.of (S' := T3.setTop (mkF m 15 #[.val (.ref a0), .val (.ref a1)] [(.ref a0)])) (fun t ht => ?_) ?_
    · refine XS.ifNo X3.here hx rfl (hb hby dCo22_11) rfl ((if0 _ _).trans (feq (hc6 : ¬ (E = (0 : Int32)))).1) ?_
      show Steps p.tables e below (T3.setTop (mkF m 14 _ [])) _
      refine XS.aloadN X3.here hx rfl (hb hby dCo22_14) rfl rfl ?_
      exact ht
    obtain ⟨T7, X7, e7, st7⟩ := getF X3 hx hZ hown (host := "") (Or.inl (hw _ (List.mem_of_getElem? (i := 48) rfl))) Via.refl hs3 L0a (g := (mkF m 15 #[.val (.ref a0), .val (.ref a1)] [(.ref a0)])) rfl rfl (hb hby dCo22_15)
    refine OFin.of (S' := T7.setTop (mkF m 18 #[.val (.ref a0), .val (.ref a1)] [(.long l1)])) (fun t ht => st7 t ht) ?_
    refine OFin.of (S' := T7.setTop (mkF m 19 #[.val (.ref a0), .val (.ref a1)] [(.ref a1), (.long l1)])) (fun t ht => ?_) ?_
    · refine XS.aloadN X7.here hx rfl (hb hby dCo22_18) rfl rfl ?_
      exact ht
    obtain ⟨T8, X8, e8, st8⟩ := getF X7 hx hZ hown (host := "") (Or.inl (hw _ (List.mem_of_getElem? (i := 48) rfl))) Via.refl e7 L1a (g := (mkF m 19 #[.val (.ref a0), .val (.ref a1)] [(.ref a1), (.long l1)])) rfl rfl (hb hby dCo22_19)
    refine OFin.of (S' := T8.setTop (mkF m 22 #[.val (.ref a0), .val (.ref a1)] [(.long l2), (.long l1)])) (fun t ht => st8 t ht) ?_
    refine OFin.of (S' := T8.setTop (mkF m 23 #[.val (.ref a0), .val (.ref a1)] [(.int (lcmpW l1 l2))])) (fun t ht => ?_) ?_
    · refine XS.lcmp X8.here hx rfl (hb hby dCo22_22) rfl ?_
      exact ht
    by_cases hc9 : (0 : Int32) < (lcmpW l1 l2)
    · refine OFin.of (S' := T8.setTop (mkF m 43 #[.val (.ref a0), .val (.ref a1)] [(.int (0 : Int32))])) (fun t ht => ?_) ?_
      · refine XS.ifYes X8.here hx rfl (pc0 := 23) (pc' := 42) rfl (hb hby dCo22_23) rfl ((if0 _ _).trans (tlt (hc9 : (0 : Int32) < (lcmpW l1 l2))).2.2.1) (by decide) (by decide) ?_
        show Steps p.tables e below (T8.setTop (mkF m 42 _ [])) _
        refine XS.iconst X8.here hx rfl (hb hby dCo22_42) ?_
        exact ht
      exact OFin.retB X8 hx hlk (t := .boolean) (by simp) hret (hb hby dCo22_43) (by decide) (by decide) (by rw [e8]; exact ⟨(by show some (Value.int (0 : Int32)) = _; simp [own_cont, hc6, hc9]), N5, rfl⟩)
    · refine OFin.of (S' := T8.setTop (mkF m 27 #[.val (.ref a0), .val (.ref a1)] [(.ref a1)])) (fun t ht => ?_) ?_
      · refine XS.ifNo X8.here hx rfl (hb hby dCo22_23) rfl ((if0 _ _).trans (flt (hc9 : ¬ ((0 : Int32) < (lcmpW l1 l2)))).2.2.1) ?_
        show Steps p.tables e below (T8.setTop (mkF m 26 _ [])) _
        refine XS.aloadN X8.here hx rfl (hb hby dCo22_26) rfl rfl ?_
        exact ht
      obtain ⟨T10, X10, e10, st10⟩ := getF X8 hx hZ hown (host := "") (Or.inl (hw _ (List.mem_of_getElem? (i := 50) rfl))) Via.refl e8 U1a (g := (mkF m 27 #[.val (.ref a0), .val (.ref a1)] [(.ref a1)])) rfl rfl (hb hby dCo22_27)
      refine OFin.of (S' := T10.setTop (mkF m 30 #[.val (.ref a0), .val (.ref a1)] [(.long u2)])) (fun t ht => st10 t ht) ?_
      refine OFin.of (S' := T10.setTop (mkF m 31 #[.val (.ref a0), .val (.ref a1)] [(.ref a0), (.long u2)])) (fun t ht => ?_) ?_
      · refine XS.aloadN X10.here hx rfl (hb hby dCo22_30) rfl rfl ?_
        exact ht
      obtain ⟨T11, X11, e11, st11⟩ := getF X10 hx hZ hown (host := "") (Or.inl (hw _ (List.mem_of_getElem? (i := 50) rfl))) Via.refl e10 U0a (g := (mkF m 31 #[.val (.ref a0), .val (.ref a1)] [(.ref a0), (.long u2)])) rfl rfl (hb hby dCo22_31)
      refine OFin.of (S' := T11.setTop (mkF m 34 #[.val (.ref a0), .val (.ref a1)] [(.long u1), (.long u2)])) (fun t ht => st11 t ht) ?_
      refine OFin.of (S' := T11.setTop (mkF m 35 #[.val (.ref a0), .val (.ref a1)] [(.int (lcmpW u2 u1))])) (fun t ht => ?_) ?_
      · refine XS.lcmp X11.here hx rfl (hb hby dCo22_34) rfl ?_
        exact ht
      by_cases hc12 : (0 : Int32) < (lcmpW u2 u1)
      · refine OFin.of (S' := T11.setTop (mkF m 43 #[.val (.ref a0), .val (.ref a1)] [(.int (0 : Int32))])) (fun t ht => ?_) ?_
        · refine XS.ifYes X11.here hx rfl (pc0 := 35) (pc' := 42) rfl (hb hby dCo22_35) rfl ((if0 _ _).trans (tlt (hc12 : (0 : Int32) < (lcmpW u2 u1))).2.2.1) (by decide) (by decide) ?_
          show Steps p.tables e below (T11.setTop (mkF m 42 _ [])) _
          refine XS.iconst X11.here hx rfl (hb hby dCo22_42) ?_
          exact ht
        exact OFin.retB X11 hx hlk (t := .boolean) (by simp) hret (hb hby dCo22_43) (by decide) (by decide) (by rw [e11]; exact ⟨(by show some (Value.int (0 : Int32)) = _; simp [own_cont, hc6, hc9, hc12]), N5, rfl⟩)
      · refine OFin.of (S' := T11.setTop (mkF m 43 #[.val (.ref a0), .val (.ref a1)] [(.int (1 : Int32))])) (fun t ht => ?_) ?_
        · refine XS.ifNo X11.here hx rfl (hb hby dCo22_35) rfl ((if0 _ _).trans (flt (hc12 : ¬ ((0 : Int32) < (lcmpW u2 u1)))).2.2.1) ?_
          show Steps p.tables e below (T11.setTop (mkF m 38 _ [])) _
          refine XS.iconst X11.here hx rfl (hb hby dCo22_38) ?_
          show Steps p.tables e below (T11.setTop (mkF m 39 _ [(.int (1 : Int32))])) _
          refine XS.goto X11.here hx rfl (pc0 := 39) (pc' := 43) rfl (hb hby dCo22_39) (by decide) (by decide) ?_
          exact ht
        exact OFin.retB X11 hx hlk (t := .boolean) (by simp) hret (hb hby dCo22_43) (by decide) (by decide) (by rw [e11]; exact ⟨(by show some (Value.int (1 : Int32)) = _; simp [own_cont, hc6, hc9, hc12]), N5, rfl⟩)
theorem dCos_0 : decode prog_27_method_9_code 0 = .ok (.aload_n 0, 1) := by decide +kernel
theorem dCos_1 : decode prog_27_method_9_code 1 = .ok (.getfield 7, 3) := by decide +kernel
theorem dCos_4 : decode prog_27_method_9_code 4 = .ok (.aload_n 1, 1) := by decide +kernel
theorem dCos_5 : decode prog_27_method_9_code 5 = .ok (.getfield 7, 3) := by decide +kernel
theorem dCos_8 : decode prog_27_method_9_code 8 = .ok (.invokevirtual 93, 3) := by decide +kernel
theorem dCos_11 : decode prog_27_method_9_code 11 = .ok (.ifCond .eq 31, 3) := by decide +kernel
theorem dCos_14 : decode prog_27_method_9_code 14 = .ok (.aload_n 0, 1) := by decide +kernel
theorem dCos_15 : decode prog_27_method_9_code 15 = .ok (.getfield 13, 3) := by decide +kernel
theorem dCos_18 : decode prog_27_method_9_code 18 = .ok (.aload_n 1, 1) := by decide +kernel
theorem dCos_19 : decode prog_27_method_9_code 19 = .ok (.getfield 13, 3) := by decide +kernel
theorem dCos_22 : decode prog_27_method_9_code 22 = .ok (.lcmp, 1) := by decide +kernel
theorem dCos_23 : decode prog_27_method_9_code 23 = .ok (.ifCond .gt 19, 3) := by decide +kernel
theorem dCos_26 : decode prog_27_method_9_code 26 = .ok (.aload_n 1, 1) := by decide +kernel
theorem dCos_27 : decode prog_27_method_9_code 27 = .ok (.getfield 17, 3) := by decide +kernel
theorem dCos_30 : decode prog_27_method_9_code 30 = .ok (.aload_n 0, 1) := by decide +kernel
theorem dCos_31 : decode prog_27_method_9_code 31 = .ok (.getfield 17, 3) := by decide +kernel
theorem dCos_34 : decode prog_27_method_9_code 34 = .ok (.lcmp, 1) := by decide +kernel
theorem dCos_35 : decode prog_27_method_9_code 35 = .ok (.ifCond .gt 7, 3) := by decide +kernel
theorem dCos_38 : decode prog_27_method_9_code 38 = .ok (.iconst 1, 1) := by decide +kernel
theorem dCos_39 : decode prog_27_method_9_code 39 = .ok (.goto 4, 3) := by decide +kernel
theorem dCos_42 : decode prog_27_method_9_code 42 = .ok (.iconst 0, 1) := by decide +kernel
theorem dCos_43 : decode prog_27_method_9_code 43 = .ok (.ireturn, 1) := by decide +kernel
theorem pnCos : plainName "com/example/greylag/greylag/model/Bundle" = true := by first | (simp [plainName, overriddenIn]; done) | decide +kernel
theorem efCos (m : MethodId) (a0 : Addr) (a1 : Addr) : entryFrame m #[(.ref a0), (.ref a1)] 2 = mkF m 0 #[.val (.ref a0), .val (.ref a1)] [] := by first | (simp [entryFrame, mkF, argsToLocals, Value.category]; done) | rfl
def QCos (Z : State) (a0 : Addr) (a1 : Addr) (s1 : Addr) (l1 : Int64) (u1 : Int64) (l2 : Int64) (u2 : Int64) (E : Int32) (h0 : Heap) (n0 : Nat) (v : Option Value) (h : Heap) (L : List Loc) : Prop := v = some (.int (own_cont E l1 u1 l2 u2)) ∧ Fr n0 L ∧ h = h0
set_option maxRecDepth 65536 in
set_option maxHeartbeats 40000000 in
theorem rmCos (l : Launch) (Z : State) (a0 : Array Value) (hw : ∀ d ∈ tables_1, d.before a0 Z = true) (ws : List Jvm.Cond) (a0 : Addr) (a1 : Addr) (s1 : Addr) (l1 : Int64) (u1 : Int64) (l2 : Int64) (u2 : Int64) (E : Int32) (h0 : Heap) (n0 : Nat) (Z0 : n0 ≤ h0.size) (N0a : Fld Z h0 a0 "com/example/greylag/greylag/model/Bundle" "namespace" "Ljava/lang/String;" (.ref s1)) (N1a : Fld Z h0 a1 "com/example/greylag/greylag/model/Bundle" "namespace" "Ljava/lang/String;" (.ref s1)) (L0a : Fld Z h0 a0 "com/example/greylag/greylag/model/Bundle" "lower" "J" (.long l1)) (L1a : Fld Z h0 a1 "com/example/greylag/greylag/model/Bundle" "lower" "J" (.long l2)) (U0a : Fld Z h0 a0 "com/example/greylag/greylag/model/Bundle" "upper" "J" (.long u1)) (U1a : Fld Z h0 a1 "com/example/greylag/greylag/model/Bundle" "upper" "J" (.long u2)) (Es : Exa Z h0 s1 "java/lang/String") (hM : MetFree l (⟨"java/lang/String", "equals", "(Ljava/lang/Object;)Z"⟩ : MethodName) (head1 [Jvm.Cond.code (⟨"java/lang/String", "equals", "(Ljava/lang/Object;)Z"⟩ : MethodName) jdk_42_method_66_code 3 (some .boolean)] ({ frames := 0, cells := 0, slots := 0, locals := 0 } : Room)) (fun a U => a = #[(.ref s1), (.ref s1)] ∧ Z.Warmed39 U.vm ∧ U.heap = h0) (fun _ _ _ _ _ => True) (fun _ U o U' => ∃ v L, o = .returned v ∧ OwnMet E h0 n0 v U'.heap L ∧ FrameEnd U o U' L ({ frames := 0, cells := 0, slots := 0, locals := 0 } : Room).cells ({ frames := 0, cells := 0, slots := 0, locals := 0 } : Room).slots)) :
    MetFree l (⟨"com/example/greylag/greylag/model/Bundle", "contains", "(Lcom/example/greylag/greylag/model/Bundle;)Z"⟩ : MethodName) (head1 (Jvm.Cond.code (⟨"com/example/greylag/greylag/model/Bundle", "contains", "(Lcom/example/greylag/greylag/model/Bundle;)Z"⟩ : MethodName) prog_27_method_9_code 2 (some .boolean) :: ws) ({ frames := 1, cells := 0, slots := 0, locals := 14 } : Room)) (fun a U => a = #[(.ref a0), (.ref a1)] ∧ Z.Warmed39 U.vm ∧ U.heap = h0) (fun _ _ _ _ _ => True) (fun _ U o U' => ∃ v L, o = .returned v ∧ QCos Z a0 a1 s1 l1 u1 l2 u2 E h0 n0 v U'.heap L ∧ FrameEnd U o U' L ({ frames := 1, cells := 0, slots := 0, locals := 14 } : Room).cells ({ frames := 1, cells := 0, slots := 0, locals := 14 } : Room).slots) := by
  refine MetFree.of_bodySF (plainFor_of_name pnCos) hisR ?_
  intro p e s m args below meth c s₁ Bd hml0 hP hK
  obtain ⟨rfl, hZ, hh⟩ := hP
  have hx := Bd.exec
  have hby := Bd.bytes
  have hlk := BodyLoose.notSynchronized Bd
  have hret := Bd.returns
  have hml : c.maxLocals = 2 := hml0
  have hown : s.vm.findClass "com/example/greylag/greylag/model/Bundle" = some m.cls := findClass_of_methodNamed Bd.named
  have hnm := (name_of_methodNamed Bd.named Bd.method).1
  have X0 : Stand p l e ({ frames := 1, cells := 0, slots := 0, locals := 14 } : Room) s m #[(.ref a0), (.ref a1)] below meth c s₁ [] 0 0 := Stand.of_body Bd
  have e0 : s₁.heap = h0 := by rw [← hh, Bd.state]; rfl
  have N0 := Fr.nil n0
  show OFin p e below (KPost s (QCos Z a0 a1 s1 l1 u1 l2 u2 E h0 n0) ({ frames := 1, cells := 0, slots := 0, locals := 14 } : Room).cells ({ frames := 1, cells := 0, slots := 0, locals := 14 } : Room).slots) _
  rw [efCos m a0 a1]
  refine OFin.of (S' := s₁.setTop (mkF m 1 #[.val (.ref a0), .val (.ref a1)] [(.ref a0)])) (fun t ht => ?_) ?_
  · refine XS.aloadN X0.here hx rfl (hb hby dCos_0) rfl rfl ?_
    exact ht
  obtain ⟨T1, X1, e1, st1⟩ := getF X0 hx hZ hown (host := "") (Or.inl (hw _ (List.mem_of_getElem? (i := 46) rfl))) Via.refl e0 N0a (g := (mkF m 1 #[.val (.ref a0), .val (.ref a1)] [(.ref a0)])) rfl rfl (hb hby dCos_1)
  refine OFin.of (S' := T1.setTop (mkF m 4 #[.val (.ref a0), .val (.ref a1)] [(.ref s1)])) (fun t ht => st1 t ht) ?_
  refine OFin.of (S' := T1.setTop (mkF m 5 #[.val (.ref a0), .val (.ref a1)] [(.ref a1), (.ref s1)])) (fun t ht => ?_) ?_
  · refine XS.aloadN X1.here hx rfl (hb hby dCos_4) rfl rfl ?_
    exact ht
  obtain ⟨T2, X2, e2, st2⟩ := getF X1 hx hZ hown (host := "") (Or.inl (hw _ (List.mem_of_getElem? (i := 46) rfl))) Via.refl e1 N1a (g := (mkF m 5 #[.val (.ref a0), .val (.ref a1)] [(.ref a1), (.ref s1)])) rfl rfl (hb hby dCos_5)
  refine OFin.of (S' := T2.setTop (mkF m 8 #[.val (.ref a0), .val (.ref a1)] [(.ref s1), (.ref s1)])) (fun t ht => st2 t ht) ?_
  obtain ⟨cq4, kq4, q4a, q4b, q4c⟩ := isOf hZ e2 Es
  obtain ⟨_, _, ⟨T3, L3, k3, n3⟩, -, X3, ⟨Lc3, hQ3, l3, y3, z3⟩, st3⟩ := X2.virtualBack hx (y := (⟨"java/lang/String", "equals", "(Ljava/lang/Object;)Z"⟩ : MethodName)) (z := (⟨"java/lang/String", "equals", "(Ljava/lang/Object;)Z"⟩ : MethodName)) hown (mvT hZ (hw _ (List.mem_of_getElem? (i := 57) rfl))) (mvT hZ (hw _ (List.mem_of_getElem? (i := 58) rfl))) (notFace_of_selects (args := #[]) (mvT hZ (hw _ (List.mem_of_getElem? (i := 60) rfl)))) (mvT hZ (hw _ (List.mem_of_getElem? (i := 60) rfl))) (mvT hZ (hw _ (List.mem_of_getElem? (i := 59) rfl))) (by decide) (backOf (W := 0) hM hZ (hw _ (List.mem_of_getElem? (i := 61) rfl)) (hw _ (List.mem_of_getElem? (i := 2) rfl)) (by decide) (by decide)) q4a q4c (g := (mkF m 8 #[.val (.ref a0), .val (.ref a1)] [(.ref s1), (.ref s1)])) rfl (by rw [hml]; rfl) (Steps.refl _) (argsL := [(.ref s1)]) (rest := []) (lenOf pd_5 rfl) rfl (by show 2 * 0 + _ ≤ _; exact Nat.le_of_eq rfl) (hb hby dCos_8) (fun _ _ => ⟨rfl, e2, (by decide : 0 + 0 ≤ _), (by decide : 0 + 0 ≤ _)⟩)
  dsimp only [Pt.U, Pt.locs, Pt.cells, Pt.slots] at X3 l3 y3 z3 st3 hQ3
  subst l3 y3 z3
  obtain ⟨rfl, Nq3, hs3⟩ := hQ3
  have N5 := Fr.app N0 Nq3
  refine OFin.to (S' := T3.setTop (mkF m 11 #[.val (.ref a0), .val (.ref a1)] [(.int E)])) st3 ?_
  by_cases hc6 : E = (0 : Int32)
  · refine OFin.of (S' := T3.setTop (mkF m 43 #[.val (.ref a0), .val (.ref a1)] [(.int (0 : Int32))])) (fun t ht => ?_) ?_
    · refine XS.ifYes X3.here hx rfl (pc0 := 11) (pc' := 42) rfl (hb hby dCos_11) rfl ((if0 _ _).trans (teq (hc6 : E = (0 : Int32))).1) (by decide) (by decide) ?_
      show Steps p.tables e below (T3.setTop (mkF m 42 _ [])) _
      refine XS.iconst X3.here hx rfl (hb hby dCos_42) ?_
      exact ht
    exact OFin.retB X3 hx hlk (t := .boolean) (by simp) hret (hb hby dCos_43) (by decide) (by decide) (by rw [hs3]; exact ⟨(by show some (Value.int (0 : Int32)) = _; simp [own_cont, hc6]), N5, rfl⟩)
  · refine OFin.of (S' := T3.setTop (mkF m 15 #[.val (.ref a0), .val (.ref a1)] [(.ref a0)])) (fun t ht => ?_) ?_
    · refine XS.ifNo X3.here hx rfl (hb hby dCos_11) rfl ((if0 _ _).trans (feq (hc6 : ¬ (E = (0 : Int32)))).1) ?_
      show Steps p.tables e below (T3.setTop (mkF m 14 _ [])) _
      refine XS.aloadN X3.here hx rfl (hb hby dCos_14) rfl rfl ?_
      exact ht
    obtain ⟨T7, X7, e7, st7⟩ := getF X3 hx hZ hown (host := "") (Or.inl (hw _ (List.mem_of_getElem? (i := 48) rfl))) Via.refl hs3 L0a (g := (mkF m 15 #[.val (.ref a0), .val (.ref a1)] [(.ref a0)])) rfl rfl (hb hby dCos_15)
    refine OFin.of (S' := T7.setTop (mkF m 18 #[.val (.ref a0), .val (.ref a1)] [(.long l1)])) (fun t ht => st7 t ht) ?_
    refine OFin.of (S' := T7.setTop (mkF m 19 #[.val (.ref a0), .val (.ref a1)] [(.ref a1), (.long l1)])) (fun t ht => ?_) ?_
    · refine XS.aloadN X7.here hx rfl (hb hby dCos_18) rfl rfl ?_
      exact ht
    obtain ⟨T8, X8, e8, st8⟩ := getF X7 hx hZ hown (host := "") (Or.inl (hw _ (List.mem_of_getElem? (i := 48) rfl))) Via.refl e7 L1a (g := (mkF m 19 #[.val (.ref a0), .val (.ref a1)] [(.ref a1), (.long l1)])) rfl rfl (hb hby dCos_19)
    refine OFin.of (S' := T8.setTop (mkF m 22 #[.val (.ref a0), .val (.ref a1)] [(.long l2), (.long l1)])) (fun t ht => st8 t ht) ?_
    refine OFin.of (S' := T8.setTop (mkF m 23 #[.val (.ref a0), .val (.ref a1)] [(.int (lcmpW l1 l2))])) (fun t ht => ?_) ?_
    · refine XS.lcmp X8.here hx rfl (hb hby dCos_22) rfl ?_
      exact ht
    by_cases hc9 : (0 : Int32) < (lcmpW l1 l2)
    · refine OFin.of (S' := T8.setTop (mkF m 43 #[.val (.ref a0), .val (.ref a1)] [(.int (0 : Int32))])) (fun t ht => ?_) ?_
      · refine XS.ifYes X8.here hx rfl (pc0 := 23) (pc' := 42) rfl (hb hby dCos_23) rfl ((if0 _ _).trans (tlt (hc9 : (0 : Int32) < (lcmpW l1 l2))).2.2.1) (by decide) (by decide) ?_
        show Steps p.tables e below (T8.setTop (mkF m 42 _ [])) _
        refine XS.iconst X8.here hx rfl (hb hby dCos_42) ?_
        exact ht
      exact OFin.retB X8 hx hlk (t := .boolean) (by simp) hret (hb hby dCos_43) (by decide) (by decide) (by rw [e8]; exact ⟨(by show some (Value.int (0 : Int32)) = _; simp [own_cont, hc6, hc9]), N5, rfl⟩)
    · refine OFin.of (S' := T8.setTop (mkF m 27 #[.val (.ref a0), .val (.ref a1)] [(.ref a1)])) (fun t ht => ?_) ?_
      · refine XS.ifNo X8.here hx rfl (hb hby dCos_23) rfl ((if0 _ _).trans (flt (hc9 : ¬ ((0 : Int32) < (lcmpW l1 l2)))).2.2.1) ?_
        show Steps p.tables e below (T8.setTop (mkF m 26 _ [])) _
        refine XS.aloadN X8.here hx rfl (hb hby dCos_26) rfl rfl ?_
        exact ht
      obtain ⟨T10, X10, e10, st10⟩ := getF X8 hx hZ hown (host := "") (Or.inl (hw _ (List.mem_of_getElem? (i := 50) rfl))) Via.refl e8 U1a (g := (mkF m 27 #[.val (.ref a0), .val (.ref a1)] [(.ref a1)])) rfl rfl (hb hby dCos_27)
      refine OFin.of (S' := T10.setTop (mkF m 30 #[.val (.ref a0), .val (.ref a1)] [(.long u2)])) (fun t ht => st10 t ht) ?_
      refine OFin.of (S' := T10.setTop (mkF m 31 #[.val (.ref a0), .val (.ref a1)] [(.ref a0), (.long u2)])) (fun t ht => ?_) ?_
      · refine XS.aloadN X10.here hx rfl (hb hby dCos_30) rfl rfl ?_
        exact ht
      obtain ⟨T11, X11, e11, st11⟩ := getF X10 hx hZ hown (host := "") (Or.inl (hw _ (List.mem_of_getElem? (i := 50) rfl))) Via.refl e10 U0a (g := (mkF m 31 #[.val (.ref a0), .val (.ref a1)] [(.ref a0), (.long u2)])) rfl rfl (hb hby dCos_31)
      refine OFin.of (S' := T11.setTop (mkF m 34 #[.val (.ref a0), .val (.ref a1)] [(.long u1), (.long u2)])) (fun t ht => st11 t ht) ?_
      refine OFin.of (S' := T11.setTop (mkF m 35 #[.val (.ref a0), .val (.ref a1)] [(.int (lcmpW u2 u1))])) (fun t ht => ?_) ?_
      · refine XS.lcmp X11.here hx rfl (hb hby dCos_34) rfl ?_
        exact ht
      by_cases hc12 : (0 : Int32) < (lcmpW u2 u1)
      · refine OFin.of (S' := T11.setTop (mkF m 43 #[.val (.ref a0), .val (.ref a1)] [(.int (0 : Int32))])) (fun t ht => ?_) ?_
        · refine XS.ifYes X11.here hx rfl (pc0 := 35) (pc' := 42) rfl (hb hby dCos_35) rfl ((if0 _ _).trans (tlt (hc12 : (0 : Int32) < (lcmpW u2 u1))).2.2.1) (by decide) (by decide) ?_
          show Steps p.tables e below (T11.setTop (mkF m 42 _ [])) _
          refine XS.iconst X11.here hx rfl (hb hby dCos_42) ?_
          exact ht
        exact OFin.retB X11 hx hlk (t := .boolean) (by simp) hret (hb hby dCos_43) (by decide) (by decide) (by rw [e11]; exact ⟨(by show some (Value.int (0 : Int32)) = _; simp [own_cont, hc6, hc9, hc12]), N5, rfl⟩)
      · refine OFin.of (S' := T11.setTop (mkF m 43 #[.val (.ref a0), .val (.ref a1)] [(.int (1 : Int32))])) (fun t ht => ?_) ?_
        · refine XS.ifNo X11.here hx rfl (hb hby dCos_35) rfl ((if0 _ _).trans (flt (hc12 : ¬ ((0 : Int32) < (lcmpW u2 u1)))).2.2.1) ?_
          show Steps p.tables e below (T11.setTop (mkF m 38 _ [])) _
          refine XS.iconst X11.here hx rfl (hb hby dCos_38) ?_
          show Steps p.tables e below (T11.setTop (mkF m 39 _ [(.int (1 : Int32))])) _
          refine XS.goto X11.here hx rfl (pc0 := 39) (pc' := 43) rfl (hb hby dCos_39) (by decide) (by decide) ?_
          exact ht
        exact OFin.retB X11 hx hlk (t := .boolean) (by simp) hret (hb hby dCos_43) (by decide) (by decide) (by rw [e11]; exact ⟨(by show some (Value.int (1 : Int32)) = _; simp [own_cont, hc6, hc9, hc12]), N5, rfl⟩)
theorem own_t0 {E b : Int32} {l1 u1 l2 u2 : Int64} (hE : (b = (1 : Int32) ∧ E = (1 : Int32)) ∨ (b = (0 : Int32) ∧ E = (0 : Int32))) (h : b = (0 : Int32)) : own_cont E l1 u1 l2 u2 = (0 : Int32) := by
  rcases hE with ⟨h1, -⟩ | ⟨-, h2⟩
  · rw [h] at h1; exact absurd h1 (by decide)
  · unfold own_cont; rw [if_pos h2]
theorem own_E1 {E b : Int32} (hE : (b = (1 : Int32) ∧ E = (1 : Int32)) ∨ (b = (0 : Int32) ∧ E = (0 : Int32))) (h : ¬ b = (0 : Int32)) : E = 1 := by
  rcases hE with ⟨-, h1⟩ | ⟨h2, -⟩
  · exact h1
  · exact absurd h2 h
theorem own_minl (a b : Int64) : lcmpW (own_lmin a b) a = 0 ↔ ¬ (0 : Int32) < lcmpW a b := by
  rw [lw_eq]; unfold own_lmin
  by_cases h : (0 : Int32) < lcmpW a b
  · rw [if_pos h]
    have h' := (lw_gt a b).mp h
    constructor
    · intro q; rw [q] at h'; exact absurd h' Int64.lt_irrefl
    · intro q; exact absurd h q
  · rw [if_neg h]; exact ⟨fun _ => h, fun _ => rfl⟩
theorem own_minr (a b : Int64) : lcmpW (own_lmin a b) b = 0 ↔ ¬ (0 : Int32) < lcmpW b a := by
  rw [lw_eq, lw_gt]; unfold own_lmin
  by_cases h : (0 : Int32) < lcmpW a b
  · rw [if_pos h]
    have h' := (lw_gt a b).mp h
    rw [Int64.lt_iff_toInt_lt] at h' ⊢
    exact ⟨fun _ => by omega, fun _ => rfl⟩
  · rw [if_neg h]
    have h' : ¬ b < a := fun q => h ((lw_gt a b).mpr q)
    rw [Int64.lt_iff_toInt_lt] at h' ⊢
    rw [← Int64.toInt_inj]
    omega
theorem own_maxl (a b : Int64) : lcmpW (own_lmax a b) a = 0 ↔ ¬ (0 : Int32) < lcmpW b a := by
  rw [lw_eq, lw_gt]; unfold own_lmax
  by_cases h : lcmpW a b < (0 : Int32)
  · rw [if_pos h]
    have h' := (lw_lt a b).mp h
    rw [Int64.lt_iff_toInt_lt] at h' ⊢
    rw [← Int64.toInt_inj]
    omega
  · rw [if_neg h]
    have h' : ¬ a < b := fun q => h ((lw_lt a b).mpr q)
    exact ⟨fun _ => h', fun _ => rfl⟩
theorem own_maxr (a b : Int64) : lcmpW (own_lmax a b) b = 0 ↔ ¬ (0 : Int32) < lcmpW a b := by
  rw [lw_eq, lw_gt]; unfold own_lmax
  by_cases h : lcmpW a b < (0 : Int32)
  · rw [if_pos h]
    have h' := (lw_lt a b).mp h
    rw [Int64.lt_iff_toInt_lt] at h' ⊢
    exact ⟨fun _ => by omega, fun _ => rfl⟩
  · rw [if_neg h]
    have h' : ¬ a < b := fun q => h ((lw_lt a b).mpr q)
    rw [Int64.lt_iff_toInt_lt] at h' ⊢
    rw [← Int64.toInt_inj]
    omega
theorem own_t1 {E : Int32} {l1 u1 l2 u2 : Int64} (h : ¬ lcmpW (own_lmin l1 l2) l1 = 0) : own_cont E l1 u1 l2 u2 = (0 : Int32) := by
  rw [own_minl] at h
  unfold own_cont
  split
  · rfl
  · rw [if_pos (Decidable.of_not_not h)]
theorem own_t2 {E : Int32} {l1 u1 l2 u2 : Int64} (h : ¬ lcmpW (own_lmax u1 u2) u1 = 0) : own_cont E l1 u1 l2 u2 = (0 : Int32) := by
  rw [own_maxl] at h
  unfold own_cont
  split
  · rfl
  · split
    · rfl
    · rw [if_pos (Decidable.of_not_not h)]
theorem own_t3 {E b : Int32} {l1 u1 l2 u2 : Int64} (hE : (b = (1 : Int32) ∧ E = (1 : Int32)) ∨ (b = (0 : Int32) ∧ E = (0 : Int32))) (h : ¬ b = (0 : Int32)) (h1 : lcmpW (own_lmin l1 l2) l1 = 0) (h2 : lcmpW (own_lmax u1 u2) u1 = 0) : own_cont E l1 u1 l2 u2 = (1 : Int32) := by
  rw [own_minl] at h1
  rw [own_maxl] at h2
  unfold own_cont
  rw [own_E1 hE h, if_neg (by decide), if_neg h1, if_neg h2]
theorem own_v0 {E E2 b : Int32} {l1 u1 l2 u2 : Int64} (hE : (b = (1 : Int32) ∧ E = (1 : Int32)) ∨ (b = (0 : Int32) ∧ E = (0 : Int32))) (h2 : E2 = E) (h : b = (0 : Int32)) : own_cont E2 l2 u2 l1 u1 = (0 : Int32) := by rw [h2]; exact own_t0 hE h
theorem own_v1 {E : Int32} {l1 u1 l2 u2 : Int64} (h : ¬ lcmpW (own_lmin l1 l2) l2 = 0) : own_cont E l2 u2 l1 u1 = (0 : Int32) := by
  rw [own_minr] at h
  unfold own_cont
  split
  · rfl
  · rw [if_pos (Decidable.of_not_not h)]
theorem own_v2 {E : Int32} {l1 u1 l2 u2 : Int64} (h : ¬ lcmpW (own_lmax u1 u2) u2 = 0) : own_cont E l2 u2 l1 u1 = (0 : Int32) := by
  rw [own_maxr] at h
  unfold own_cont
  split
  · rfl
  · split
    · rfl
    · rw [if_pos (Decidable.of_not_not h)]
theorem own_v3 {E E2 b : Int32} {l1 u1 l2 u2 : Int64} (hE : (b = (1 : Int32) ∧ E = (1 : Int32)) ∨ (b = (0 : Int32) ∧ E = (0 : Int32))) (hE2 : E2 = E) (h : ¬ b = (0 : Int32)) (h1 : lcmpW (own_lmin l1 l2) l2 = 0) (h2 : lcmpW (own_lmax u1 u2) u2 = 0) : own_cont E2 l2 u2 l1 u1 = (1 : Int32) := by
  rw [own_minr] at h1
  rw [own_maxr] at h2
  unfold own_cont
  rw [hE2, own_E1 hE h, if_neg (by decide), if_neg h1, if_neg h2]
theorem own_r3 (l u : Int64) : ¬ own_cont (1 : Int32) l u l u = (0 : Int32) := by
  unfold own_cont
  rw [if_neg (by decide), if_neg (fun q => Int64.lt_irrefl ((lw_gt _ _).mp q)), if_neg (fun q => Int64.lt_irrefl ((lw_gt _ _).mp q))]
  decide
theorem own_leqc (a b c d : Int32) : own_leq2 c d a b = own_leq2 a b c d := by
  unfold own_leq2
  by_cases h1 : a = c <;> by_cases h2 : b = d <;> simp [h1, h2, eq_comm]
theorem own_bti {a c : Int32} (ha : 0 ≤ a.toInt ∧ a.toInt ≤ 255) (hc : 0 ≤ c.toInt ∧ c.toInt ≤ 255) (h : ((a.toInt8.toInt32).toInt8.toInt32) = ((c.toInt8.toInt32).toInt8.toInt32)) : a = c := by
  have h1 := c_i2b a
  have h2 := c_i2b c
  have h3 := c_i2b a.toInt8.toInt32
  have h4 := c_i2b c.toInt8.toInt32
  rw [h] at h3
  exact Int32.toInt_inj.mp (by omega)
def own_i2c (x : Int32) : Int32 := x.toUInt32.toUInt16.toUInt32.toInt32
theorem own_i2cs {x : Int32} (h : 0 ≤ x.toInt ∧ x.toInt ≤ 255) : (x.toUInt32.toUInt16.toUInt32.toInt32) = x := by
  have := c_i2c x
  exact Int32.toInt_inj.mp (by omega)
theorem own_nars {x : Int32} (h : 0 ≤ x.toInt ∧ x.toInt ≤ 255) : nar .char x = x := own_i2cs h
theorem own_255 (x : Int32) : 0 ≤ (x &&& (255 : Int32)).toInt ∧ (x &&& (255 : Int32)).toInt ≤ 255 := by
  have h := c_and x 255 (by decide)
  have e : (255 : Int32).toInt = 255 := by decide
  omega
theorem own_xb {c b : Int32} (hc : 0 ≤ c.toInt ∧ c.toInt ≤ 255) (hb : b = 0 ∨ b = 1) : 0 ≤ (c ^^^ b).toInt ∧ (c ^^^ b).toInt ≤ 255 := by
  rcases hb with rfl | rfl
  · rw [Int32.xor_zero]; exact hc
  · have e : c &&& 255 = c := by
      have := c_mask c 255 8 (by decide) (by decide)
      exact Int32.toInt_inj.mp (by omega)
    have e2 : (c ^^^ 1) &&& 255 = c ^^^ 1 := by
      have : (c ^^^ 1) &&& 255 = (c &&& 255) ^^^ ((1 : Int32) &&& 255) := by
        apply Int32.toBitVec_inj.mp
        simp only [Int32.toBitVec_and, Int32.toBitVec_xor]
        ext i hi
        simp only [BitVec.getElem_and, BitVec.getElem_xor]
        cases c.toBitVec[i] <;> cases (255 : Int32).toBitVec[i] <;> cases (1 : Int32).toBitVec[i] <;> rfl
      rw [this, e, show (1 : Int32) &&& 255 = 1 by decide]
    rw [← e2]; exact own_255 _
theorem own_b01 (x : Int32) : x &&& (1 : Int32) = 0 ∨ x &&& (1 : Int32) = 1 := and_one x
theorem own_hp (x : Int32) : ¬ (255 : Int32) < (nar .char ((x &&& (255 : Int32)).toUInt32.toUInt16.toUInt32.toInt32)) := by
  have h := own_255 x
  rw [own_i2cs h, own_nars h, Int32.lt_iff_toInt_lt]
  have e : (255 : Int32).toInt = 255 := by decide
  omega
theorem own_hpx (x y : Int32) : ¬ (255 : Int32) < (nar .char ((((x &&& (255 : Int32)).toUInt32.toUInt16.toUInt32.toInt32) ^^^ (y &&& (1 : Int32))).toUInt32.toUInt16.toUInt32.toInt32)) := by
  have h := own_255 x
  rw [own_i2cs h]
  have h2 := own_xb h (own_b01 y)
  rw [own_i2cs h2, own_nars h2, Int32.lt_iff_toInt_lt]
  have e : (255 : Int32).toInt = 255 := by decide
  omega
theorem own_hp9 (x : Int32) : ¬ (255 : Int32) < (nar .char ((x &&& (255 : Int32)).toUInt32.toUInt16.toUInt32.toInt32)) := own_hp x
theorem own_hp10 (x : Int32) : ¬ (255 : Int32) < (nar .char ((x &&& (255 : Int32)).toUInt32.toUInt16.toUInt32.toInt32)) := own_hp x
theorem own_hp11 (x y : Int32) : ¬ (255 : Int32) < (nar .char ((((x &&& (255 : Int32)).toUInt32.toUInt16.toUInt32.toInt32) ^^^ (y &&& (1 : Int32))).toUInt32.toUInt16.toUInt32.toInt32)) := own_hpx x y
theorem own_hp12 (x y : Int32) : ¬ (255 : Int32) < (nar .char ((((x &&& (255 : Int32)).toUInt32.toUInt16.toUInt32.toInt32) ^^^ (y &&& (1 : Int32))).toUInt32.toUInt16.toUInt32.toInt32)) := own_hpx x y
abbrev own_sh (p k : Int32) : Int32 := ((p.toUInt32 >>> (k &&& 31).toUInt32).toInt32)
theorem own_bit16 (p : Int32) : ((own_sh p 16) &&& (1 : Int32)).toInt = p.toInt % 4294967296 / 65536 % 2 := by
  have h := c_iushr p 16 16 (by decide) (by decide)
  have h2 := c_mask (own_sh p 16) 1 1 (by decide) (by decide)
  rw [h] at h2; exact h2
theorem own_bit17 (p : Int32) : ((own_sh p 17) &&& (1 : Int32)).toInt = p.toInt % 4294967296 / 131072 % 2 := by
  have h := c_iushr p 17 17 (by decide) (by decide)
  have h2 := c_mask (own_sh p 17) 1 1 (by decide) (by decide)
  rw [h] at h2; exact h2
theorem own_bit18 (p : Int32) : ((own_sh p 18) &&& (1 : Int32)).toInt = p.toInt % 4294967296 / 262144 % 2 := by
  have h := c_iushr p 18 18 (by decide) (by decide)
  have h2 := c_mask (own_sh p 18) 1 1 (by decide) (by decide)
  rw [h] at h2; exact h2
theorem own_andor (p a b : Int32) : p &&& (a ||| b) = (p &&& a) ||| (p &&& b) := by
  apply Int32.toBitVec_inj.mp
  show p.toBitVec &&& (a.toBitVec ||| b.toBitVec) = (p.toBitVec &&& a.toBitVec) ||| (p.toBitVec &&& b.toBitVec)
  rw [BitVec.and_or_distrib_left]
theorem own_m7 (p : Int32) : p &&& (458752 : Int32) = 0 ↔ p.toInt % 4294967296 / 65536 % 8 = 0 := by
  have h1 := c_mask p 65535 16 (by decide) (by decide)
  have h2 := c_mask p 524287 19 (by decide) (by decide)
  rw [show ((2 ^ 16 : Nat) : Int) = 65536 by decide] at h1
  rw [show ((2 ^ 19 : Nat) : Int) = 524288 by decide] at h2
  constructor
  · intro h
    have e : p &&& 524287 = p &&& 65535 := by
      rw [show (524287 : Int32) = 65535 ||| 458752 by decide, own_andor, h, Int32.or_zero]
    rw [e] at h2
    omega
  · intro h
    have e : p &&& 524287 = p &&& 65535 := Int32.toInt_inj.mp (by omega)
    rw [show (458752 : Int32) = 524287 &&& 458752 by decide, ← Int32.and_assoc, e, Int32.and_assoc, show (65535 : Int32) &&& 458752 = 0 by decide, Int32.and_zero]
theorem own_zero {x : Int32} : x = 0 ↔ x.toInt = 0 := by
  rw [← Int32.toInt_inj]; exact Iff.rfl
theorem own_short {p : Int32} (h : ¬ (own_sh p 18) &&& (1 : Int32) = (0 : Int32)) : ¬ p &&& (458752 : Int32) = (0 : Int32) := fun q => h (by
  rw [own_zero, own_bit18]
  rw [own_m7] at q
  omega)
theorem own_xne {c b : Int32} (hb : b = 0 ∨ b = 1) : c = c ^^^ b ↔ b = 0 := by
  constructor
  · intro h
    rcases hb with rfl | rfl
    · rfl
    · exfalso
      have := c_xor2 c 1
      rw [← h] at this
      have e : (1 : Int32).toInt = 1 := by decide
      omega
  · rintro rfl; rw [Int32.xor_zero]
theorem own_leqiff {x y b d : Int32} (hb : b = 0 ∨ b = 1) (hd : d = 0 ∨ d = 1) (hx : 0 ≤ x.toInt ∧ x.toInt ≤ 255) (hy : 0 ≤ y.toInt ∧ y.toInt ≤ 255) :
    (own_leq2 (((nar .char (x.toUInt32.toUInt16.toUInt32.toInt32)).toInt8.toInt32).toInt8.toInt32) (((nar .char (y.toUInt32.toUInt16.toUInt32.toInt32)).toInt8.toInt32).toInt8.toInt32) (((nar .char (((x.toUInt32.toUInt16.toUInt32.toInt32) ^^^ b).toUInt32.toUInt16.toUInt32.toInt32)).toInt8.toInt32).toInt8.toInt32) (((nar .char (((y.toUInt32.toUInt16.toUInt32.toInt32) ^^^ d).toUInt32.toUInt16.toUInt32.toInt32)).toInt8.toInt32).toInt8.toInt32)) = if b = 0 ∧ d = 0 then 1 else 0 := by
  have h1 := own_xb hx hb
  have h2 := own_xb hy hd
  rw [own_i2cs hx, own_i2cs hy, own_i2cs h1, own_i2cs h2, own_nars hx, own_nars hy, own_nars h1, own_nars h2]
  unfold own_leq2
  have e1 : ((x.toInt8.toInt32).toInt8.toInt32) = (((x ^^^ b).toInt8.toInt32).toInt8.toInt32) ↔ b = 0 := ⟨fun q => (own_xne hb).mp (own_bti hx h1 q), fun q => by rw [← (own_xne hb).mpr q]⟩
  have e2 : ((y.toInt8.toInt32).toInt8.toInt32) = (((y ^^^ d).toInt8.toInt32).toInt8.toInt32) ↔ d = 0 := ⟨fun q => (own_xne hd).mp (own_bti hy h2 q), fun q => by rw [← (own_xne hd).mpr q]⟩
  simp only [e1, e2]
  by_cases q1 : b = 0 <;> by_cases q2 : d = 0 <;> simp [q1, q2]
abbrev own_e (p : Int32) : Int32 := own_leq2 (((nar .char ((p &&& (255 : Int32)).toUInt32.toUInt16.toUInt32.toInt32)).toInt8.toInt32).toInt8.toInt32) (((nar .char (((own_sh p 8) &&& (255 : Int32)).toUInt32.toUInt16.toUInt32.toInt32)).toInt8.toInt32).toInt8.toInt32) (((nar .char ((((p &&& (255 : Int32)).toUInt32.toUInt16.toUInt32.toInt32) ^^^ ((own_sh p 16) &&& (1 : Int32))).toUInt32.toUInt16.toUInt32.toInt32)).toInt8.toInt32).toInt8.toInt32) (((nar .char (((((own_sh p 8) &&& (255 : Int32)).toUInt32.toUInt16.toUInt32.toInt32) ^^^ ((own_sh p 17) &&& (1 : Int32))).toUInt32.toUInt16.toUInt32.toInt32)).toInt8.toInt32).toInt8.toInt32)
theorem own_same {p : Int32} (h : p &&& (458752 : Int32) = (0 : Int32)) : own_e p = (1 : Int32) := by
  rw [own_m7] at h
  have h1 : (own_sh p 16) &&& (1 : Int32) = 0 := by rw [own_zero, own_bit16]; omega
  have h2 : (own_sh p 17) &&& (1 : Int32) = 0 := by rw [own_zero, own_bit17]; omega
  exact (own_leqiff (own_b01 _) (own_b01 _) (own_255 _) (own_255 _)).trans (if_pos ⟨h1, h2⟩)
theorem own_diff {p : Int32} (h : ¬ p &&& (458752 : Int32) = (0 : Int32)) (h8 : (own_sh p 18) &&& (1 : Int32) = (0 : Int32)) : own_e p = (0 : Int32) := by
  rw [own_m7] at h
  rw [own_zero, own_bit18] at h8
  refine (own_leqiff (own_b01 _) (own_b01 _) (own_255 _) (own_255 _)).trans (if_neg ?_)
  rintro ⟨q1, q2⟩
  rw [own_zero, own_bit16] at q1
  rw [own_zero, own_bit17] at q2
  omega
set_option maxRecDepth 65536 in
set_option maxHeartbeats 40000000 in
theorem seg1 {p : Program} {l : Launch} {e : Env} {s : State} {m : MethodId} {args : Array Value} {below : List Frame} {meth : Method} {c : Code} (Z : State) (a0 : Array Value) (hw : ∀ d ∈ tables_1, d.before a0 Z = true) (hx : p.tables.exec = Jvm.exec) (hby : c.code = code) (hlk : meth.locks = false) (hret : meth.sig.returnType = some .boolean) (hml : c.maxLocals = 35) (hown : s.vm.findClass "com/example/greylag/greylag/model/BundleContainsPinLaw" = some m.cls) (hZ : Z.Warmed39 s.vm) {Q : Option Value → Heap → List Loc → Prop} (n0 : Nat) (p0 : Int32) (q1 : Int64) (q2 : Int64) (q3 : Int64) (q4 : Int64) (i9 : Int32) (i10 : Int32) (i11 : Int32) (i12 : Int32) (i13 : Int32) (s1 : Addr) (s2 : Addr) (b16 : Int32) (j17 : Int64) (l1 : Int64) (u1 : Int64) (j23 : Int64) (j25 : Int64) (cs : Int32) (t1 : Addr) (t2 : Addr) (k1 : ClassId) (k2 : ClassId) (x0 : Int32) (x1 : Int32) (y0 : Int32) {T0 : State} {locs : List Loc} {h0 : Heap} (X0 : Stand p l e room_1 s m args below meth c T0 locs 7 22) (e0 : T0.heap = h0) (Z0 : n0 ≤ h0.size) (N0 : Fr n0 locs) (fa0 : Sta Z h0 "java/lang/String" "COMPACT_STRINGS" "Z" (.int cs)) (fa1 : Exa Z h0 s1 "java/lang/String") (fa2 : Fld Z h0 s1 "java/lang/String" "coder" "B" (.int (0 : Int32))) (fa3 : Fld Z h0 s1 "java/lang/String" "value" "[B" (.ref t1)) (fa4 : Arv Z h0 t1 k1 .byte (2 : Int32) [(.int x0), (.int x1)] (.int (0 : Int32))) (fa5 : Exa Z h0 s2 "java/lang/String") (fa6 : Fld Z h0 s2 "java/lang/String" "coder" "B" (.int (0 : Int32))) (fa7 : Fld Z h0 s2 "java/lang/String" "value" "[B" (.ref t2)) (fa8 : Arv Z h0 t2 k2 .byte (1 : Int32) [(.int y0)] (.int (0 : Int32))) (na0 : s1 ≠ s2) (hcs : ¬ cs = (0 : Int32)) (hE : (b16 = (1 : Int32) ∧ (0 : Int32) = (1 : Int32)) ∨ (b16 = (0 : Int32) ∧ (0 : Int32) = (0 : Int32))) (hE2 : (0 : Int32) = (0 : Int32)) (hQ : ∀ (h' : Heap) (L : List Loc), Fr n0 L → Q (some (.int (1 : Int32))) h' L) :
    OFin p e below (KPost s Q room_1.cells room_1.slots) (T0.setTop (mkF m 223 #[.val (.int p0), .val (.long q1), .second, .val (.long q2), .second, .val (.long q3), .second, .val (.long q4), .second, .val (.int i9), .val (.int i10), .val (.int i11), .val (.int i12), .val (.int i13), .val (.ref s1), .val (.ref s2), .val (.int b16), .val (.long j17), .second, .val (.long l1), .second, .val (.long u1), .second, .val (.long j23), .second, .val (.long j25), .second, .unset, .unset, .unset, .unset, .unset, .unset, .unset, .unset] [])) := by
  refine OFin.of (S' := T0.setTop (mkF m 227 #[.val (.int p0), .val (.long q1), .second, .val (.long q2), .second, .val (.long q3), .second, .val (.long q4), .second, .val (.int i9), .val (.int i10), .val (.int i11), .val (.int i12), .val (.int i13), .val (.ref s1), .val (.ref s2), .val (.int b16), .val (.long j17), .second, .val (.long l1), .second, .val (.long u1), .second, .val (.long j23), .second, .val (.long j25), .second, .unset, .unset, .unset, .unset, .unset, .unset, .unset, .unset] [(.long j25), (.long j23)])) (fun t ht => ?_) ?_
  · refine XS.lload X0.here hx rfl (hb hby at_223) rfl ?_
    show Steps p.tables e below (T0.setTop (mkF m 225 _ [(.long j23)])) _
    refine XS.lload X0.here hx rfl (hb hby at_225) rfl ?_
    exact ht
  obtain ⟨_, _, ⟨T1, L1, k1, n1⟩, -, X1, ⟨Lc1, hQ1, l1, y1, z1⟩, st1⟩ := Jvm.LawKit.callS X0 hx (y := (⟨"java/lang/Math", "min", "(JJ)J"⟩ : MethodName)) hown (mvT hZ (hw _ (List.mem_of_getElem? (i := 32) rfl))) (mvT hZ (hw _ (List.mem_of_getElem? (i := 33) rfl))) (mvT hZ (hw _ (List.mem_of_getElem? (i := 34) rfl))) (mvT hZ (hw _ (List.mem_of_getElem? (i := 35) rfl))) (by decide) (backOf (W := 0) (rmMn l Z _ hw [] j23 j25 h0 n0 Z0 ) hZ (hw _ (List.mem_of_getElem? (i := 35) rfl)) (hw _ (List.mem_of_getElem? (i := 34) rfl)) (by decide) (by decide)) (g := (mkF m 227 #[.val (.int p0), .val (.long q1), .second, .val (.long q2), .second, .val (.long q3), .second, .val (.long q4), .second, .val (.int i9), .val (.int i10), .val (.int i11), .val (.int i12), .val (.int i13), .val (.ref s1), .val (.ref s2), .val (.int b16), .val (.long j17), .second, .val (.long l1), .second, .val (.long u1), .second, .val (.long j23), .second, .val (.long j25), .second, .unset, .unset, .unset, .unset, .unset, .unset, .unset, .unset] [(.long j25), (.long j23)])) rfl (by rw [hml]; rfl) (argsL := [(.long j23), (.long j25)]) (rest := []) (lenOf pd_6 rfl) rfl (by show 2 * 0 + _ ≤ _; exact Nat.le_of_eq rfl) (hb hby at_227) (fun _ _ => ⟨rfl, e0, (by decide : 7 + 0 ≤ _), (by decide : 22 + 0 ≤ _)⟩)
  dsimp only [Pt.U, Pt.locs, Pt.cells, Pt.slots] at X1 l1 y1 z1 st1 hQ1
  subst l1 y1 z1
  obtain ⟨rfl, Nq1, hs1⟩ := hQ1
  have N2 := Fr.app N0 Nq1
  refine OFin.of (S' := T1.setTop (mkF m 230 #[.val (.int p0), .val (.long q1), .second, .val (.long q2), .second, .val (.long q3), .second, .val (.long q4), .second, .val (.int i9), .val (.int i10), .val (.int i11), .val (.int i12), .val (.int i13), .val (.ref s1), .val (.ref s2), .val (.int b16), .val (.long j17), .second, .val (.long l1), .second, .val (.long u1), .second, .val (.long j23), .second, .val (.long j25), .second, .unset, .unset, .unset, .unset, .unset, .unset, .unset, .unset] [(.long (own_lmin j23 j25))])) (fun t ht => st1 t ht) ?_
  refine OFin.of (S' := T1.setTop (mkF m 236 #[.val (.int p0), .val (.long q1), .second, .val (.long q2), .second, .val (.long q3), .second, .val (.long q4), .second, .val (.int i9), .val (.int i10), .val (.int i11), .val (.int i12), .val (.int i13), .val (.ref s1), .val (.ref s2), .val (.int b16), .val (.long j17), .second, .val (.long l1), .second, .val (.long u1), .second, .val (.long j23), .second, .val (.long j25), .second, .val (.long (own_lmin j23 j25)), .second, .unset, .unset, .unset, .unset, .unset, .unset] [(.long j25), (.long j23)])) (fun t ht => ?_) ?_
  · refine XS.lstore X1.here hx rfl (hb hby at_230) rfl (l' := #[.val (.int p0), .val (.long q1), .second, .val (.long q2), .second, .val (.long q3), .second, .val (.long q4), .second, .val (.int i9), .val (.int i10), .val (.int i11), .val (.int i12), .val (.int i13), .val (.ref s1), .val (.ref s2), .val (.int b16), .val (.long j17), .second, .val (.long l1), .second, .val (.long u1), .second, .val (.long j23), .second, .val (.long j25), .second, .val (.long (own_lmin j23 j25)), .second, .unset, .unset, .unset, .unset, .unset, .unset]) rfl ?_
    show Steps p.tables e below (T1.setTop (mkF m 232 #[.val (.int p0), .val (.long q1), .second, .val (.long q2), .second, .val (.long q3), .second, .val (.long q4), .second, .val (.int i9), .val (.int i10), .val (.int i11), .val (.int i12), .val (.int i13), .val (.ref s1), .val (.ref s2), .val (.int b16), .val (.long j17), .second, .val (.long l1), .second, .val (.long u1), .second, .val (.long j23), .second, .val (.long j25), .second, .val (.long (own_lmin j23 j25)), .second, .unset, .unset, .unset, .unset, .unset, .unset] [])) _
    refine XS.lload X1.here hx rfl (hb hby at_232) rfl ?_
    show Steps p.tables e below (T1.setTop (mkF m 234 _ [(.long j23)])) _
    refine XS.lload X1.here hx rfl (hb hby at_234) rfl ?_
    exact ht
  obtain ⟨_, _, ⟨T3, L3, k3, n3⟩, -, X3, ⟨Lc3, hQ3, l3, y3, z3⟩, st3⟩ := Jvm.LawKit.callS X1 hx (y := (⟨"java/lang/Math", "max", "(JJ)J"⟩ : MethodName)) hown (mvT hZ (hw _ (List.mem_of_getElem? (i := 36) rfl))) (mvT hZ (hw _ (List.mem_of_getElem? (i := 37) rfl))) (mvT hZ (hw _ (List.mem_of_getElem? (i := 34) rfl))) (mvT hZ (hw _ (List.mem_of_getElem? (i := 38) rfl))) (by decide) (backOf (W := 0) (rmMx l Z _ hw [] j23 j25 h0 n0 Z0 ) hZ (hw _ (List.mem_of_getElem? (i := 38) rfl)) (hw _ (List.mem_of_getElem? (i := 34) rfl)) (by decide) (by decide)) (g := (mkF m 236 #[.val (.int p0), .val (.long q1), .second, .val (.long q2), .second, .val (.long q3), .second, .val (.long q4), .second, .val (.int i9), .val (.int i10), .val (.int i11), .val (.int i12), .val (.int i13), .val (.ref s1), .val (.ref s2), .val (.int b16), .val (.long j17), .second, .val (.long l1), .second, .val (.long u1), .second, .val (.long j23), .second, .val (.long j25), .second, .val (.long (own_lmin j23 j25)), .second, .unset, .unset, .unset, .unset, .unset, .unset] [(.long j25), (.long j23)])) rfl (by rw [hml]; rfl) (argsL := [(.long j23), (.long j25)]) (rest := []) (lenOf pd_6 rfl) rfl (by show 2 * 0 + _ ≤ _; exact Nat.le_of_eq rfl) (hb hby at_236) (fun _ _ => ⟨rfl, hs1, (by decide : 7 + 0 ≤ _), (by decide : 22 + 0 ≤ _)⟩)
  dsimp only [Pt.U, Pt.locs, Pt.cells, Pt.slots] at X3 l3 y3 z3 st3 hQ3
  subst l3 y3 z3
  obtain ⟨rfl, Nq3, hs3⟩ := hQ3
  have N4 := Fr.app N2 Nq3
  refine OFin.of (S' := T3.setTop (mkF m 239 #[.val (.int p0), .val (.long q1), .second, .val (.long q2), .second, .val (.long q3), .second, .val (.long q4), .second, .val (.int i9), .val (.int i10), .val (.int i11), .val (.int i12), .val (.int i13), .val (.ref s1), .val (.ref s2), .val (.int b16), .val (.long j17), .second, .val (.long l1), .second, .val (.long u1), .second, .val (.long j23), .second, .val (.long j25), .second, .val (.long (own_lmin j23 j25)), .second, .unset, .unset, .unset, .unset, .unset, .unset] [(.long (own_lmax j23 j25))])) (fun t ht => st3 t ht) ?_
  refine OFin.of (S' := T3.setTop (mkF m 246 #[.val (.int p0), .val (.long q1), .second, .val (.long q2), .second, .val (.long q3), .second, .val (.long q4), .second, .val (.int i9), .val (.int i10), .val (.int i11), .val (.int i12), .val (.int i13), .val (.ref s1), .val (.ref s2), .val (.int b16), .val (.long j17), .second, .val (.long l1), .second, .val (.long u1), .second, .val (.long j23), .second, .val (.long j25), .second, .val (.long (own_lmin j23 j25)), .second, .val (.long (own_lmax j23 j25)), .second, .unset, .unset, .unset, .unset] [(.int (lcmpW (own_lmin j23 j25) (own_lmax j23 j25)))])) (fun t ht => ?_) ?_
  · refine XS.lstore X3.here hx rfl (hb hby at_239) rfl (l' := #[.val (.int p0), .val (.long q1), .second, .val (.long q2), .second, .val (.long q3), .second, .val (.long q4), .second, .val (.int i9), .val (.int i10), .val (.int i11), .val (.int i12), .val (.int i13), .val (.ref s1), .val (.ref s2), .val (.int b16), .val (.long j17), .second, .val (.long l1), .second, .val (.long u1), .second, .val (.long j23), .second, .val (.long j25), .second, .val (.long (own_lmin j23 j25)), .second, .val (.long (own_lmax j23 j25)), .second, .unset, .unset, .unset, .unset]) rfl ?_
    show Steps p.tables e below (T3.setTop (mkF m 241 #[.val (.int p0), .val (.long q1), .second, .val (.long q2), .second, .val (.long q3), .second, .val (.long q4), .second, .val (.int i9), .val (.int i10), .val (.int i11), .val (.int i12), .val (.int i13), .val (.ref s1), .val (.ref s2), .val (.int b16), .val (.long j17), .second, .val (.long l1), .second, .val (.long u1), .second, .val (.long j23), .second, .val (.long j25), .second, .val (.long (own_lmin j23 j25)), .second, .val (.long (own_lmax j23 j25)), .second, .unset, .unset, .unset, .unset] [])) _
    refine XS.lload X3.here hx rfl (hb hby at_241) rfl ?_
    show Steps p.tables e below (T3.setTop (mkF m 243 _ [(.long (own_lmin j23 j25))])) _
    refine XS.lload X3.here hx rfl (hb hby at_243) rfl ?_
    show Steps p.tables e below (T3.setTop (mkF m 245 _ [(.long (own_lmax j23 j25)), (.long (own_lmin j23 j25))])) _
    refine XS.lcmp X3.here hx rfl (hb hby at_245) rfl ?_
    exact ht
  by_cases hc5 : (lcmpW (own_lmin j23 j25) (own_lmax j23 j25)) = (0 : Int32)
  · refine OFin.of (S' := T3.setTop (mkF m 250 #[.val (.int p0), .val (.long q1), .second, .val (.long q2), .second, .val (.long q3), .second, .val (.long q4), .second, .val (.int i9), .val (.int i10), .val (.int i11), .val (.int i12), .val (.int i13), .val (.ref s1), .val (.ref s2), .val (.int b16), .val (.long j17), .second, .val (.long l1), .second, .val (.long u1), .second, .val (.long j23), .second, .val (.long j25), .second, .val (.long (own_lmin j23 j25)), .second, .val (.long (own_lmax j23 j25)), .second, .unset, .unset, .unset, .unset] [(.int (1 : Int32))])) (fun t ht => ?_) ?_
    · refine XS.ifNo X3.here hx rfl (hb hby at_246) rfl ((if0 _ _).trans (teq (hc5 : (lcmpW (own_lmin j23 j25) (own_lmax j23 j25)) = (0 : Int32))).2) ?_
      show Steps p.tables e below (T3.setTop (mkF m 249 _ [])) _
      refine XS.iconst X3.here hx rfl (hb hby at_249) ?_
      exact ht
    exact OFin.retB X3 hx hlk (t := .boolean) (by simp) hret (hb hby at_250) (by decide) (by decide) (by rw [hs3]; exact hQ _ _ N4)
  · refine OFin.of (S' := T3.setTop (mkF m 251 #[.val (.int p0), .val (.long q1), .second, .val (.long q2), .second, .val (.long q3), .second, .val (.long q4), .second, .val (.int i9), .val (.int i10), .val (.int i11), .val (.int i12), .val (.int i13), .val (.ref s1), .val (.ref s2), .val (.int b16), .val (.long j17), .second, .val (.long l1), .second, .val (.long u1), .second, .val (.long j23), .second, .val (.long j25), .second, .val (.long (own_lmin j23 j25)), .second, .val (.long (own_lmax j23 j25)), .second, .unset, .unset, .unset, .unset] [])) (fun t ht => ?_) ?_
    · refine XS.ifYes X3.here hx rfl (pc0 := 246) (pc' := 251) rfl (hb hby at_246) rfl ((if0 _ _).trans (feq (hc5 : ¬ ((lcmpW (own_lmin j23 j25) (own_lmax j23 j25)) = (0 : Int32)))).2) (by decide) (by decide) ?_
      exact ht
    obtain ⟨T6, h6, X6, e6, E6, A6, D6, -, st6⟩ := newO X3 hx hZ hown (hw _ (List.mem_of_getElem? (i := 39) rfl)) (hw _ (List.mem_of_getElem? (i := 40) rfl)) (hw _ (List.mem_of_getElem? (i := 41) rfl)) hs3 (g := (mkF m 251 #[.val (.int p0), .val (.long q1), .second, .val (.long q2), .second, .val (.long q3), .second, .val (.long q4), .second, .val (.int i9), .val (.int i10), .val (.int i11), .val (.int i12), .val (.int i13), .val (.ref s1), .val (.ref s2), .val (.int b16), .val (.long j17), .second, .val (.long l1), .second, .val (.long u1), .second, .val (.long j23), .second, .val (.long j25), .second, .val (.long (own_lmin j23 j25)), .second, .val (.long (own_lmax j23 j25)), .second, .unset, .unset, .unset, .unset] [])) rfl (hb hby at_251) (by decide) (by decide)
    obtain ⟨b6, gq6⟩ : ∃ z, z = h0.size := ⟨_, rfl⟩
    rw [← gq6] at A6 D6 st6
    have g7 : n0 ≤ b6 := (Nat.le_trans Z0 (Nat.le_of_eq gq6.symm))
    have ne8 : s1 ≠ b6 := (Nat.ne_of_lt (Nat.lt_of_lt_of_le fa1.lt (Nat.le_of_eq gq6.symm)))
    have ne9 : t1 ≠ b6 := (Nat.ne_of_lt (Nat.lt_of_lt_of_le fa4.lt (Nat.le_of_eq gq6.symm)))
    have ne10 : s2 ≠ b6 := (Nat.ne_of_lt (Nat.lt_of_lt_of_le fa5.lt (Nat.le_of_eq gq6.symm)))
    have ne11 : t2 ≠ b6 := (Nat.ne_of_lt (Nat.lt_of_lt_of_le fa8.lt (Nat.le_of_eq gq6.symm)))
    have f12 := fa0.ext E6
    have f13 := fa1.ext E6
    have f14 := fa2.ext E6
    have f15 := fa3.ext E6
    have f16 := fa4.ext E6
    have f17 := fa5.ext E6
    have f18 := fa6.ext E6
    have f19 := fa7.ext E6
    have f20 := fa8.ext E6
    have Z21 : n0 ≤ h6.size := (Nat.le_trans Z0 E6.1)
    have f22 : Fld Z h6 b6 "com/example/greylag/greylag/model/Bundle" "namespace" "Ljava/lang/String;" .null := D6 (Or.inr (hw _ (List.mem_of_getElem? (i := 47) rfl))) (ty := (.object "java/lang/String")) (by decide)
    have f23 : Fld Z h6 b6 "com/example/greylag/greylag/model/Bundle" "lower" "J" (.long (0 : Int64)) := D6 (Or.inr (hw _ (List.mem_of_getElem? (i := 49) rfl))) (ty := .long) (by decide)
    have f24 : Fld Z h6 b6 "com/example/greylag/greylag/model/Bundle" "upper" "J" (.long (0 : Int64)) := D6 (Or.inr (hw _ (List.mem_of_getElem? (i := 51) rfl))) (ty := .long) (by decide)
    refine OFin.of (S' := T6.setTop (mkF m 254 #[.val (.int p0), .val (.long q1), .second, .val (.long q2), .second, .val (.long q3), .second, .val (.long q4), .second, .val (.int i9), .val (.int i10), .val (.int i11), .val (.int i12), .val (.int i13), .val (.ref s1), .val (.ref s2), .val (.int b16), .val (.long j17), .second, .val (.long l1), .second, .val (.long u1), .second, .val (.long j23), .second, .val (.long j25), .second, .val (.long (own_lmin j23 j25)), .second, .val (.long (own_lmax j23 j25)), .second, .unset, .unset, .unset, .unset] [(.ref b6)])) (fun t ht => st6 t ht) ?_
    refine OFin.of (S' := T6.setTop (mkF m 261 #[.val (.int p0), .val (.long q1), .second, .val (.long q2), .second, .val (.long q3), .second, .val (.long q4), .second, .val (.int i9), .val (.int i10), .val (.int i11), .val (.int i12), .val (.int i13), .val (.ref s1), .val (.ref s2), .val (.int b16), .val (.long j17), .second, .val (.long l1), .second, .val (.long u1), .second, .val (.long j23), .second, .val (.long j25), .second, .val (.long (own_lmin j23 j25)), .second, .val (.long (own_lmax j23 j25)), .second, .unset, .unset, .unset, .unset] [(.long u1), (.long l1), (.ref s1), (.ref b6), (.ref b6)])) (fun t ht => ?_) ?_
    · refine XS.dup X6.here hx rfl (hb hby at_254) rfl rfl ?_
      show Steps p.tables e below (T6.setTop (mkF m 255 _ [(.ref b6), (.ref b6)])) _
      refine XS.aload X6.here hx rfl (hb hby at_255) rfl rfl ?_
      show Steps p.tables e below (T6.setTop (mkF m 257 _ [(.ref s1), (.ref b6), (.ref b6)])) _
      refine XS.lload X6.here hx rfl (hb hby at_257) rfl ?_
      show Steps p.tables e below (T6.setTop (mkF m 259 _ [(.long l1), (.ref s1), (.ref b6), (.ref b6)])) _
      refine XS.lload X6.here hx rfl (hb hby at_259) rfl ?_
      exact ht
    obtain ⟨_, _, ⟨T25, L25, k25, n25⟩, -, X25, ⟨Lc25, hQ25, l25, y25, z25⟩, st25⟩ := X6.specialBack hx (y := (⟨"com/example/greylag/greylag/model/Bundle", "<init>", "(Ljava/lang/String;JJ)V"⟩ : MethodName)) rfl hown (mvT hZ (hw _ (List.mem_of_getElem? (i := 42) rfl))) (mvT hZ (hw _ (List.mem_of_getElem? (i := 43) rfl))) (mvT hZ (hw _ (List.mem_of_getElem? (i := 44) rfl))) (by decide) (backOf (W := 1) (rmIni l Z _ hw [] b6 s1 l1 u1 h6 n0 Z21 A6 f22 f23 f24 g7) hZ (hw _ (List.mem_of_getElem? (i := 44) rfl)) (hw _ (List.mem_of_getElem? (i := 41) rfl)) (by decide) (by decide)) (g := (mkF m 261 #[.val (.int p0), .val (.long q1), .second, .val (.long q2), .second, .val (.long q3), .second, .val (.long q4), .second, .val (.int i9), .val (.int i10), .val (.int i11), .val (.int i12), .val (.int i13), .val (.ref s1), .val (.ref s2), .val (.int b16), .val (.long j17), .second, .val (.long l1), .second, .val (.long u1), .second, .val (.long j23), .second, .val (.long j25), .second, .val (.long (own_lmin j23 j25)), .second, .val (.long (own_lmax j23 j25)), .second, .unset, .unset, .unset, .unset] [(.long u1), (.long l1), (.ref s1), (.ref b6), (.ref b6)])) rfl (by rw [hml]; rfl) (Steps.refl _) (a := b6) (argsL := [(.ref s1), (.long l1), (.long u1)]) (rest := [(.ref b6)]) (lenOf pd_7 rfl) rfl (by show 2 * 0 + _ ≤ _; exact Nat.le_of_eq rfl) (hb hby at_261) (fun _ _ => ⟨rfl, e6, (by decide : 8 + 0 ≤ _), (by decide : 25 + 0 ≤ _)⟩)
    dsimp only [Pt.U, Pt.locs, Pt.cells, Pt.slots] at X25 l25 y25 z25 st25 hQ25
    subst l25 y25 z25
    obtain ⟨rfl, Nq25, Kq25, f26, f27, f28⟩ := hQ25
    have N29 := Fr.app N4 Nq25
    have f30 := (own_staKeep f12 Kq25 (own_snS A6 own_sn0))
    have f31 := (f13.keep Kq25)
    have f32 := (f14.keep Kq25 (ninS ne8 nin0))
    have f33 := (f15.keep Kq25 (ninS ne8 nin0))
    have f34 := (f16.keep Kq25 (ninS ne9 nin0))
    have f35 := (f17.keep Kq25)
    have f36 := (f18.keep Kq25 (ninS ne10 nin0))
    have f37 := (f19.keep Kq25 (ninS ne10 nin0))
    have f38 := (f20.keep Kq25 (ninS ne11 nin0))
    have f39 := (A6.keep Kq25)
    have Z40 : n0 ≤ T25.heap.size := (Nat.le_trans Z21 Kq25.1)
    refine OFin.to (S' := T25.setTop (mkF m 264 #[.val (.int p0), .val (.long q1), .second, .val (.long q2), .second, .val (.long q3), .second, .val (.long q4), .second, .val (.int i9), .val (.int i10), .val (.int i11), .val (.int i12), .val (.int i13), .val (.ref s1), .val (.ref s2), .val (.int b16), .val (.long j17), .second, .val (.long l1), .second, .val (.long u1), .second, .val (.long j23), .second, .val (.long j25), .second, .val (.long (own_lmin j23 j25)), .second, .val (.long (own_lmax j23 j25)), .second, .unset, .unset, .unset, .unset] [(.ref b6)])) st25 ?_
    refine OFin.of (S' := T25.setTop (mkF m 266 #[.val (.int p0), .val (.long q1), .second, .val (.long q2), .second, .val (.long q3), .second, .val (.long q4), .second, .val (.int i9), .val (.int i10), .val (.int i11), .val (.int i12), .val (.int i13), .val (.ref s1), .val (.ref s2), .val (.int b16), .val (.long j17), .second, .val (.long l1), .second, .val (.long u1), .second, .val (.long j23), .second, .val (.long j25), .second, .val (.long (own_lmin j23 j25)), .second, .val (.long (own_lmax j23 j25)), .second, .val (.ref b6), .unset, .unset, .unset] [])) (fun t ht => ?_) ?_
    · refine XS.astore X25.here hx rfl (hb hby at_264) rfl rfl (l' := #[.val (.int p0), .val (.long q1), .second, .val (.long q2), .second, .val (.long q3), .second, .val (.long q4), .second, .val (.int i9), .val (.int i10), .val (.int i11), .val (.int i12), .val (.int i13), .val (.ref s1), .val (.ref s2), .val (.int b16), .val (.long j17), .second, .val (.long l1), .second, .val (.long u1), .second, .val (.long j23), .second, .val (.long j25), .second, .val (.long (own_lmin j23 j25)), .second, .val (.long (own_lmax j23 j25)), .second, .val (.ref b6), .unset, .unset, .unset]) rfl ?_
      exact ht
    obtain ⟨T41, h41, X41, e41, E41, A41, D41, -, st41⟩ := newO X25 hx hZ hown (hw _ (List.mem_of_getElem? (i := 39) rfl)) (hw _ (List.mem_of_getElem? (i := 40) rfl)) (hw _ (List.mem_of_getElem? (i := 41) rfl)) (rfl : T25.heap = T25.heap) (g := (mkF m 266 #[.val (.int p0), .val (.long q1), .second, .val (.long q2), .second, .val (.long q3), .second, .val (.long q4), .second, .val (.int i9), .val (.int i10), .val (.int i11), .val (.int i12), .val (.int i13), .val (.ref s1), .val (.ref s2), .val (.int b16), .val (.long j17), .second, .val (.long l1), .second, .val (.long u1), .second, .val (.long j23), .second, .val (.long j25), .second, .val (.long (own_lmin j23 j25)), .second, .val (.long (own_lmax j23 j25)), .second, .val (.ref b6), .unset, .unset, .unset] [])) rfl (hb hby at_266) (by decide) (by decide)
    obtain ⟨b41, gq41⟩ : ∃ z, z = T25.heap.size := ⟨_, rfl⟩
    rw [← gq41] at A41 D41 st41
    have g42 : n0 ≤ b41 := (Nat.le_trans Z40 (Nat.le_of_eq gq41.symm))
    have ne43 : s1 ≠ b41 := (Nat.ne_of_lt (Nat.lt_of_lt_of_le f31.lt (Nat.le_of_eq gq41.symm)))
    have ne44 : t1 ≠ b41 := (Nat.ne_of_lt (Nat.lt_of_lt_of_le f34.lt (Nat.le_of_eq gq41.symm)))
    have ne45 : s2 ≠ b41 := (Nat.ne_of_lt (Nat.lt_of_lt_of_le f35.lt (Nat.le_of_eq gq41.symm)))
    have ne46 : t2 ≠ b41 := (Nat.ne_of_lt (Nat.lt_of_lt_of_le f38.lt (Nat.le_of_eq gq41.symm)))
    have ne47 : b6 ≠ b41 := (Nat.ne_of_lt (Nat.lt_of_lt_of_le f39.lt (Nat.le_of_eq gq41.symm)))
    have f48 := f30.ext E41
    have f49 := f31.ext E41
    have f50 := f32.ext E41
    have f51 := f33.ext E41
    have f52 := f34.ext E41
    have f53 := f35.ext E41
    have f54 := f36.ext E41
    have f55 := f37.ext E41
    have f56 := f38.ext E41
    have f57 := f39.ext E41
    have f58 := f26.ext E41
    have f59 := f27.ext E41
    have f60 := f28.ext E41
    have Z61 : n0 ≤ h41.size := (Nat.le_trans Z40 E41.1)
    have f62 : Fld Z h41 b41 "com/example/greylag/greylag/model/Bundle" "namespace" "Ljava/lang/String;" .null := D41 (Or.inr (hw _ (List.mem_of_getElem? (i := 47) rfl))) (ty := (.object "java/lang/String")) (by decide)
    have f63 : Fld Z h41 b41 "com/example/greylag/greylag/model/Bundle" "lower" "J" (.long (0 : Int64)) := D41 (Or.inr (hw _ (List.mem_of_getElem? (i := 49) rfl))) (ty := .long) (by decide)
    have f64 : Fld Z h41 b41 "com/example/greylag/greylag/model/Bundle" "upper" "J" (.long (0 : Int64)) := D41 (Or.inr (hw _ (List.mem_of_getElem? (i := 51) rfl))) (ty := .long) (by decide)
    refine OFin.of (S' := T41.setTop (mkF m 269 #[.val (.int p0), .val (.long q1), .second, .val (.long q2), .second, .val (.long q3), .second, .val (.long q4), .second, .val (.int i9), .val (.int i10), .val (.int i11), .val (.int i12), .val (.int i13), .val (.ref s1), .val (.ref s2), .val (.int b16), .val (.long j17), .second, .val (.long l1), .second, .val (.long u1), .second, .val (.long j23), .second, .val (.long j25), .second, .val (.long (own_lmin j23 j25)), .second, .val (.long (own_lmax j23 j25)), .second, .val (.ref b6), .unset, .unset, .unset] [(.ref b41)])) (fun t ht => st41 t ht) ?_
    refine OFin.of (S' := T41.setTop (mkF m 276 #[.val (.int p0), .val (.long q1), .second, .val (.long q2), .second, .val (.long q3), .second, .val (.long q4), .second, .val (.int i9), .val (.int i10), .val (.int i11), .val (.int i12), .val (.int i13), .val (.ref s1), .val (.ref s2), .val (.int b16), .val (.long j17), .second, .val (.long l1), .second, .val (.long u1), .second, .val (.long j23), .second, .val (.long j25), .second, .val (.long (own_lmin j23 j25)), .second, .val (.long (own_lmax j23 j25)), .second, .val (.ref b6), .unset, .unset, .unset] [(.long (own_lmax j23 j25)), (.long (own_lmin j23 j25)), (.ref s2), (.ref b41), (.ref b41)])) (fun t ht => ?_) ?_
    · refine XS.dup X41.here hx rfl (hb hby at_269) rfl rfl ?_
      show Steps p.tables e below (T41.setTop (mkF m 270 _ [(.ref b41), (.ref b41)])) _
      refine XS.aload X41.here hx rfl (hb hby at_270) rfl rfl ?_
      show Steps p.tables e below (T41.setTop (mkF m 272 _ [(.ref s2), (.ref b41), (.ref b41)])) _
      refine XS.lload X41.here hx rfl (hb hby at_272) rfl ?_
      show Steps p.tables e below (T41.setTop (mkF m 274 _ [(.long (own_lmin j23 j25)), (.ref s2), (.ref b41), (.ref b41)])) _
      refine XS.lload X41.here hx rfl (hb hby at_274) rfl ?_
      exact ht
    obtain ⟨_, _, ⟨T65, L65, k65, n65⟩, -, X65, ⟨Lc65, hQ65, l65, y65, z65⟩, st65⟩ := X41.specialBack hx (y := (⟨"com/example/greylag/greylag/model/Bundle", "<init>", "(Ljava/lang/String;JJ)V"⟩ : MethodName)) rfl hown (mvT hZ (hw _ (List.mem_of_getElem? (i := 42) rfl))) (mvT hZ (hw _ (List.mem_of_getElem? (i := 43) rfl))) (mvT hZ (hw _ (List.mem_of_getElem? (i := 44) rfl))) (by decide) (backOf (W := 1) (rmIni l Z _ hw [] b41 s2 (own_lmin j23 j25) (own_lmax j23 j25) h41 n0 Z61 A41 f62 f63 f64 g42) hZ (hw _ (List.mem_of_getElem? (i := 44) rfl)) (hw _ (List.mem_of_getElem? (i := 41) rfl)) (by decide) (by decide)) (g := (mkF m 276 #[.val (.int p0), .val (.long q1), .second, .val (.long q2), .second, .val (.long q3), .second, .val (.long q4), .second, .val (.int i9), .val (.int i10), .val (.int i11), .val (.int i12), .val (.int i13), .val (.ref s1), .val (.ref s2), .val (.int b16), .val (.long j17), .second, .val (.long l1), .second, .val (.long u1), .second, .val (.long j23), .second, .val (.long j25), .second, .val (.long (own_lmin j23 j25)), .second, .val (.long (own_lmax j23 j25)), .second, .val (.ref b6), .unset, .unset, .unset] [(.long (own_lmax j23 j25)), (.long (own_lmin j23 j25)), (.ref s2), (.ref b41), (.ref b41)])) rfl (by rw [hml]; rfl) (Steps.refl _) (a := b41) (argsL := [(.ref s2), (.long (own_lmin j23 j25)), (.long (own_lmax j23 j25))]) (rest := [(.ref b41)]) (lenOf pd_7 rfl) rfl (by show 2 * 0 + _ ≤ _; exact Nat.le_of_eq rfl) (hb hby at_276) (fun _ _ => ⟨rfl, e41, (by decide : 9 + 0 ≤ _), (by decide : 28 + 0 ≤ _)⟩)
    dsimp only [Pt.U, Pt.locs, Pt.cells, Pt.slots] at X65 l65 y65 z65 st65 hQ65
    subst l65 y65 z65
    obtain ⟨rfl, Nq65, Kq65, f66, f67, f68⟩ := hQ65
    have N69 := Fr.app N29 Nq65
    have f70 := (own_staKeep f48 Kq65 (own_snS A41 own_sn0))
    have f71 := (f49.keep Kq65)
    have f72 := (f50.keep Kq65 (ninS ne43 nin0))
    have f73 := (f51.keep Kq65 (ninS ne43 nin0))
    have f74 := (f52.keep Kq65 (ninS ne44 nin0))
    have f75 := (f53.keep Kq65)
    have f76 := (f54.keep Kq65 (ninS ne45 nin0))
    have f77 := (f55.keep Kq65 (ninS ne45 nin0))
    have f78 := (f56.keep Kq65 (ninS ne46 nin0))
    have f79 := (f57.keep Kq65)
    have f80 := (f58.keep Kq65 (ninS ne47 nin0))
    have f81 := (f59.keep Kq65 (ninS ne47 nin0))
    have f82 := (f60.keep Kq65 (ninS ne47 nin0))
    have f83 := (A41.keep Kq65)
    have Z84 : n0 ≤ T65.heap.size := (Nat.le_trans Z61 Kq65.1)
    refine OFin.to (S' := T65.setTop (mkF m 279 #[.val (.int p0), .val (.long q1), .second, .val (.long q2), .second, .val (.long q3), .second, .val (.long q4), .second, .val (.int i9), .val (.int i10), .val (.int i11), .val (.int i12), .val (.int i13), .val (.ref s1), .val (.ref s2), .val (.int b16), .val (.long j17), .second, .val (.long l1), .second, .val (.long u1), .second, .val (.long j23), .second, .val (.long j25), .second, .val (.long (own_lmin j23 j25)), .second, .val (.long (own_lmax j23 j25)), .second, .val (.ref b6), .unset, .unset, .unset] [(.ref b41)])) st65 ?_
    refine OFin.of (S' := T65.setTop (mkF m 283 #[.val (.int p0), .val (.long q1), .second, .val (.long q2), .second, .val (.long q3), .second, .val (.long q4), .second, .val (.int i9), .val (.int i10), .val (.int i11), .val (.int i12), .val (.int i13), .val (.ref s1), .val (.ref s2), .val (.int b16), .val (.long j17), .second, .val (.long l1), .second, .val (.long u1), .second, .val (.long j23), .second, .val (.long j25), .second, .val (.long (own_lmin j23 j25)), .second, .val (.long (own_lmax j23 j25)), .second, .val (.ref b6), .val (.ref b41), .unset, .unset] [(.int b16)])) (fun t ht => ?_) ?_
    · refine XS.astore X65.here hx rfl (hb hby at_279) rfl rfl (l' := #[.val (.int p0), .val (.long q1), .second, .val (.long q2), .second, .val (.long q3), .second, .val (.long q4), .second, .val (.int i9), .val (.int i10), .val (.int i11), .val (.int i12), .val (.int i13), .val (.ref s1), .val (.ref s2), .val (.int b16), .val (.long j17), .second, .val (.long l1), .second, .val (.long u1), .second, .val (.long j23), .second, .val (.long j25), .second, .val (.long (own_lmin j23 j25)), .second, .val (.long (own_lmax j23 j25)), .second, .val (.ref b6), .val (.ref b41), .unset, .unset]) rfl ?_
      show Steps p.tables e below (T65.setTop (mkF m 281 #[.val (.int p0), .val (.long q1), .second, .val (.long q2), .second, .val (.long q3), .second, .val (.long q4), .second, .val (.int i9), .val (.int i10), .val (.int i11), .val (.int i12), .val (.int i13), .val (.ref s1), .val (.ref s2), .val (.int b16), .val (.long j17), .second, .val (.long l1), .second, .val (.long u1), .second, .val (.long j23), .second, .val (.long j25), .second, .val (.long (own_lmin j23 j25)), .second, .val (.long (own_lmax j23 j25)), .second, .val (.ref b6), .val (.ref b41), .unset, .unset] [])) _
      refine XS.iload X65.here hx rfl (hb hby at_281) rfl ?_
      exact ht
    by_cases hc85 : b16 = (0 : Int32)
    · refine OFin.of (S' := T65.setTop (mkF m 361 #[.val (.int p0), .val (.long q1), .second, .val (.long q2), .second, .val (.long q3), .second, .val (.long q4), .second, .val (.int i9), .val (.int i10), .val (.int i11), .val (.int i12), .val (.int i13), .val (.ref s1), .val (.ref s2), .val (.int b16), .val (.long j17), .second, .val (.long l1), .second, .val (.long u1), .second, .val (.long j23), .second, .val (.long j25), .second, .val (.long (own_lmin j23 j25)), .second, .val (.long (own_lmax j23 j25)), .second, .val (.ref b6), .val (.ref b41), .val (.int (0 : Int32)), .val (.int (0 : Int32))] [(.ref b41), (.ref b6)])) (fun t ht => ?_) ?_
      · refine XS.ifYes X65.here hx rfl (pc0 := 283) (pc' := 316) rfl (hb hby at_283) rfl ((if0 _ _).trans (teq (hc85 : b16 = (0 : Int32))).1) (by decide) (by decide) ?_
        show Steps p.tables e below (T65.setTop (mkF m 316 _ [])) _
        refine XS.iconst X65.here hx rfl (hb hby at_316) ?_
        show Steps p.tables e below (T65.setTop (mkF m 317 _ [(.int (0 : Int32))])) _
        refine XS.istore X65.here hx rfl (hb hby at_317) rfl (l' := #[.val (.int p0), .val (.long q1), .second, .val (.long q2), .second, .val (.long q3), .second, .val (.long q4), .second, .val (.int i9), .val (.int i10), .val (.int i11), .val (.int i12), .val (.int i13), .val (.ref s1), .val (.ref s2), .val (.int b16), .val (.long j17), .second, .val (.long l1), .second, .val (.long u1), .second, .val (.long j23), .second, .val (.long j25), .second, .val (.long (own_lmin j23 j25)), .second, .val (.long (own_lmax j23 j25)), .second, .val (.ref b6), .val (.ref b41), .val (.int (0 : Int32)), .unset]) rfl ?_
        show Steps p.tables e below (T65.setTop (mkF m 319 #[.val (.int p0), .val (.long q1), .second, .val (.long q2), .second, .val (.long q3), .second, .val (.long q4), .second, .val (.int i9), .val (.int i10), .val (.int i11), .val (.int i12), .val (.int i13), .val (.ref s1), .val (.ref s2), .val (.int b16), .val (.long j17), .second, .val (.long l1), .second, .val (.long u1), .second, .val (.long j23), .second, .val (.long j25), .second, .val (.long (own_lmin j23 j25)), .second, .val (.long (own_lmax j23 j25)), .second, .val (.ref b6), .val (.ref b41), .val (.int (0 : Int32)), .unset] [])) _
        refine XS.iload X65.here hx rfl (hb hby at_319) rfl ?_
        show Steps p.tables e below (T65.setTop (mkF m 321 _ [(.int b16)])) _
        refine XS.ifYes X65.here hx rfl (pc0 := 321) (pc' := 354) rfl (hb hby at_321) rfl ((if0 _ _).trans (teq (hc85 : b16 = (0 : Int32))).1) (by decide) (by decide) ?_
        show Steps p.tables e below (T65.setTop (mkF m 354 _ [])) _
        refine XS.iconst X65.here hx rfl (hb hby at_354) ?_
        show Steps p.tables e below (T65.setTop (mkF m 355 _ [(.int (0 : Int32))])) _
        refine XS.istore X65.here hx rfl (hb hby at_355) rfl (l' := #[.val (.int p0), .val (.long q1), .second, .val (.long q2), .second, .val (.long q3), .second, .val (.long q4), .second, .val (.int i9), .val (.int i10), .val (.int i11), .val (.int i12), .val (.int i13), .val (.ref s1), .val (.ref s2), .val (.int b16), .val (.long j17), .second, .val (.long l1), .second, .val (.long u1), .second, .val (.long j23), .second, .val (.long j25), .second, .val (.long (own_lmin j23 j25)), .second, .val (.long (own_lmax j23 j25)), .second, .val (.ref b6), .val (.ref b41), .val (.int (0 : Int32)), .val (.int (0 : Int32))]) rfl ?_
        show Steps p.tables e below (T65.setTop (mkF m 357 #[.val (.int p0), .val (.long q1), .second, .val (.long q2), .second, .val (.long q3), .second, .val (.long q4), .second, .val (.int i9), .val (.int i10), .val (.int i11), .val (.int i12), .val (.int i13), .val (.ref s1), .val (.ref s2), .val (.int b16), .val (.long j17), .second, .val (.long l1), .second, .val (.long u1), .second, .val (.long j23), .second, .val (.long j25), .second, .val (.long (own_lmin j23 j25)), .second, .val (.long (own_lmax j23 j25)), .second, .val (.ref b6), .val (.ref b41), .val (.int (0 : Int32)), .val (.int (0 : Int32))] [])) _
        refine XS.aload X65.here hx rfl (hb hby at_357) rfl rfl ?_
        show Steps p.tables e below (T65.setTop (mkF m 359 _ [(.ref b6)])) _
        refine XS.aload X65.here hx rfl (hb hby at_359) rfl rfl ?_
        exact ht
      obtain ⟨cq87, kq87, q87a, q87b, q87c⟩ := isOf hZ (rfl : T65.heap = T65.heap) f79
      obtain ⟨_, _, ⟨T86, L86, k86, n86⟩, -, X86, ⟨Lc86, hQ86, l86, y86, z86⟩, st86⟩ := X65.virtualBack hx (y := (⟨"com/example/greylag/greylag/model/Bundle", "contains", "(Lcom/example/greylag/greylag/model/Bundle;)Z"⟩ : MethodName)) (z := (⟨"com/example/greylag/greylag/model/Bundle", "contains", "(Lcom/example/greylag/greylag/model/Bundle;)Z"⟩ : MethodName)) hown (mvT hZ (hw _ (List.mem_of_getElem? (i := 52) rfl))) (mvT hZ (hw _ (List.mem_of_getElem? (i := 53) rfl))) (notFace_of_selects (args := #[]) (mvT hZ (hw _ (List.mem_of_getElem? (i := 55) rfl)))) (mvT hZ (hw _ (List.mem_of_getElem? (i := 55) rfl))) (mvT hZ (hw _ (List.mem_of_getElem? (i := 54) rfl))) (by decide) (backOf (W := 0) (rmCo21 l Z _ hw [] b6 b41 s1 s2 l1 u1 (own_lmin j23 j25) (own_lmax j23 j25) (0 : Int32) T65.heap n0 Z84 f80 f66 f81 f67 f82 f68 f71 (rmEq21 l Z _ hw [] s1 s2 t1 t2 k1 k2 cs x0 x1 y0 T65.heap n0 Z84 f75 f72 f76 f73 f77 f74 f78 f70 hcs na0)) hZ (hw _ (List.mem_of_getElem? (i := 56) rfl)) (hw _ (List.mem_of_getElem? (i := 41) rfl)) (by decide) (by decide)) q87a q87c (g := (mkF m 361 #[.val (.int p0), .val (.long q1), .second, .val (.long q2), .second, .val (.long q3), .second, .val (.long q4), .second, .val (.int i9), .val (.int i10), .val (.int i11), .val (.int i12), .val (.int i13), .val (.ref s1), .val (.ref s2), .val (.int b16), .val (.long j17), .second, .val (.long l1), .second, .val (.long u1), .second, .val (.long j23), .second, .val (.long j25), .second, .val (.long (own_lmin j23 j25)), .second, .val (.long (own_lmax j23 j25)), .second, .val (.ref b6), .val (.ref b41), .val (.int (0 : Int32)), .val (.int (0 : Int32))] [(.ref b41), (.ref b6)])) rfl (by rw [hml]; rfl) (Steps.refl _) (argsL := [(.ref b41)]) (rest := []) (lenOf pd_8 rfl) rfl (by show 2 * 0 + _ ≤ _; exact Nat.le_of_eq rfl) (hb hby at_361) (fun _ _ => ⟨rfl, (rfl : T65.heap = T65.heap), (by decide : 9 + 0 ≤ _), (by decide : 28 + 0 ≤ _)⟩)
      dsimp only [Pt.U, Pt.locs, Pt.cells, Pt.slots] at X86 l86 y86 z86 st86 hQ86
      subst l86 y86 z86
      obtain ⟨rfl, Nq86, hs86⟩ := hQ86
      have N88 := Fr.app N69 Nq86
      refine OFin.to (S' := T86.setTop (mkF m 364 #[.val (.int p0), .val (.long q1), .second, .val (.long q2), .second, .val (.long q3), .second, .val (.long q4), .second, .val (.int i9), .val (.int i10), .val (.int i11), .val (.int i12), .val (.int i13), .val (.ref s1), .val (.ref s2), .val (.int b16), .val (.long j17), .second, .val (.long l1), .second, .val (.long u1), .second, .val (.long j23), .second, .val (.long j25), .second, .val (.long (own_lmin j23 j25)), .second, .val (.long (own_lmax j23 j25)), .second, .val (.ref b6), .val (.ref b41), .val (.int (0 : Int32)), .val (.int (0 : Int32))] [(.int (own_cont (0 : Int32) l1 u1 (own_lmin j23 j25) (own_lmax j23 j25)))])) st86 ?_
      refine OFin.of (S' := T86.setTop (mkF m 373 #[.val (.int p0), .val (.long q1), .second, .val (.long q2), .second, .val (.long q3), .second, .val (.long q4), .second, .val (.int i9), .val (.int i10), .val (.int i11), .val (.int i12), .val (.int i13), .val (.ref s1), .val (.ref s2), .val (.int b16), .val (.long j17), .second, .val (.long l1), .second, .val (.long u1), .second, .val (.long j23), .second, .val (.long j25), .second, .val (.long (own_lmin j23 j25)), .second, .val (.long (own_lmax j23 j25)), .second, .val (.ref b6), .val (.ref b41), .val (.int (0 : Int32)), .val (.int (0 : Int32))] [(.ref b6), (.ref b41)])) (fun t ht => ?_) ?_
      · refine XS.iload X86.here hx rfl (hb hby at_364) rfl ?_
        show Steps p.tables e below (T86.setTop (mkF m 366 _ [(.int (0 : Int32)), (.int (own_cont (0 : Int32) l1 u1 (own_lmin j23 j25) (own_lmax j23 j25)))])) _
        refine XS.icmpNo X86.here hx rfl (hb hby at_366) rfl (teq (own_t0 hE hc85 : (own_cont (0 : Int32) l1 u1 (own_lmin j23 j25) (own_lmax j23 j25)) = (0 : Int32))).2 ?_
        show Steps p.tables e below (T86.setTop (mkF m 369 _ [])) _
        refine XS.aload X86.here hx rfl (hb hby at_369) rfl rfl ?_
        show Steps p.tables e below (T86.setTop (mkF m 371 _ [(.ref b41)])) _
        refine XS.aload X86.here hx rfl (hb hby at_371) rfl rfl ?_
        exact ht
      obtain ⟨cq90, kq90, q90a, q90b, q90c⟩ := isOf hZ hs86 f83
      obtain ⟨_, _, ⟨T89, L89, k89, n89⟩, -, X89, ⟨Lc89, hQ89, l89, y89, z89⟩, st89⟩ := X86.virtualBack hx (y := (⟨"com/example/greylag/greylag/model/Bundle", "contains", "(Lcom/example/greylag/greylag/model/Bundle;)Z"⟩ : MethodName)) (z := (⟨"com/example/greylag/greylag/model/Bundle", "contains", "(Lcom/example/greylag/greylag/model/Bundle;)Z"⟩ : MethodName)) hown (mvT hZ (hw _ (List.mem_of_getElem? (i := 52) rfl))) (mvT hZ (hw _ (List.mem_of_getElem? (i := 53) rfl))) (notFace_of_selects (args := #[]) (mvT hZ (hw _ (List.mem_of_getElem? (i := 55) rfl)))) (mvT hZ (hw _ (List.mem_of_getElem? (i := 55) rfl))) (mvT hZ (hw _ (List.mem_of_getElem? (i := 54) rfl))) (by decide) (backOf (W := 0) (rmCo12 l Z _ hw [] b41 b6 s2 s1 (own_lmin j23 j25) (own_lmax j23 j25) l1 u1 (0 : Int32) T65.heap n0 Z84 f66 f80 f67 f81 f68 f82 f75 (rmEq12 l Z _ hw [] s2 s1 t2 t1 k2 k1 cs y0 x0 x1 T65.heap n0 Z84 f71 f76 f72 f77 f73 f78 f74 f70 hcs (Ne.symm na0))) hZ (hw _ (List.mem_of_getElem? (i := 56) rfl)) (hw _ (List.mem_of_getElem? (i := 41) rfl)) (by decide) (by decide)) q90a q90c (g := (mkF m 373 #[.val (.int p0), .val (.long q1), .second, .val (.long q2), .second, .val (.long q3), .second, .val (.long q4), .second, .val (.int i9), .val (.int i10), .val (.int i11), .val (.int i12), .val (.int i13), .val (.ref s1), .val (.ref s2), .val (.int b16), .val (.long j17), .second, .val (.long l1), .second, .val (.long u1), .second, .val (.long j23), .second, .val (.long j25), .second, .val (.long (own_lmin j23 j25)), .second, .val (.long (own_lmax j23 j25)), .second, .val (.ref b6), .val (.ref b41), .val (.int (0 : Int32)), .val (.int (0 : Int32))] [(.ref b6), (.ref b41)])) rfl (by rw [hml]; rfl) (Steps.refl _) (argsL := [(.ref b6)]) (rest := []) (lenOf pd_8 rfl) rfl (by show 2 * 0 + _ ≤ _; exact Nat.le_of_eq rfl) (hb hby at_373) (fun _ _ => ⟨rfl, hs86, (by decide : 9 + 0 ≤ _), (by decide : 28 + 0 ≤ _)⟩)
      dsimp only [Pt.U, Pt.locs, Pt.cells, Pt.slots] at X89 l89 y89 z89 st89 hQ89
      subst l89 y89 z89
      obtain ⟨rfl, Nq89, hs89⟩ := hQ89
      have N91 := Fr.app N88 Nq89
      refine OFin.to (S' := T89.setTop (mkF m 376 #[.val (.int p0), .val (.long q1), .second, .val (.long q2), .second, .val (.long q3), .second, .val (.long q4), .second, .val (.int i9), .val (.int i10), .val (.int i11), .val (.int i12), .val (.int i13), .val (.ref s1), .val (.ref s2), .val (.int b16), .val (.long j17), .second, .val (.long l1), .second, .val (.long u1), .second, .val (.long j23), .second, .val (.long j25), .second, .val (.long (own_lmin j23 j25)), .second, .val (.long (own_lmax j23 j25)), .second, .val (.ref b6), .val (.ref b41), .val (.int (0 : Int32)), .val (.int (0 : Int32))] [(.int (own_cont (0 : Int32) (own_lmin j23 j25) (own_lmax j23 j25) l1 u1))])) st89 ?_
      refine OFin.of (S' := T89.setTop (mkF m 385 #[.val (.int p0), .val (.long q1), .second, .val (.long q2), .second, .val (.long q3), .second, .val (.long q4), .second, .val (.int i9), .val (.int i10), .val (.int i11), .val (.int i12), .val (.int i13), .val (.ref s1), .val (.ref s2), .val (.int b16), .val (.long j17), .second, .val (.long l1), .second, .val (.long u1), .second, .val (.long j23), .second, .val (.long j25), .second, .val (.long (own_lmin j23 j25)), .second, .val (.long (own_lmax j23 j25)), .second, .val (.ref b6), .val (.ref b41), .val (.int (0 : Int32)), .val (.int (0 : Int32))] [(.ref b41), (.ref b41)])) (fun t ht => ?_) ?_
      · refine XS.iload X89.here hx rfl (hb hby at_376) rfl ?_
        show Steps p.tables e below (T89.setTop (mkF m 378 _ [(.int (0 : Int32)), (.int (own_cont (0 : Int32) (own_lmin j23 j25) (own_lmax j23 j25) l1 u1))])) _
        refine XS.icmpNo X89.here hx rfl (hb hby at_378) rfl (teq (own_v0 hE hE2 hc85 : (own_cont (0 : Int32) (own_lmin j23 j25) (own_lmax j23 j25) l1 u1) = (0 : Int32))).2 ?_
        show Steps p.tables e below (T89.setTop (mkF m 381 _ [])) _
        refine XS.aload X89.here hx rfl (hb hby at_381) rfl rfl ?_
        show Steps p.tables e below (T89.setTop (mkF m 383 _ [(.ref b41)])) _
        refine XS.aload X89.here hx rfl (hb hby at_383) rfl rfl ?_
        exact ht
      obtain ⟨cq93, kq93, q93a, q93b, q93c⟩ := isOf hZ hs89 f83
      obtain ⟨_, _, ⟨T92, L92, k92, n92⟩, -, X92, ⟨Lc92, hQ92, l92, y92, z92⟩, st92⟩ := X89.virtualBack hx (y := (⟨"com/example/greylag/greylag/model/Bundle", "contains", "(Lcom/example/greylag/greylag/model/Bundle;)Z"⟩ : MethodName)) (z := (⟨"com/example/greylag/greylag/model/Bundle", "contains", "(Lcom/example/greylag/greylag/model/Bundle;)Z"⟩ : MethodName)) hown (mvT hZ (hw _ (List.mem_of_getElem? (i := 52) rfl))) (mvT hZ (hw _ (List.mem_of_getElem? (i := 53) rfl))) (notFace_of_selects (args := #[]) (mvT hZ (hw _ (List.mem_of_getElem? (i := 55) rfl)))) (mvT hZ (hw _ (List.mem_of_getElem? (i := 55) rfl))) (mvT hZ (hw _ (List.mem_of_getElem? (i := 54) rfl))) (by decide) (backOf (W := 0) (rmCos l Z _ hw [] b41 b41 s2 (own_lmin j23 j25) (own_lmax j23 j25) (own_lmin j23 j25) (own_lmax j23 j25) (1 : Int32) T65.heap n0 Z84 f66 f66 f67 f67 f68 f68 f75 (rmEs l Z _ hw [] s2 T65.heap n0 Z84)) hZ (hw _ (List.mem_of_getElem? (i := 56) rfl)) (hw _ (List.mem_of_getElem? (i := 41) rfl)) (by decide) (by decide)) q93a q93c (g := (mkF m 385 #[.val (.int p0), .val (.long q1), .second, .val (.long q2), .second, .val (.long q3), .second, .val (.long q4), .second, .val (.int i9), .val (.int i10), .val (.int i11), .val (.int i12), .val (.int i13), .val (.ref s1), .val (.ref s2), .val (.int b16), .val (.long j17), .second, .val (.long l1), .second, .val (.long u1), .second, .val (.long j23), .second, .val (.long j25), .second, .val (.long (own_lmin j23 j25)), .second, .val (.long (own_lmax j23 j25)), .second, .val (.ref b6), .val (.ref b41), .val (.int (0 : Int32)), .val (.int (0 : Int32))] [(.ref b41), (.ref b41)])) rfl (by rw [hml]; rfl) (Steps.refl _) (argsL := [(.ref b41)]) (rest := []) (lenOf pd_8 rfl) rfl (by show 2 * 0 + _ ≤ _; exact Nat.le_of_eq rfl) (hb hby at_385) (fun _ _ => ⟨rfl, hs89, (by decide : 9 + 0 ≤ _), (by decide : 28 + 0 ≤ _)⟩)
      dsimp only [Pt.U, Pt.locs, Pt.cells, Pt.slots] at X92 l92 y92 z92 st92 hQ92
      subst l92 y92 z92
      obtain ⟨rfl, Nq92, hs92⟩ := hQ92
      have N94 := Fr.app N91 Nq92
      refine OFin.to (S' := T92.setTop (mkF m 388 #[.val (.int p0), .val (.long q1), .second, .val (.long q2), .second, .val (.long q3), .second, .val (.long q4), .second, .val (.int i9), .val (.int i10), .val (.int i11), .val (.int i12), .val (.int i13), .val (.ref s1), .val (.ref s2), .val (.int b16), .val (.long j17), .second, .val (.long l1), .second, .val (.long u1), .second, .val (.long j23), .second, .val (.long j25), .second, .val (.long (own_lmin j23 j25)), .second, .val (.long (own_lmax j23 j25)), .second, .val (.ref b6), .val (.ref b41), .val (.int (0 : Int32)), .val (.int (0 : Int32))] [(.int (own_cont (1 : Int32) (own_lmin j23 j25) (own_lmax j23 j25) (own_lmin j23 j25) (own_lmax j23 j25)))])) st92 ?_
      refine OFin.of (S' := T92.setTop (mkF m 396 #[.val (.int p0), .val (.long q1), .second, .val (.long q2), .second, .val (.long q3), .second, .val (.long q4), .second, .val (.int i9), .val (.int i10), .val (.int i11), .val (.int i12), .val (.int i13), .val (.ref s1), .val (.ref s2), .val (.int b16), .val (.long j17), .second, .val (.long l1), .second, .val (.long u1), .second, .val (.long j23), .second, .val (.long j25), .second, .val (.long (own_lmin j23 j25)), .second, .val (.long (own_lmax j23 j25)), .second, .val (.ref b6), .val (.ref b41), .val (.int (0 : Int32)), .val (.int (0 : Int32))] [(.int (1 : Int32))])) (fun t ht => ?_) ?_
      · refine XS.ifNo X92.here hx rfl (hb hby at_388) rfl ((if0 _ _).trans (feq (own_r3 _ _ : ¬ ((own_cont (1 : Int32) (own_lmin j23 j25) (own_lmax j23 j25) (own_lmin j23 j25) (own_lmax j23 j25)) = (0 : Int32)))).1) ?_
        show Steps p.tables e below (T92.setTop (mkF m 391 _ [])) _
        refine XS.iconst X92.here hx rfl (hb hby at_391) ?_
        show Steps p.tables e below (T92.setTop (mkF m 392 _ [(.int (1 : Int32))])) _
        refine XS.goto X92.here hx rfl (pc0 := 392) (pc' := 396) rfl (hb hby at_392) (by decide) (by decide) ?_
        exact ht
      exact OFin.retB X92 hx hlk (t := .boolean) (by simp) hret (hb hby at_396) (by decide) (by decide) (by rw [hs92]; exact hQ _ _ N94)
    · refine OFin.of (S' := T65.setTop (mkF m 290 #[.val (.int p0), .val (.long q1), .second, .val (.long q2), .second, .val (.long q3), .second, .val (.long q4), .second, .val (.int i9), .val (.int i10), .val (.int i11), .val (.int i12), .val (.int i13), .val (.ref s1), .val (.ref s2), .val (.int b16), .val (.long j17), .second, .val (.long l1), .second, .val (.long u1), .second, .val (.long j23), .second, .val (.long j25), .second, .val (.long (own_lmin j23 j25)), .second, .val (.long (own_lmax j23 j25)), .second, .val (.ref b6), .val (.ref b41), .unset, .unset] [(.long (own_lmin j23 j25)), (.long l1)])) (fun t ht => ?_) ?_
      · refine XS.ifNo X65.here hx rfl (hb hby at_283) rfl ((if0 _ _).trans (feq (hc85 : ¬ (b16 = (0 : Int32)))).1) ?_
        show Steps p.tables e below (T65.setTop (mkF m 286 _ [])) _
        refine XS.lload X65.here hx rfl (hb hby at_286) rfl ?_
        show Steps p.tables e below (T65.setTop (mkF m 288 _ [(.long l1)])) _
        refine XS.lload X65.here hx rfl (hb hby at_288) rfl ?_
        exact ht
      obtain ⟨_, _, ⟨T95, L95, k95, n95⟩, -, X95, ⟨Lc95, hQ95, l95, y95, z95⟩, st95⟩ := Jvm.LawKit.callS X65 hx (y := (⟨"java/lang/Math", "min", "(JJ)J"⟩ : MethodName)) hown (mvT hZ (hw _ (List.mem_of_getElem? (i := 32) rfl))) (mvT hZ (hw _ (List.mem_of_getElem? (i := 33) rfl))) (mvT hZ (hw _ (List.mem_of_getElem? (i := 34) rfl))) (mvT hZ (hw _ (List.mem_of_getElem? (i := 35) rfl))) (by decide) (backOf (W := 0) (rmMn l Z _ hw [] l1 (own_lmin j23 j25) T65.heap n0 Z84 ) hZ (hw _ (List.mem_of_getElem? (i := 35) rfl)) (hw _ (List.mem_of_getElem? (i := 34) rfl)) (by decide) (by decide)) (g := (mkF m 290 #[.val (.int p0), .val (.long q1), .second, .val (.long q2), .second, .val (.long q3), .second, .val (.long q4), .second, .val (.int i9), .val (.int i10), .val (.int i11), .val (.int i12), .val (.int i13), .val (.ref s1), .val (.ref s2), .val (.int b16), .val (.long j17), .second, .val (.long l1), .second, .val (.long u1), .second, .val (.long j23), .second, .val (.long j25), .second, .val (.long (own_lmin j23 j25)), .second, .val (.long (own_lmax j23 j25)), .second, .val (.ref b6), .val (.ref b41), .unset, .unset] [(.long (own_lmin j23 j25)), (.long l1)])) rfl (by rw [hml]; rfl) (argsL := [(.long l1), (.long (own_lmin j23 j25))]) (rest := []) (lenOf pd_6 rfl) rfl (by show 2 * 0 + _ ≤ _; exact Nat.le_of_eq rfl) (hb hby at_290) (fun _ _ => ⟨rfl, (rfl : T65.heap = T65.heap), (by decide : 9 + 0 ≤ _), (by decide : 28 + 0 ≤ _)⟩)
      dsimp only [Pt.U, Pt.locs, Pt.cells, Pt.slots] at X95 l95 y95 z95 st95 hQ95
      subst l95 y95 z95
      obtain ⟨rfl, Nq95, hs95⟩ := hQ95
      have N96 := Fr.app N69 Nq95
      refine OFin.of (S' := T95.setTop (mkF m 293 #[.val (.int p0), .val (.long q1), .second, .val (.long q2), .second, .val (.long q3), .second, .val (.long q4), .second, .val (.int i9), .val (.int i10), .val (.int i11), .val (.int i12), .val (.int i13), .val (.ref s1), .val (.ref s2), .val (.int b16), .val (.long j17), .second, .val (.long l1), .second, .val (.long u1), .second, .val (.long j23), .second, .val (.long j25), .second, .val (.long (own_lmin j23 j25)), .second, .val (.long (own_lmax j23 j25)), .second, .val (.ref b6), .val (.ref b41), .unset, .unset] [(.long (own_lmin l1 (own_lmin j23 j25)))])) (fun t ht => st95 t ht) ?_
      refine OFin.of (S' := T95.setTop (mkF m 296 #[.val (.int p0), .val (.long q1), .second, .val (.long q2), .second, .val (.long q3), .second, .val (.long q4), .second, .val (.int i9), .val (.int i10), .val (.int i11), .val (.int i12), .val (.int i13), .val (.ref s1), .val (.ref s2), .val (.int b16), .val (.long j17), .second, .val (.long l1), .second, .val (.long u1), .second, .val (.long j23), .second, .val (.long j25), .second, .val (.long (own_lmin j23 j25)), .second, .val (.long (own_lmax j23 j25)), .second, .val (.ref b6), .val (.ref b41), .unset, .unset] [(.int (lcmpW (own_lmin l1 (own_lmin j23 j25)) l1))])) (fun t ht => ?_) ?_
      · refine XS.lload X95.here hx rfl (hb hby at_293) rfl ?_
        show Steps p.tables e below (T95.setTop (mkF m 295 _ [(.long l1), (.long (own_lmin l1 (own_lmin j23 j25)))])) _
        refine XS.lcmp X95.here hx rfl (hb hby at_295) rfl ?_
        exact ht
      by_cases hc97 : (lcmpW (own_lmin l1 (own_lmin j23 j25)) l1) = (0 : Int32)
      · refine OFin.of (S' := T95.setTop (mkF m 303 #[.val (.int p0), .val (.long q1), .second, .val (.long q2), .second, .val (.long q3), .second, .val (.long q4), .second, .val (.int i9), .val (.int i10), .val (.int i11), .val (.int i12), .val (.int i13), .val (.ref s1), .val (.ref s2), .val (.int b16), .val (.long j17), .second, .val (.long l1), .second, .val (.long u1), .second, .val (.long j23), .second, .val (.long j25), .second, .val (.long (own_lmin j23 j25)), .second, .val (.long (own_lmax j23 j25)), .second, .val (.ref b6), .val (.ref b41), .unset, .unset] [(.long (own_lmax j23 j25)), (.long u1)])) (fun t ht => ?_) ?_
        · refine XS.ifNo X95.here hx rfl (hb hby at_296) rfl ((if0 _ _).trans (teq (hc97 : (lcmpW (own_lmin l1 (own_lmin j23 j25)) l1) = (0 : Int32))).2) ?_
          show Steps p.tables e below (T95.setTop (mkF m 299 _ [])) _
          refine XS.lload X95.here hx rfl (hb hby at_299) rfl ?_
          show Steps p.tables e below (T95.setTop (mkF m 301 _ [(.long u1)])) _
          refine XS.lload X95.here hx rfl (hb hby at_301) rfl ?_
          exact ht
        obtain ⟨_, _, ⟨T98, L98, k98, n98⟩, -, X98, ⟨Lc98, hQ98, l98, y98, z98⟩, st98⟩ := Jvm.LawKit.callS X95 hx (y := (⟨"java/lang/Math", "max", "(JJ)J"⟩ : MethodName)) hown (mvT hZ (hw _ (List.mem_of_getElem? (i := 36) rfl))) (mvT hZ (hw _ (List.mem_of_getElem? (i := 37) rfl))) (mvT hZ (hw _ (List.mem_of_getElem? (i := 34) rfl))) (mvT hZ (hw _ (List.mem_of_getElem? (i := 38) rfl))) (by decide) (backOf (W := 0) (rmMx l Z _ hw [] u1 (own_lmax j23 j25) T65.heap n0 Z84 ) hZ (hw _ (List.mem_of_getElem? (i := 38) rfl)) (hw _ (List.mem_of_getElem? (i := 34) rfl)) (by decide) (by decide)) (g := (mkF m 303 #[.val (.int p0), .val (.long q1), .second, .val (.long q2), .second, .val (.long q3), .second, .val (.long q4), .second, .val (.int i9), .val (.int i10), .val (.int i11), .val (.int i12), .val (.int i13), .val (.ref s1), .val (.ref s2), .val (.int b16), .val (.long j17), .second, .val (.long l1), .second, .val (.long u1), .second, .val (.long j23), .second, .val (.long j25), .second, .val (.long (own_lmin j23 j25)), .second, .val (.long (own_lmax j23 j25)), .second, .val (.ref b6), .val (.ref b41), .unset, .unset] [(.long (own_lmax j23 j25)), (.long u1)])) rfl (by rw [hml]; rfl) (argsL := [(.long u1), (.long (own_lmax j23 j25))]) (rest := []) (lenOf pd_6 rfl) rfl (by show 2 * 0 + _ ≤ _; exact Nat.le_of_eq rfl) (hb hby at_303) (fun _ _ => ⟨rfl, hs95, (by decide : 9 + 0 ≤ _), (by decide : 28 + 0 ≤ _)⟩)
        dsimp only [Pt.U, Pt.locs, Pt.cells, Pt.slots] at X98 l98 y98 z98 st98 hQ98
        subst l98 y98 z98
        obtain ⟨rfl, Nq98, hs98⟩ := hQ98
        have N99 := Fr.app N96 Nq98
        refine OFin.of (S' := T98.setTop (mkF m 306 #[.val (.int p0), .val (.long q1), .second, .val (.long q2), .second, .val (.long q3), .second, .val (.long q4), .second, .val (.int i9), .val (.int i10), .val (.int i11), .val (.int i12), .val (.int i13), .val (.ref s1), .val (.ref s2), .val (.int b16), .val (.long j17), .second, .val (.long l1), .second, .val (.long u1), .second, .val (.long j23), .second, .val (.long j25), .second, .val (.long (own_lmin j23 j25)), .second, .val (.long (own_lmax j23 j25)), .second, .val (.ref b6), .val (.ref b41), .unset, .unset] [(.long (own_lmax u1 (own_lmax j23 j25)))])) (fun t ht => st98 t ht) ?_
        refine OFin.of (S' := T98.setTop (mkF m 309 #[.val (.int p0), .val (.long q1), .second, .val (.long q2), .second, .val (.long q3), .second, .val (.long q4), .second, .val (.int i9), .val (.int i10), .val (.int i11), .val (.int i12), .val (.int i13), .val (.ref s1), .val (.ref s2), .val (.int b16), .val (.long j17), .second, .val (.long l1), .second, .val (.long u1), .second, .val (.long j23), .second, .val (.long j25), .second, .val (.long (own_lmin j23 j25)), .second, .val (.long (own_lmax j23 j25)), .second, .val (.ref b6), .val (.ref b41), .unset, .unset] [(.int (lcmpW (own_lmax u1 (own_lmax j23 j25)) u1))])) (fun t ht => ?_) ?_
        · refine XS.lload X98.here hx rfl (hb hby at_306) rfl ?_
          show Steps p.tables e below (T98.setTop (mkF m 308 _ [(.long u1), (.long (own_lmax u1 (own_lmax j23 j25)))])) _
          refine XS.lcmp X98.here hx rfl (hb hby at_308) rfl ?_
          exact ht
        by_cases hc100 : (lcmpW (own_lmax u1 (own_lmax j23 j25)) u1) = (0 : Int32)
        · refine OFin.of (S' := T98.setTop (mkF m 328 #[.val (.int p0), .val (.long q1), .second, .val (.long q2), .second, .val (.long q3), .second, .val (.long q4), .second, .val (.int i9), .val (.int i10), .val (.int i11), .val (.int i12), .val (.int i13), .val (.ref s1), .val (.ref s2), .val (.int b16), .val (.long j17), .second, .val (.long l1), .second, .val (.long u1), .second, .val (.long j23), .second, .val (.long j25), .second, .val (.long (own_lmin j23 j25)), .second, .val (.long (own_lmax j23 j25)), .second, .val (.ref b6), .val (.ref b41), .val (.int (1 : Int32)), .unset] [(.long (own_lmin j23 j25)), (.long l1)])) (fun t ht => ?_) ?_
          · refine XS.ifNo X98.here hx rfl (hb hby at_309) rfl ((if0 _ _).trans (teq (hc100 : (lcmpW (own_lmax u1 (own_lmax j23 j25)) u1) = (0 : Int32))).2) ?_
            show Steps p.tables e below (T98.setTop (mkF m 312 _ [])) _
            refine XS.iconst X98.here hx rfl (hb hby at_312) ?_
            show Steps p.tables e below (T98.setTop (mkF m 313 _ [(.int (1 : Int32))])) _
            refine XS.goto X98.here hx rfl (pc0 := 313) (pc' := 317) rfl (hb hby at_313) (by decide) (by decide) ?_
            show Steps p.tables e below (T98.setTop (mkF m 317 _ [(.int (1 : Int32))])) _
            refine XS.istore X98.here hx rfl (hb hby at_317) rfl (l' := #[.val (.int p0), .val (.long q1), .second, .val (.long q2), .second, .val (.long q3), .second, .val (.long q4), .second, .val (.int i9), .val (.int i10), .val (.int i11), .val (.int i12), .val (.int i13), .val (.ref s1), .val (.ref s2), .val (.int b16), .val (.long j17), .second, .val (.long l1), .second, .val (.long u1), .second, .val (.long j23), .second, .val (.long j25), .second, .val (.long (own_lmin j23 j25)), .second, .val (.long (own_lmax j23 j25)), .second, .val (.ref b6), .val (.ref b41), .val (.int (1 : Int32)), .unset]) rfl ?_
            show Steps p.tables e below (T98.setTop (mkF m 319 #[.val (.int p0), .val (.long q1), .second, .val (.long q2), .second, .val (.long q3), .second, .val (.long q4), .second, .val (.int i9), .val (.int i10), .val (.int i11), .val (.int i12), .val (.int i13), .val (.ref s1), .val (.ref s2), .val (.int b16), .val (.long j17), .second, .val (.long l1), .second, .val (.long u1), .second, .val (.long j23), .second, .val (.long j25), .second, .val (.long (own_lmin j23 j25)), .second, .val (.long (own_lmax j23 j25)), .second, .val (.ref b6), .val (.ref b41), .val (.int (1 : Int32)), .unset] [])) _
            refine XS.iload X98.here hx rfl (hb hby at_319) rfl ?_
            show Steps p.tables e below (T98.setTop (mkF m 321 _ [(.int b16)])) _
            refine XS.ifNo X98.here hx rfl (hb hby at_321) rfl ((if0 _ _).trans (feq (hc85 : ¬ (b16 = (0 : Int32)))).1) ?_
            show Steps p.tables e below (T98.setTop (mkF m 324 _ [])) _
            refine XS.lload X98.here hx rfl (hb hby at_324) rfl ?_
            show Steps p.tables e below (T98.setTop (mkF m 326 _ [(.long l1)])) _
            refine XS.lload X98.here hx rfl (hb hby at_326) rfl ?_
            exact ht
          obtain ⟨_, _, ⟨T101, L101, k101, n101⟩, -, X101, ⟨Lc101, hQ101, l101, y101, z101⟩, st101⟩ := Jvm.LawKit.callS X98 hx (y := (⟨"java/lang/Math", "min", "(JJ)J"⟩ : MethodName)) hown (mvT hZ (hw _ (List.mem_of_getElem? (i := 32) rfl))) (mvT hZ (hw _ (List.mem_of_getElem? (i := 33) rfl))) (mvT hZ (hw _ (List.mem_of_getElem? (i := 34) rfl))) (mvT hZ (hw _ (List.mem_of_getElem? (i := 35) rfl))) (by decide) (backOf (W := 0) (rmMn l Z _ hw [] l1 (own_lmin j23 j25) T65.heap n0 Z84 ) hZ (hw _ (List.mem_of_getElem? (i := 35) rfl)) (hw _ (List.mem_of_getElem? (i := 34) rfl)) (by decide) (by decide)) (g := (mkF m 328 #[.val (.int p0), .val (.long q1), .second, .val (.long q2), .second, .val (.long q3), .second, .val (.long q4), .second, .val (.int i9), .val (.int i10), .val (.int i11), .val (.int i12), .val (.int i13), .val (.ref s1), .val (.ref s2), .val (.int b16), .val (.long j17), .second, .val (.long l1), .second, .val (.long u1), .second, .val (.long j23), .second, .val (.long j25), .second, .val (.long (own_lmin j23 j25)), .second, .val (.long (own_lmax j23 j25)), .second, .val (.ref b6), .val (.ref b41), .val (.int (1 : Int32)), .unset] [(.long (own_lmin j23 j25)), (.long l1)])) rfl (by rw [hml]; rfl) (argsL := [(.long l1), (.long (own_lmin j23 j25))]) (rest := []) (lenOf pd_6 rfl) rfl (by show 2 * 0 + _ ≤ _; exact Nat.le_of_eq rfl) (hb hby at_328) (fun _ _ => ⟨rfl, hs98, (by decide : 9 + 0 ≤ _), (by decide : 28 + 0 ≤ _)⟩)
          dsimp only [Pt.U, Pt.locs, Pt.cells, Pt.slots] at X101 l101 y101 z101 st101 hQ101
          subst l101 y101 z101
          obtain ⟨rfl, Nq101, hs101⟩ := hQ101
          have N102 := Fr.app N99 Nq101
          refine OFin.of (S' := T101.setTop (mkF m 331 #[.val (.int p0), .val (.long q1), .second, .val (.long q2), .second, .val (.long q3), .second, .val (.long q4), .second, .val (.int i9), .val (.int i10), .val (.int i11), .val (.int i12), .val (.int i13), .val (.ref s1), .val (.ref s2), .val (.int b16), .val (.long j17), .second, .val (.long l1), .second, .val (.long u1), .second, .val (.long j23), .second, .val (.long j25), .second, .val (.long (own_lmin j23 j25)), .second, .val (.long (own_lmax j23 j25)), .second, .val (.ref b6), .val (.ref b41), .val (.int (1 : Int32)), .unset] [(.long (own_lmin l1 (own_lmin j23 j25)))])) (fun t ht => st101 t ht) ?_
          refine OFin.of (S' := T101.setTop (mkF m 334 #[.val (.int p0), .val (.long q1), .second, .val (.long q2), .second, .val (.long q3), .second, .val (.long q4), .second, .val (.int i9), .val (.int i10), .val (.int i11), .val (.int i12), .val (.int i13), .val (.ref s1), .val (.ref s2), .val (.int b16), .val (.long j17), .second, .val (.long l1), .second, .val (.long u1), .second, .val (.long j23), .second, .val (.long j25), .second, .val (.long (own_lmin j23 j25)), .second, .val (.long (own_lmax j23 j25)), .second, .val (.ref b6), .val (.ref b41), .val (.int (1 : Int32)), .unset] [(.int (lcmpW (own_lmin l1 (own_lmin j23 j25)) (own_lmin j23 j25)))])) (fun t ht => ?_) ?_
          · refine XS.lload X101.here hx rfl (hb hby at_331) rfl ?_
            show Steps p.tables e below (T101.setTop (mkF m 333 _ [(.long (own_lmin j23 j25)), (.long (own_lmin l1 (own_lmin j23 j25)))])) _
            refine XS.lcmp X101.here hx rfl (hb hby at_333) rfl ?_
            exact ht
          by_cases hc103 : (lcmpW (own_lmin l1 (own_lmin j23 j25)) (own_lmin j23 j25)) = (0 : Int32)
          · refine OFin.of (S' := T101.setTop (mkF m 341 #[.val (.int p0), .val (.long q1), .second, .val (.long q2), .second, .val (.long q3), .second, .val (.long q4), .second, .val (.int i9), .val (.int i10), .val (.int i11), .val (.int i12), .val (.int i13), .val (.ref s1), .val (.ref s2), .val (.int b16), .val (.long j17), .second, .val (.long l1), .second, .val (.long u1), .second, .val (.long j23), .second, .val (.long j25), .second, .val (.long (own_lmin j23 j25)), .second, .val (.long (own_lmax j23 j25)), .second, .val (.ref b6), .val (.ref b41), .val (.int (1 : Int32)), .unset] [(.long (own_lmax j23 j25)), (.long u1)])) (fun t ht => ?_) ?_
            · refine XS.ifNo X101.here hx rfl (hb hby at_334) rfl ((if0 _ _).trans (teq (hc103 : (lcmpW (own_lmin l1 (own_lmin j23 j25)) (own_lmin j23 j25)) = (0 : Int32))).2) ?_
              show Steps p.tables e below (T101.setTop (mkF m 337 _ [])) _
              refine XS.lload X101.here hx rfl (hb hby at_337) rfl ?_
              show Steps p.tables e below (T101.setTop (mkF m 339 _ [(.long u1)])) _
              refine XS.lload X101.here hx rfl (hb hby at_339) rfl ?_
              exact ht
            obtain ⟨_, _, ⟨T104, L104, k104, n104⟩, -, X104, ⟨Lc104, hQ104, l104, y104, z104⟩, st104⟩ := Jvm.LawKit.callS X101 hx (y := (⟨"java/lang/Math", "max", "(JJ)J"⟩ : MethodName)) hown (mvT hZ (hw _ (List.mem_of_getElem? (i := 36) rfl))) (mvT hZ (hw _ (List.mem_of_getElem? (i := 37) rfl))) (mvT hZ (hw _ (List.mem_of_getElem? (i := 34) rfl))) (mvT hZ (hw _ (List.mem_of_getElem? (i := 38) rfl))) (by decide) (backOf (W := 0) (rmMx l Z _ hw [] u1 (own_lmax j23 j25) T65.heap n0 Z84 ) hZ (hw _ (List.mem_of_getElem? (i := 38) rfl)) (hw _ (List.mem_of_getElem? (i := 34) rfl)) (by decide) (by decide)) (g := (mkF m 341 #[.val (.int p0), .val (.long q1), .second, .val (.long q2), .second, .val (.long q3), .second, .val (.long q4), .second, .val (.int i9), .val (.int i10), .val (.int i11), .val (.int i12), .val (.int i13), .val (.ref s1), .val (.ref s2), .val (.int b16), .val (.long j17), .second, .val (.long l1), .second, .val (.long u1), .second, .val (.long j23), .second, .val (.long j25), .second, .val (.long (own_lmin j23 j25)), .second, .val (.long (own_lmax j23 j25)), .second, .val (.ref b6), .val (.ref b41), .val (.int (1 : Int32)), .unset] [(.long (own_lmax j23 j25)), (.long u1)])) rfl (by rw [hml]; rfl) (argsL := [(.long u1), (.long (own_lmax j23 j25))]) (rest := []) (lenOf pd_6 rfl) rfl (by show 2 * 0 + _ ≤ _; exact Nat.le_of_eq rfl) (hb hby at_341) (fun _ _ => ⟨rfl, hs101, (by decide : 9 + 0 ≤ _), (by decide : 28 + 0 ≤ _)⟩)
            dsimp only [Pt.U, Pt.locs, Pt.cells, Pt.slots] at X104 l104 y104 z104 st104 hQ104
            subst l104 y104 z104
            obtain ⟨rfl, Nq104, hs104⟩ := hQ104
            have N105 := Fr.app N102 Nq104
            refine OFin.of (S' := T104.setTop (mkF m 344 #[.val (.int p0), .val (.long q1), .second, .val (.long q2), .second, .val (.long q3), .second, .val (.long q4), .second, .val (.int i9), .val (.int i10), .val (.int i11), .val (.int i12), .val (.int i13), .val (.ref s1), .val (.ref s2), .val (.int b16), .val (.long j17), .second, .val (.long l1), .second, .val (.long u1), .second, .val (.long j23), .second, .val (.long j25), .second, .val (.long (own_lmin j23 j25)), .second, .val (.long (own_lmax j23 j25)), .second, .val (.ref b6), .val (.ref b41), .val (.int (1 : Int32)), .unset] [(.long (own_lmax u1 (own_lmax j23 j25)))])) (fun t ht => st104 t ht) ?_
            refine OFin.of (S' := T104.setTop (mkF m 347 #[.val (.int p0), .val (.long q1), .second, .val (.long q2), .second, .val (.long q3), .second, .val (.long q4), .second, .val (.int i9), .val (.int i10), .val (.int i11), .val (.int i12), .val (.int i13), .val (.ref s1), .val (.ref s2), .val (.int b16), .val (.long j17), .second, .val (.long l1), .second, .val (.long u1), .second, .val (.long j23), .second, .val (.long j25), .second, .val (.long (own_lmin j23 j25)), .second, .val (.long (own_lmax j23 j25)), .second, .val (.ref b6), .val (.ref b41), .val (.int (1 : Int32)), .unset] [(.int (lcmpW (own_lmax u1 (own_lmax j23 j25)) (own_lmax j23 j25)))])) (fun t ht => ?_) ?_
            · refine XS.lload X104.here hx rfl (hb hby at_344) rfl ?_
              show Steps p.tables e below (T104.setTop (mkF m 346 _ [(.long (own_lmax j23 j25)), (.long (own_lmax u1 (own_lmax j23 j25)))])) _
              refine XS.lcmp X104.here hx rfl (hb hby at_346) rfl ?_
              exact ht
            by_cases hc106 : (lcmpW (own_lmax u1 (own_lmax j23 j25)) (own_lmax j23 j25)) = (0 : Int32)
            · refine OFin.of (S' := T104.setTop (mkF m 361 #[.val (.int p0), .val (.long q1), .second, .val (.long q2), .second, .val (.long q3), .second, .val (.long q4), .second, .val (.int i9), .val (.int i10), .val (.int i11), .val (.int i12), .val (.int i13), .val (.ref s1), .val (.ref s2), .val (.int b16), .val (.long j17), .second, .val (.long l1), .second, .val (.long u1), .second, .val (.long j23), .second, .val (.long j25), .second, .val (.long (own_lmin j23 j25)), .second, .val (.long (own_lmax j23 j25)), .second, .val (.ref b6), .val (.ref b41), .val (.int (1 : Int32)), .val (.int (1 : Int32))] [(.ref b41), (.ref b6)])) (fun t ht => ?_) ?_
              · refine XS.ifNo X104.here hx rfl (hb hby at_347) rfl ((if0 _ _).trans (teq (hc106 : (lcmpW (own_lmax u1 (own_lmax j23 j25)) (own_lmax j23 j25)) = (0 : Int32))).2) ?_
                show Steps p.tables e below (T104.setTop (mkF m 350 _ [])) _
                refine XS.iconst X104.here hx rfl (hb hby at_350) ?_
                show Steps p.tables e below (T104.setTop (mkF m 351 _ [(.int (1 : Int32))])) _
                refine XS.goto X104.here hx rfl (pc0 := 351) (pc' := 355) rfl (hb hby at_351) (by decide) (by decide) ?_
                show Steps p.tables e below (T104.setTop (mkF m 355 _ [(.int (1 : Int32))])) _
                refine XS.istore X104.here hx rfl (hb hby at_355) rfl (l' := #[.val (.int p0), .val (.long q1), .second, .val (.long q2), .second, .val (.long q3), .second, .val (.long q4), .second, .val (.int i9), .val (.int i10), .val (.int i11), .val (.int i12), .val (.int i13), .val (.ref s1), .val (.ref s2), .val (.int b16), .val (.long j17), .second, .val (.long l1), .second, .val (.long u1), .second, .val (.long j23), .second, .val (.long j25), .second, .val (.long (own_lmin j23 j25)), .second, .val (.long (own_lmax j23 j25)), .second, .val (.ref b6), .val (.ref b41), .val (.int (1 : Int32)), .val (.int (1 : Int32))]) rfl ?_
                show Steps p.tables e below (T104.setTop (mkF m 357 #[.val (.int p0), .val (.long q1), .second, .val (.long q2), .second, .val (.long q3), .second, .val (.long q4), .second, .val (.int i9), .val (.int i10), .val (.int i11), .val (.int i12), .val (.int i13), .val (.ref s1), .val (.ref s2), .val (.int b16), .val (.long j17), .second, .val (.long l1), .second, .val (.long u1), .second, .val (.long j23), .second, .val (.long j25), .second, .val (.long (own_lmin j23 j25)), .second, .val (.long (own_lmax j23 j25)), .second, .val (.ref b6), .val (.ref b41), .val (.int (1 : Int32)), .val (.int (1 : Int32))] [])) _
                refine XS.aload X104.here hx rfl (hb hby at_357) rfl rfl ?_
                show Steps p.tables e below (T104.setTop (mkF m 359 _ [(.ref b6)])) _
                refine XS.aload X104.here hx rfl (hb hby at_359) rfl rfl ?_
                exact ht
              obtain ⟨cq108, kq108, q108a, q108b, q108c⟩ := isOf hZ hs104 f79
              obtain ⟨_, _, ⟨T107, L107, k107, n107⟩, -, X107, ⟨Lc107, hQ107, l107, y107, z107⟩, st107⟩ := X104.virtualBack hx (y := (⟨"com/example/greylag/greylag/model/Bundle", "contains", "(Lcom/example/greylag/greylag/model/Bundle;)Z"⟩ : MethodName)) (z := (⟨"com/example/greylag/greylag/model/Bundle", "contains", "(Lcom/example/greylag/greylag/model/Bundle;)Z"⟩ : MethodName)) hown (mvT hZ (hw _ (List.mem_of_getElem? (i := 52) rfl))) (mvT hZ (hw _ (List.mem_of_getElem? (i := 53) rfl))) (notFace_of_selects (args := #[]) (mvT hZ (hw _ (List.mem_of_getElem? (i := 55) rfl)))) (mvT hZ (hw _ (List.mem_of_getElem? (i := 55) rfl))) (mvT hZ (hw _ (List.mem_of_getElem? (i := 54) rfl))) (by decide) (backOf (W := 0) (rmCo21 l Z _ hw [] b6 b41 s1 s2 l1 u1 (own_lmin j23 j25) (own_lmax j23 j25) (0 : Int32) T65.heap n0 Z84 f80 f66 f81 f67 f82 f68 f71 (rmEq21 l Z _ hw [] s1 s2 t1 t2 k1 k2 cs x0 x1 y0 T65.heap n0 Z84 f75 f72 f76 f73 f77 f74 f78 f70 hcs na0)) hZ (hw _ (List.mem_of_getElem? (i := 56) rfl)) (hw _ (List.mem_of_getElem? (i := 41) rfl)) (by decide) (by decide)) q108a q108c (g := (mkF m 361 #[.val (.int p0), .val (.long q1), .second, .val (.long q2), .second, .val (.long q3), .second, .val (.long q4), .second, .val (.int i9), .val (.int i10), .val (.int i11), .val (.int i12), .val (.int i13), .val (.ref s1), .val (.ref s2), .val (.int b16), .val (.long j17), .second, .val (.long l1), .second, .val (.long u1), .second, .val (.long j23), .second, .val (.long j25), .second, .val (.long (own_lmin j23 j25)), .second, .val (.long (own_lmax j23 j25)), .second, .val (.ref b6), .val (.ref b41), .val (.int (1 : Int32)), .val (.int (1 : Int32))] [(.ref b41), (.ref b6)])) rfl (by rw [hml]; rfl) (Steps.refl _) (argsL := [(.ref b41)]) (rest := []) (lenOf pd_8 rfl) rfl (by show 2 * 0 + _ ≤ _; exact Nat.le_of_eq rfl) (hb hby at_361) (fun _ _ => ⟨rfl, hs104, (by decide : 9 + 0 ≤ _), (by decide : 28 + 0 ≤ _)⟩)
              dsimp only [Pt.U, Pt.locs, Pt.cells, Pt.slots] at X107 l107 y107 z107 st107 hQ107
              subst l107 y107 z107
              obtain ⟨rfl, Nq107, hs107⟩ := hQ107
              have N109 := Fr.app N105 Nq107
              refine OFin.to (S' := T107.setTop (mkF m 364 #[.val (.int p0), .val (.long q1), .second, .val (.long q2), .second, .val (.long q3), .second, .val (.long q4), .second, .val (.int i9), .val (.int i10), .val (.int i11), .val (.int i12), .val (.int i13), .val (.ref s1), .val (.ref s2), .val (.int b16), .val (.long j17), .second, .val (.long l1), .second, .val (.long u1), .second, .val (.long j23), .second, .val (.long j25), .second, .val (.long (own_lmin j23 j25)), .second, .val (.long (own_lmax j23 j25)), .second, .val (.ref b6), .val (.ref b41), .val (.int (1 : Int32)), .val (.int (1 : Int32))] [(.int (own_cont (0 : Int32) l1 u1 (own_lmin j23 j25) (own_lmax j23 j25)))])) st107 ?_
              refine OFin.of (S' := T107.setTop (mkF m 373 #[.val (.int p0), .val (.long q1), .second, .val (.long q2), .second, .val (.long q3), .second, .val (.long q4), .second, .val (.int i9), .val (.int i10), .val (.int i11), .val (.int i12), .val (.int i13), .val (.ref s1), .val (.ref s2), .val (.int b16), .val (.long j17), .second, .val (.long l1), .second, .val (.long u1), .second, .val (.long j23), .second, .val (.long j25), .second, .val (.long (own_lmin j23 j25)), .second, .val (.long (own_lmax j23 j25)), .second, .val (.ref b6), .val (.ref b41), .val (.int (1 : Int32)), .val (.int (1 : Int32))] [(.ref b6), (.ref b41)])) (fun t ht => ?_) ?_
              · refine XS.iload X107.here hx rfl (hb hby at_364) rfl ?_
                show Steps p.tables e below (T107.setTop (mkF m 366 _ [(.int (1 : Int32)), (.int (own_cont (0 : Int32) l1 u1 (own_lmin j23 j25) (own_lmax j23 j25)))])) _
                refine XS.icmpNo X107.here hx rfl (hb hby at_366) rfl (teq (own_t3 hE hc85 hc97 hc100 : (own_cont (0 : Int32) l1 u1 (own_lmin j23 j25) (own_lmax j23 j25)) = (1 : Int32))).2 ?_
                show Steps p.tables e below (T107.setTop (mkF m 369 _ [])) _
                refine XS.aload X107.here hx rfl (hb hby at_369) rfl rfl ?_
                show Steps p.tables e below (T107.setTop (mkF m 371 _ [(.ref b41)])) _
                refine XS.aload X107.here hx rfl (hb hby at_371) rfl rfl ?_
                exact ht
              obtain ⟨cq111, kq111, q111a, q111b, q111c⟩ := isOf hZ hs107 f83
              obtain ⟨_, _, ⟨T110, L110, k110, n110⟩, -, X110, ⟨Lc110, hQ110, l110, y110, z110⟩, st110⟩ := X107.virtualBack hx (y := (⟨"com/example/greylag/greylag/model/Bundle", "contains", "(Lcom/example/greylag/greylag/model/Bundle;)Z"⟩ : MethodName)) (z := (⟨"com/example/greylag/greylag/model/Bundle", "contains", "(Lcom/example/greylag/greylag/model/Bundle;)Z"⟩ : MethodName)) hown (mvT hZ (hw _ (List.mem_of_getElem? (i := 52) rfl))) (mvT hZ (hw _ (List.mem_of_getElem? (i := 53) rfl))) (notFace_of_selects (args := #[]) (mvT hZ (hw _ (List.mem_of_getElem? (i := 55) rfl)))) (mvT hZ (hw _ (List.mem_of_getElem? (i := 55) rfl))) (mvT hZ (hw _ (List.mem_of_getElem? (i := 54) rfl))) (by decide) (backOf (W := 0) (rmCo12 l Z _ hw [] b41 b6 s2 s1 (own_lmin j23 j25) (own_lmax j23 j25) l1 u1 (0 : Int32) T65.heap n0 Z84 f66 f80 f67 f81 f68 f82 f75 (rmEq12 l Z _ hw [] s2 s1 t2 t1 k2 k1 cs y0 x0 x1 T65.heap n0 Z84 f71 f76 f72 f77 f73 f78 f74 f70 hcs (Ne.symm na0))) hZ (hw _ (List.mem_of_getElem? (i := 56) rfl)) (hw _ (List.mem_of_getElem? (i := 41) rfl)) (by decide) (by decide)) q111a q111c (g := (mkF m 373 #[.val (.int p0), .val (.long q1), .second, .val (.long q2), .second, .val (.long q3), .second, .val (.long q4), .second, .val (.int i9), .val (.int i10), .val (.int i11), .val (.int i12), .val (.int i13), .val (.ref s1), .val (.ref s2), .val (.int b16), .val (.long j17), .second, .val (.long l1), .second, .val (.long u1), .second, .val (.long j23), .second, .val (.long j25), .second, .val (.long (own_lmin j23 j25)), .second, .val (.long (own_lmax j23 j25)), .second, .val (.ref b6), .val (.ref b41), .val (.int (1 : Int32)), .val (.int (1 : Int32))] [(.ref b6), (.ref b41)])) rfl (by rw [hml]; rfl) (Steps.refl _) (argsL := [(.ref b6)]) (rest := []) (lenOf pd_8 rfl) rfl (by show 2 * 0 + _ ≤ _; exact Nat.le_of_eq rfl) (hb hby at_373) (fun _ _ => ⟨rfl, hs107, (by decide : 9 + 0 ≤ _), (by decide : 28 + 0 ≤ _)⟩)
              dsimp only [Pt.U, Pt.locs, Pt.cells, Pt.slots] at X110 l110 y110 z110 st110 hQ110
              subst l110 y110 z110
              obtain ⟨rfl, Nq110, hs110⟩ := hQ110
              have N112 := Fr.app N109 Nq110
              refine OFin.to (S' := T110.setTop (mkF m 376 #[.val (.int p0), .val (.long q1), .second, .val (.long q2), .second, .val (.long q3), .second, .val (.long q4), .second, .val (.int i9), .val (.int i10), .val (.int i11), .val (.int i12), .val (.int i13), .val (.ref s1), .val (.ref s2), .val (.int b16), .val (.long j17), .second, .val (.long l1), .second, .val (.long u1), .second, .val (.long j23), .second, .val (.long j25), .second, .val (.long (own_lmin j23 j25)), .second, .val (.long (own_lmax j23 j25)), .second, .val (.ref b6), .val (.ref b41), .val (.int (1 : Int32)), .val (.int (1 : Int32))] [(.int (own_cont (0 : Int32) (own_lmin j23 j25) (own_lmax j23 j25) l1 u1))])) st110 ?_
              refine OFin.of (S' := T110.setTop (mkF m 385 #[.val (.int p0), .val (.long q1), .second, .val (.long q2), .second, .val (.long q3), .second, .val (.long q4), .second, .val (.int i9), .val (.int i10), .val (.int i11), .val (.int i12), .val (.int i13), .val (.ref s1), .val (.ref s2), .val (.int b16), .val (.long j17), .second, .val (.long l1), .second, .val (.long u1), .second, .val (.long j23), .second, .val (.long j25), .second, .val (.long (own_lmin j23 j25)), .second, .val (.long (own_lmax j23 j25)), .second, .val (.ref b6), .val (.ref b41), .val (.int (1 : Int32)), .val (.int (1 : Int32))] [(.ref b41), (.ref b41)])) (fun t ht => ?_) ?_
              · refine XS.iload X110.here hx rfl (hb hby at_376) rfl ?_
                show Steps p.tables e below (T110.setTop (mkF m 378 _ [(.int (1 : Int32)), (.int (own_cont (0 : Int32) (own_lmin j23 j25) (own_lmax j23 j25) l1 u1))])) _
                refine XS.icmpNo X110.here hx rfl (hb hby at_378) rfl (teq (own_v3 hE hE2 hc85 hc103 hc106 : (own_cont (0 : Int32) (own_lmin j23 j25) (own_lmax j23 j25) l1 u1) = (1 : Int32))).2 ?_
                show Steps p.tables e below (T110.setTop (mkF m 381 _ [])) _
                refine XS.aload X110.here hx rfl (hb hby at_381) rfl rfl ?_
                show Steps p.tables e below (T110.setTop (mkF m 383 _ [(.ref b41)])) _
                refine XS.aload X110.here hx rfl (hb hby at_383) rfl rfl ?_
                exact ht
              obtain ⟨cq114, kq114, q114a, q114b, q114c⟩ := isOf hZ hs110 f83
              obtain ⟨_, _, ⟨T113, L113, k113, n113⟩, -, X113, ⟨Lc113, hQ113, l113, y113, z113⟩, st113⟩ := X110.virtualBack hx (y := (⟨"com/example/greylag/greylag/model/Bundle", "contains", "(Lcom/example/greylag/greylag/model/Bundle;)Z"⟩ : MethodName)) (z := (⟨"com/example/greylag/greylag/model/Bundle", "contains", "(Lcom/example/greylag/greylag/model/Bundle;)Z"⟩ : MethodName)) hown (mvT hZ (hw _ (List.mem_of_getElem? (i := 52) rfl))) (mvT hZ (hw _ (List.mem_of_getElem? (i := 53) rfl))) (notFace_of_selects (args := #[]) (mvT hZ (hw _ (List.mem_of_getElem? (i := 55) rfl)))) (mvT hZ (hw _ (List.mem_of_getElem? (i := 55) rfl))) (mvT hZ (hw _ (List.mem_of_getElem? (i := 54) rfl))) (by decide) (backOf (W := 0) (rmCos l Z _ hw [] b41 b41 s2 (own_lmin j23 j25) (own_lmax j23 j25) (own_lmin j23 j25) (own_lmax j23 j25) (1 : Int32) T65.heap n0 Z84 f66 f66 f67 f67 f68 f68 f75 (rmEs l Z _ hw [] s2 T65.heap n0 Z84)) hZ (hw _ (List.mem_of_getElem? (i := 56) rfl)) (hw _ (List.mem_of_getElem? (i := 41) rfl)) (by decide) (by decide)) q114a q114c (g := (mkF m 385 #[.val (.int p0), .val (.long q1), .second, .val (.long q2), .second, .val (.long q3), .second, .val (.long q4), .second, .val (.int i9), .val (.int i10), .val (.int i11), .val (.int i12), .val (.int i13), .val (.ref s1), .val (.ref s2), .val (.int b16), .val (.long j17), .second, .val (.long l1), .second, .val (.long u1), .second, .val (.long j23), .second, .val (.long j25), .second, .val (.long (own_lmin j23 j25)), .second, .val (.long (own_lmax j23 j25)), .second, .val (.ref b6), .val (.ref b41), .val (.int (1 : Int32)), .val (.int (1 : Int32))] [(.ref b41), (.ref b41)])) rfl (by rw [hml]; rfl) (Steps.refl _) (argsL := [(.ref b41)]) (rest := []) (lenOf pd_8 rfl) rfl (by show 2 * 0 + _ ≤ _; exact Nat.le_of_eq rfl) (hb hby at_385) (fun _ _ => ⟨rfl, hs110, (by decide : 9 + 0 ≤ _), (by decide : 28 + 0 ≤ _)⟩)
              dsimp only [Pt.U, Pt.locs, Pt.cells, Pt.slots] at X113 l113 y113 z113 st113 hQ113
              subst l113 y113 z113
              obtain ⟨rfl, Nq113, hs113⟩ := hQ113
              have N115 := Fr.app N112 Nq113
              refine OFin.to (S' := T113.setTop (mkF m 388 #[.val (.int p0), .val (.long q1), .second, .val (.long q2), .second, .val (.long q3), .second, .val (.long q4), .second, .val (.int i9), .val (.int i10), .val (.int i11), .val (.int i12), .val (.int i13), .val (.ref s1), .val (.ref s2), .val (.int b16), .val (.long j17), .second, .val (.long l1), .second, .val (.long u1), .second, .val (.long j23), .second, .val (.long j25), .second, .val (.long (own_lmin j23 j25)), .second, .val (.long (own_lmax j23 j25)), .second, .val (.ref b6), .val (.ref b41), .val (.int (1 : Int32)), .val (.int (1 : Int32))] [(.int (own_cont (1 : Int32) (own_lmin j23 j25) (own_lmax j23 j25) (own_lmin j23 j25) (own_lmax j23 j25)))])) st113 ?_
              refine OFin.of (S' := T113.setTop (mkF m 396 #[.val (.int p0), .val (.long q1), .second, .val (.long q2), .second, .val (.long q3), .second, .val (.long q4), .second, .val (.int i9), .val (.int i10), .val (.int i11), .val (.int i12), .val (.int i13), .val (.ref s1), .val (.ref s2), .val (.int b16), .val (.long j17), .second, .val (.long l1), .second, .val (.long u1), .second, .val (.long j23), .second, .val (.long j25), .second, .val (.long (own_lmin j23 j25)), .second, .val (.long (own_lmax j23 j25)), .second, .val (.ref b6), .val (.ref b41), .val (.int (1 : Int32)), .val (.int (1 : Int32))] [(.int (1 : Int32))])) (fun t ht => ?_) ?_
              · refine XS.ifNo X113.here hx rfl (hb hby at_388) rfl ((if0 _ _).trans (feq (own_r3 _ _ : ¬ ((own_cont (1 : Int32) (own_lmin j23 j25) (own_lmax j23 j25) (own_lmin j23 j25) (own_lmax j23 j25)) = (0 : Int32)))).1) ?_
                show Steps p.tables e below (T113.setTop (mkF m 391 _ [])) _
                refine XS.iconst X113.here hx rfl (hb hby at_391) ?_
                show Steps p.tables e below (T113.setTop (mkF m 392 _ [(.int (1 : Int32))])) _
                refine XS.goto X113.here hx rfl (pc0 := 392) (pc' := 396) rfl (hb hby at_392) (by decide) (by decide) ?_
                exact ht
              exact OFin.retB X113 hx hlk (t := .boolean) (by simp) hret (hb hby at_396) (by decide) (by decide) (by rw [hs113]; exact hQ _ _ N115)
            · refine OFin.of (S' := T104.setTop (mkF m 361 #[.val (.int p0), .val (.long q1), .second, .val (.long q2), .second, .val (.long q3), .second, .val (.long q4), .second, .val (.int i9), .val (.int i10), .val (.int i11), .val (.int i12), .val (.int i13), .val (.ref s1), .val (.ref s2), .val (.int b16), .val (.long j17), .second, .val (.long l1), .second, .val (.long u1), .second, .val (.long j23), .second, .val (.long j25), .second, .val (.long (own_lmin j23 j25)), .second, .val (.long (own_lmax j23 j25)), .second, .val (.ref b6), .val (.ref b41), .val (.int (1 : Int32)), .val (.int (0 : Int32))] [(.ref b41), (.ref b6)])) (fun t ht => ?_) ?_
              · refine XS.ifYes X104.here hx rfl (pc0 := 347) (pc' := 354) rfl (hb hby at_347) rfl ((if0 _ _).trans (feq (hc106 : ¬ ((lcmpW (own_lmax u1 (own_lmax j23 j25)) (own_lmax j23 j25)) = (0 : Int32)))).2) (by decide) (by decide) ?_
                show Steps p.tables e below (T104.setTop (mkF m 354 _ [])) _
                refine XS.iconst X104.here hx rfl (hb hby at_354) ?_
                show Steps p.tables e below (T104.setTop (mkF m 355 _ [(.int (0 : Int32))])) _
                refine XS.istore X104.here hx rfl (hb hby at_355) rfl (l' := #[.val (.int p0), .val (.long q1), .second, .val (.long q2), .second, .val (.long q3), .second, .val (.long q4), .second, .val (.int i9), .val (.int i10), .val (.int i11), .val (.int i12), .val (.int i13), .val (.ref s1), .val (.ref s2), .val (.int b16), .val (.long j17), .second, .val (.long l1), .second, .val (.long u1), .second, .val (.long j23), .second, .val (.long j25), .second, .val (.long (own_lmin j23 j25)), .second, .val (.long (own_lmax j23 j25)), .second, .val (.ref b6), .val (.ref b41), .val (.int (1 : Int32)), .val (.int (0 : Int32))]) rfl ?_
                show Steps p.tables e below (T104.setTop (mkF m 357 #[.val (.int p0), .val (.long q1), .second, .val (.long q2), .second, .val (.long q3), .second, .val (.long q4), .second, .val (.int i9), .val (.int i10), .val (.int i11), .val (.int i12), .val (.int i13), .val (.ref s1), .val (.ref s2), .val (.int b16), .val (.long j17), .second, .val (.long l1), .second, .val (.long u1), .second, .val (.long j23), .second, .val (.long j25), .second, .val (.long (own_lmin j23 j25)), .second, .val (.long (own_lmax j23 j25)), .second, .val (.ref b6), .val (.ref b41), .val (.int (1 : Int32)), .val (.int (0 : Int32))] [])) _
                refine XS.aload X104.here hx rfl (hb hby at_357) rfl rfl ?_
                show Steps p.tables e below (T104.setTop (mkF m 359 _ [(.ref b6)])) _
                refine XS.aload X104.here hx rfl (hb hby at_359) rfl rfl ?_
                exact ht
              obtain ⟨cq117, kq117, q117a, q117b, q117c⟩ := isOf hZ hs104 f79
              obtain ⟨_, _, ⟨T116, L116, k116, n116⟩, -, X116, ⟨Lc116, hQ116, l116, y116, z116⟩, st116⟩ := X104.virtualBack hx (y := (⟨"com/example/greylag/greylag/model/Bundle", "contains", "(Lcom/example/greylag/greylag/model/Bundle;)Z"⟩ : MethodName)) (z := (⟨"com/example/greylag/greylag/model/Bundle", "contains", "(Lcom/example/greylag/greylag/model/Bundle;)Z"⟩ : MethodName)) hown (mvT hZ (hw _ (List.mem_of_getElem? (i := 52) rfl))) (mvT hZ (hw _ (List.mem_of_getElem? (i := 53) rfl))) (notFace_of_selects (args := #[]) (mvT hZ (hw _ (List.mem_of_getElem? (i := 55) rfl)))) (mvT hZ (hw _ (List.mem_of_getElem? (i := 55) rfl))) (mvT hZ (hw _ (List.mem_of_getElem? (i := 54) rfl))) (by decide) (backOf (W := 0) (rmCo21 l Z _ hw [] b6 b41 s1 s2 l1 u1 (own_lmin j23 j25) (own_lmax j23 j25) (0 : Int32) T65.heap n0 Z84 f80 f66 f81 f67 f82 f68 f71 (rmEq21 l Z _ hw [] s1 s2 t1 t2 k1 k2 cs x0 x1 y0 T65.heap n0 Z84 f75 f72 f76 f73 f77 f74 f78 f70 hcs na0)) hZ (hw _ (List.mem_of_getElem? (i := 56) rfl)) (hw _ (List.mem_of_getElem? (i := 41) rfl)) (by decide) (by decide)) q117a q117c (g := (mkF m 361 #[.val (.int p0), .val (.long q1), .second, .val (.long q2), .second, .val (.long q3), .second, .val (.long q4), .second, .val (.int i9), .val (.int i10), .val (.int i11), .val (.int i12), .val (.int i13), .val (.ref s1), .val (.ref s2), .val (.int b16), .val (.long j17), .second, .val (.long l1), .second, .val (.long u1), .second, .val (.long j23), .second, .val (.long j25), .second, .val (.long (own_lmin j23 j25)), .second, .val (.long (own_lmax j23 j25)), .second, .val (.ref b6), .val (.ref b41), .val (.int (1 : Int32)), .val (.int (0 : Int32))] [(.ref b41), (.ref b6)])) rfl (by rw [hml]; rfl) (Steps.refl _) (argsL := [(.ref b41)]) (rest := []) (lenOf pd_8 rfl) rfl (by show 2 * 0 + _ ≤ _; exact Nat.le_of_eq rfl) (hb hby at_361) (fun _ _ => ⟨rfl, hs104, (by decide : 9 + 0 ≤ _), (by decide : 28 + 0 ≤ _)⟩)
              dsimp only [Pt.U, Pt.locs, Pt.cells, Pt.slots] at X116 l116 y116 z116 st116 hQ116
              subst l116 y116 z116
              obtain ⟨rfl, Nq116, hs116⟩ := hQ116
              have N118 := Fr.app N105 Nq116
              refine OFin.to (S' := T116.setTop (mkF m 364 #[.val (.int p0), .val (.long q1), .second, .val (.long q2), .second, .val (.long q3), .second, .val (.long q4), .second, .val (.int i9), .val (.int i10), .val (.int i11), .val (.int i12), .val (.int i13), .val (.ref s1), .val (.ref s2), .val (.int b16), .val (.long j17), .second, .val (.long l1), .second, .val (.long u1), .second, .val (.long j23), .second, .val (.long j25), .second, .val (.long (own_lmin j23 j25)), .second, .val (.long (own_lmax j23 j25)), .second, .val (.ref b6), .val (.ref b41), .val (.int (1 : Int32)), .val (.int (0 : Int32))] [(.int (own_cont (0 : Int32) l1 u1 (own_lmin j23 j25) (own_lmax j23 j25)))])) st116 ?_
              refine OFin.of (S' := T116.setTop (mkF m 373 #[.val (.int p0), .val (.long q1), .second, .val (.long q2), .second, .val (.long q3), .second, .val (.long q4), .second, .val (.int i9), .val (.int i10), .val (.int i11), .val (.int i12), .val (.int i13), .val (.ref s1), .val (.ref s2), .val (.int b16), .val (.long j17), .second, .val (.long l1), .second, .val (.long u1), .second, .val (.long j23), .second, .val (.long j25), .second, .val (.long (own_lmin j23 j25)), .second, .val (.long (own_lmax j23 j25)), .second, .val (.ref b6), .val (.ref b41), .val (.int (1 : Int32)), .val (.int (0 : Int32))] [(.ref b6), (.ref b41)])) (fun t ht => ?_) ?_
              · refine XS.iload X116.here hx rfl (hb hby at_364) rfl ?_
                show Steps p.tables e below (T116.setTop (mkF m 366 _ [(.int (1 : Int32)), (.int (own_cont (0 : Int32) l1 u1 (own_lmin j23 j25) (own_lmax j23 j25)))])) _
                refine XS.icmpNo X116.here hx rfl (hb hby at_366) rfl (teq (own_t3 hE hc85 hc97 hc100 : (own_cont (0 : Int32) l1 u1 (own_lmin j23 j25) (own_lmax j23 j25)) = (1 : Int32))).2 ?_
                show Steps p.tables e below (T116.setTop (mkF m 369 _ [])) _
                refine XS.aload X116.here hx rfl (hb hby at_369) rfl rfl ?_
                show Steps p.tables e below (T116.setTop (mkF m 371 _ [(.ref b41)])) _
                refine XS.aload X116.here hx rfl (hb hby at_371) rfl rfl ?_
                exact ht
              obtain ⟨cq120, kq120, q120a, q120b, q120c⟩ := isOf hZ hs116 f83
              obtain ⟨_, _, ⟨T119, L119, k119, n119⟩, -, X119, ⟨Lc119, hQ119, l119, y119, z119⟩, st119⟩ := X116.virtualBack hx (y := (⟨"com/example/greylag/greylag/model/Bundle", "contains", "(Lcom/example/greylag/greylag/model/Bundle;)Z"⟩ : MethodName)) (z := (⟨"com/example/greylag/greylag/model/Bundle", "contains", "(Lcom/example/greylag/greylag/model/Bundle;)Z"⟩ : MethodName)) hown (mvT hZ (hw _ (List.mem_of_getElem? (i := 52) rfl))) (mvT hZ (hw _ (List.mem_of_getElem? (i := 53) rfl))) (notFace_of_selects (args := #[]) (mvT hZ (hw _ (List.mem_of_getElem? (i := 55) rfl)))) (mvT hZ (hw _ (List.mem_of_getElem? (i := 55) rfl))) (mvT hZ (hw _ (List.mem_of_getElem? (i := 54) rfl))) (by decide) (backOf (W := 0) (rmCo12 l Z _ hw [] b41 b6 s2 s1 (own_lmin j23 j25) (own_lmax j23 j25) l1 u1 (0 : Int32) T65.heap n0 Z84 f66 f80 f67 f81 f68 f82 f75 (rmEq12 l Z _ hw [] s2 s1 t2 t1 k2 k1 cs y0 x0 x1 T65.heap n0 Z84 f71 f76 f72 f77 f73 f78 f74 f70 hcs (Ne.symm na0))) hZ (hw _ (List.mem_of_getElem? (i := 56) rfl)) (hw _ (List.mem_of_getElem? (i := 41) rfl)) (by decide) (by decide)) q120a q120c (g := (mkF m 373 #[.val (.int p0), .val (.long q1), .second, .val (.long q2), .second, .val (.long q3), .second, .val (.long q4), .second, .val (.int i9), .val (.int i10), .val (.int i11), .val (.int i12), .val (.int i13), .val (.ref s1), .val (.ref s2), .val (.int b16), .val (.long j17), .second, .val (.long l1), .second, .val (.long u1), .second, .val (.long j23), .second, .val (.long j25), .second, .val (.long (own_lmin j23 j25)), .second, .val (.long (own_lmax j23 j25)), .second, .val (.ref b6), .val (.ref b41), .val (.int (1 : Int32)), .val (.int (0 : Int32))] [(.ref b6), (.ref b41)])) rfl (by rw [hml]; rfl) (Steps.refl _) (argsL := [(.ref b6)]) (rest := []) (lenOf pd_8 rfl) rfl (by show 2 * 0 + _ ≤ _; exact Nat.le_of_eq rfl) (hb hby at_373) (fun _ _ => ⟨rfl, hs116, (by decide : 9 + 0 ≤ _), (by decide : 28 + 0 ≤ _)⟩)
              dsimp only [Pt.U, Pt.locs, Pt.cells, Pt.slots] at X119 l119 y119 z119 st119 hQ119
              subst l119 y119 z119
              obtain ⟨rfl, Nq119, hs119⟩ := hQ119
              have N121 := Fr.app N118 Nq119
              refine OFin.to (S' := T119.setTop (mkF m 376 #[.val (.int p0), .val (.long q1), .second, .val (.long q2), .second, .val (.long q3), .second, .val (.long q4), .second, .val (.int i9), .val (.int i10), .val (.int i11), .val (.int i12), .val (.int i13), .val (.ref s1), .val (.ref s2), .val (.int b16), .val (.long j17), .second, .val (.long l1), .second, .val (.long u1), .second, .val (.long j23), .second, .val (.long j25), .second, .val (.long (own_lmin j23 j25)), .second, .val (.long (own_lmax j23 j25)), .second, .val (.ref b6), .val (.ref b41), .val (.int (1 : Int32)), .val (.int (0 : Int32))] [(.int (own_cont (0 : Int32) (own_lmin j23 j25) (own_lmax j23 j25) l1 u1))])) st119 ?_
              refine OFin.of (S' := T119.setTop (mkF m 385 #[.val (.int p0), .val (.long q1), .second, .val (.long q2), .second, .val (.long q3), .second, .val (.long q4), .second, .val (.int i9), .val (.int i10), .val (.int i11), .val (.int i12), .val (.int i13), .val (.ref s1), .val (.ref s2), .val (.int b16), .val (.long j17), .second, .val (.long l1), .second, .val (.long u1), .second, .val (.long j23), .second, .val (.long j25), .second, .val (.long (own_lmin j23 j25)), .second, .val (.long (own_lmax j23 j25)), .second, .val (.ref b6), .val (.ref b41), .val (.int (1 : Int32)), .val (.int (0 : Int32))] [(.ref b41), (.ref b41)])) (fun t ht => ?_) ?_
              · refine XS.iload X119.here hx rfl (hb hby at_376) rfl ?_
                show Steps p.tables e below (T119.setTop (mkF m 378 _ [(.int (0 : Int32)), (.int (own_cont (0 : Int32) (own_lmin j23 j25) (own_lmax j23 j25) l1 u1))])) _
                refine XS.icmpNo X119.here hx rfl (hb hby at_378) rfl (teq (own_v2 hc106 : (own_cont (0 : Int32) (own_lmin j23 j25) (own_lmax j23 j25) l1 u1) = (0 : Int32))).2 ?_
                show Steps p.tables e below (T119.setTop (mkF m 381 _ [])) _
                refine XS.aload X119.here hx rfl (hb hby at_381) rfl rfl ?_
                show Steps p.tables e below (T119.setTop (mkF m 383 _ [(.ref b41)])) _
                refine XS.aload X119.here hx rfl (hb hby at_383) rfl rfl ?_
                exact ht
              obtain ⟨cq123, kq123, q123a, q123b, q123c⟩ := isOf hZ hs119 f83
              obtain ⟨_, _, ⟨T122, L122, k122, n122⟩, -, X122, ⟨Lc122, hQ122, l122, y122, z122⟩, st122⟩ := X119.virtualBack hx (y := (⟨"com/example/greylag/greylag/model/Bundle", "contains", "(Lcom/example/greylag/greylag/model/Bundle;)Z"⟩ : MethodName)) (z := (⟨"com/example/greylag/greylag/model/Bundle", "contains", "(Lcom/example/greylag/greylag/model/Bundle;)Z"⟩ : MethodName)) hown (mvT hZ (hw _ (List.mem_of_getElem? (i := 52) rfl))) (mvT hZ (hw _ (List.mem_of_getElem? (i := 53) rfl))) (notFace_of_selects (args := #[]) (mvT hZ (hw _ (List.mem_of_getElem? (i := 55) rfl)))) (mvT hZ (hw _ (List.mem_of_getElem? (i := 55) rfl))) (mvT hZ (hw _ (List.mem_of_getElem? (i := 54) rfl))) (by decide) (backOf (W := 0) (rmCos l Z _ hw [] b41 b41 s2 (own_lmin j23 j25) (own_lmax j23 j25) (own_lmin j23 j25) (own_lmax j23 j25) (1 : Int32) T65.heap n0 Z84 f66 f66 f67 f67 f68 f68 f75 (rmEs l Z _ hw [] s2 T65.heap n0 Z84)) hZ (hw _ (List.mem_of_getElem? (i := 56) rfl)) (hw _ (List.mem_of_getElem? (i := 41) rfl)) (by decide) (by decide)) q123a q123c (g := (mkF m 385 #[.val (.int p0), .val (.long q1), .second, .val (.long q2), .second, .val (.long q3), .second, .val (.long q4), .second, .val (.int i9), .val (.int i10), .val (.int i11), .val (.int i12), .val (.int i13), .val (.ref s1), .val (.ref s2), .val (.int b16), .val (.long j17), .second, .val (.long l1), .second, .val (.long u1), .second, .val (.long j23), .second, .val (.long j25), .second, .val (.long (own_lmin j23 j25)), .second, .val (.long (own_lmax j23 j25)), .second, .val (.ref b6), .val (.ref b41), .val (.int (1 : Int32)), .val (.int (0 : Int32))] [(.ref b41), (.ref b41)])) rfl (by rw [hml]; rfl) (Steps.refl _) (argsL := [(.ref b41)]) (rest := []) (lenOf pd_8 rfl) rfl (by show 2 * 0 + _ ≤ _; exact Nat.le_of_eq rfl) (hb hby at_385) (fun _ _ => ⟨rfl, hs119, (by decide : 9 + 0 ≤ _), (by decide : 28 + 0 ≤ _)⟩)
              dsimp only [Pt.U, Pt.locs, Pt.cells, Pt.slots] at X122 l122 y122 z122 st122 hQ122
              subst l122 y122 z122
              obtain ⟨rfl, Nq122, hs122⟩ := hQ122
              have N124 := Fr.app N121 Nq122
              refine OFin.to (S' := T122.setTop (mkF m 388 #[.val (.int p0), .val (.long q1), .second, .val (.long q2), .second, .val (.long q3), .second, .val (.long q4), .second, .val (.int i9), .val (.int i10), .val (.int i11), .val (.int i12), .val (.int i13), .val (.ref s1), .val (.ref s2), .val (.int b16), .val (.long j17), .second, .val (.long l1), .second, .val (.long u1), .second, .val (.long j23), .second, .val (.long j25), .second, .val (.long (own_lmin j23 j25)), .second, .val (.long (own_lmax j23 j25)), .second, .val (.ref b6), .val (.ref b41), .val (.int (1 : Int32)), .val (.int (0 : Int32))] [(.int (own_cont (1 : Int32) (own_lmin j23 j25) (own_lmax j23 j25) (own_lmin j23 j25) (own_lmax j23 j25)))])) st122 ?_
              refine OFin.of (S' := T122.setTop (mkF m 396 #[.val (.int p0), .val (.long q1), .second, .val (.long q2), .second, .val (.long q3), .second, .val (.long q4), .second, .val (.int i9), .val (.int i10), .val (.int i11), .val (.int i12), .val (.int i13), .val (.ref s1), .val (.ref s2), .val (.int b16), .val (.long j17), .second, .val (.long l1), .second, .val (.long u1), .second, .val (.long j23), .second, .val (.long j25), .second, .val (.long (own_lmin j23 j25)), .second, .val (.long (own_lmax j23 j25)), .second, .val (.ref b6), .val (.ref b41), .val (.int (1 : Int32)), .val (.int (0 : Int32))] [(.int (1 : Int32))])) (fun t ht => ?_) ?_
              · refine XS.ifNo X122.here hx rfl (hb hby at_388) rfl ((if0 _ _).trans (feq (own_r3 _ _ : ¬ ((own_cont (1 : Int32) (own_lmin j23 j25) (own_lmax j23 j25) (own_lmin j23 j25) (own_lmax j23 j25)) = (0 : Int32)))).1) ?_
                show Steps p.tables e below (T122.setTop (mkF m 391 _ [])) _
                refine XS.iconst X122.here hx rfl (hb hby at_391) ?_
                show Steps p.tables e below (T122.setTop (mkF m 392 _ [(.int (1 : Int32))])) _
                refine XS.goto X122.here hx rfl (pc0 := 392) (pc' := 396) rfl (hb hby at_392) (by decide) (by decide) ?_
                exact ht
              exact OFin.retB X122 hx hlk (t := .boolean) (by simp) hret (hb hby at_396) (by decide) (by decide) (by rw [hs122]; exact hQ _ _ N124)
          · refine OFin.of (S' := T101.setTop (mkF m 361 #[.val (.int p0), .val (.long q1), .second, .val (.long q2), .second, .val (.long q3), .second, .val (.long q4), .second, .val (.int i9), .val (.int i10), .val (.int i11), .val (.int i12), .val (.int i13), .val (.ref s1), .val (.ref s2), .val (.int b16), .val (.long j17), .second, .val (.long l1), .second, .val (.long u1), .second, .val (.long j23), .second, .val (.long j25), .second, .val (.long (own_lmin j23 j25)), .second, .val (.long (own_lmax j23 j25)), .second, .val (.ref b6), .val (.ref b41), .val (.int (1 : Int32)), .val (.int (0 : Int32))] [(.ref b41), (.ref b6)])) (fun t ht => ?_) ?_
            · refine XS.ifYes X101.here hx rfl (pc0 := 334) (pc' := 354) rfl (hb hby at_334) rfl ((if0 _ _).trans (feq (hc103 : ¬ ((lcmpW (own_lmin l1 (own_lmin j23 j25)) (own_lmin j23 j25)) = (0 : Int32)))).2) (by decide) (by decide) ?_
              show Steps p.tables e below (T101.setTop (mkF m 354 _ [])) _
              refine XS.iconst X101.here hx rfl (hb hby at_354) ?_
              show Steps p.tables e below (T101.setTop (mkF m 355 _ [(.int (0 : Int32))])) _
              refine XS.istore X101.here hx rfl (hb hby at_355) rfl (l' := #[.val (.int p0), .val (.long q1), .second, .val (.long q2), .second, .val (.long q3), .second, .val (.long q4), .second, .val (.int i9), .val (.int i10), .val (.int i11), .val (.int i12), .val (.int i13), .val (.ref s1), .val (.ref s2), .val (.int b16), .val (.long j17), .second, .val (.long l1), .second, .val (.long u1), .second, .val (.long j23), .second, .val (.long j25), .second, .val (.long (own_lmin j23 j25)), .second, .val (.long (own_lmax j23 j25)), .second, .val (.ref b6), .val (.ref b41), .val (.int (1 : Int32)), .val (.int (0 : Int32))]) rfl ?_
              show Steps p.tables e below (T101.setTop (mkF m 357 #[.val (.int p0), .val (.long q1), .second, .val (.long q2), .second, .val (.long q3), .second, .val (.long q4), .second, .val (.int i9), .val (.int i10), .val (.int i11), .val (.int i12), .val (.int i13), .val (.ref s1), .val (.ref s2), .val (.int b16), .val (.long j17), .second, .val (.long l1), .second, .val (.long u1), .second, .val (.long j23), .second, .val (.long j25), .second, .val (.long (own_lmin j23 j25)), .second, .val (.long (own_lmax j23 j25)), .second, .val (.ref b6), .val (.ref b41), .val (.int (1 : Int32)), .val (.int (0 : Int32))] [])) _
              refine XS.aload X101.here hx rfl (hb hby at_357) rfl rfl ?_
              show Steps p.tables e below (T101.setTop (mkF m 359 _ [(.ref b6)])) _
              refine XS.aload X101.here hx rfl (hb hby at_359) rfl rfl ?_
              exact ht
            obtain ⟨cq126, kq126, q126a, q126b, q126c⟩ := isOf hZ hs101 f79
            obtain ⟨_, _, ⟨T125, L125, k125, n125⟩, -, X125, ⟨Lc125, hQ125, l125, y125, z125⟩, st125⟩ := X101.virtualBack hx (y := (⟨"com/example/greylag/greylag/model/Bundle", "contains", "(Lcom/example/greylag/greylag/model/Bundle;)Z"⟩ : MethodName)) (z := (⟨"com/example/greylag/greylag/model/Bundle", "contains", "(Lcom/example/greylag/greylag/model/Bundle;)Z"⟩ : MethodName)) hown (mvT hZ (hw _ (List.mem_of_getElem? (i := 52) rfl))) (mvT hZ (hw _ (List.mem_of_getElem? (i := 53) rfl))) (notFace_of_selects (args := #[]) (mvT hZ (hw _ (List.mem_of_getElem? (i := 55) rfl)))) (mvT hZ (hw _ (List.mem_of_getElem? (i := 55) rfl))) (mvT hZ (hw _ (List.mem_of_getElem? (i := 54) rfl))) (by decide) (backOf (W := 0) (rmCo21 l Z _ hw [] b6 b41 s1 s2 l1 u1 (own_lmin j23 j25) (own_lmax j23 j25) (0 : Int32) T65.heap n0 Z84 f80 f66 f81 f67 f82 f68 f71 (rmEq21 l Z _ hw [] s1 s2 t1 t2 k1 k2 cs x0 x1 y0 T65.heap n0 Z84 f75 f72 f76 f73 f77 f74 f78 f70 hcs na0)) hZ (hw _ (List.mem_of_getElem? (i := 56) rfl)) (hw _ (List.mem_of_getElem? (i := 41) rfl)) (by decide) (by decide)) q126a q126c (g := (mkF m 361 #[.val (.int p0), .val (.long q1), .second, .val (.long q2), .second, .val (.long q3), .second, .val (.long q4), .second, .val (.int i9), .val (.int i10), .val (.int i11), .val (.int i12), .val (.int i13), .val (.ref s1), .val (.ref s2), .val (.int b16), .val (.long j17), .second, .val (.long l1), .second, .val (.long u1), .second, .val (.long j23), .second, .val (.long j25), .second, .val (.long (own_lmin j23 j25)), .second, .val (.long (own_lmax j23 j25)), .second, .val (.ref b6), .val (.ref b41), .val (.int (1 : Int32)), .val (.int (0 : Int32))] [(.ref b41), (.ref b6)])) rfl (by rw [hml]; rfl) (Steps.refl _) (argsL := [(.ref b41)]) (rest := []) (lenOf pd_8 rfl) rfl (by show 2 * 0 + _ ≤ _; exact Nat.le_of_eq rfl) (hb hby at_361) (fun _ _ => ⟨rfl, hs101, (by decide : 9 + 0 ≤ _), (by decide : 28 + 0 ≤ _)⟩)
            dsimp only [Pt.U, Pt.locs, Pt.cells, Pt.slots] at X125 l125 y125 z125 st125 hQ125
            subst l125 y125 z125
            obtain ⟨rfl, Nq125, hs125⟩ := hQ125
            have N127 := Fr.app N102 Nq125
            refine OFin.to (S' := T125.setTop (mkF m 364 #[.val (.int p0), .val (.long q1), .second, .val (.long q2), .second, .val (.long q3), .second, .val (.long q4), .second, .val (.int i9), .val (.int i10), .val (.int i11), .val (.int i12), .val (.int i13), .val (.ref s1), .val (.ref s2), .val (.int b16), .val (.long j17), .second, .val (.long l1), .second, .val (.long u1), .second, .val (.long j23), .second, .val (.long j25), .second, .val (.long (own_lmin j23 j25)), .second, .val (.long (own_lmax j23 j25)), .second, .val (.ref b6), .val (.ref b41), .val (.int (1 : Int32)), .val (.int (0 : Int32))] [(.int (own_cont (0 : Int32) l1 u1 (own_lmin j23 j25) (own_lmax j23 j25)))])) st125 ?_
            refine OFin.of (S' := T125.setTop (mkF m 373 #[.val (.int p0), .val (.long q1), .second, .val (.long q2), .second, .val (.long q3), .second, .val (.long q4), .second, .val (.int i9), .val (.int i10), .val (.int i11), .val (.int i12), .val (.int i13), .val (.ref s1), .val (.ref s2), .val (.int b16), .val (.long j17), .second, .val (.long l1), .second, .val (.long u1), .second, .val (.long j23), .second, .val (.long j25), .second, .val (.long (own_lmin j23 j25)), .second, .val (.long (own_lmax j23 j25)), .second, .val (.ref b6), .val (.ref b41), .val (.int (1 : Int32)), .val (.int (0 : Int32))] [(.ref b6), (.ref b41)])) (fun t ht => ?_) ?_
            · refine XS.iload X125.here hx rfl (hb hby at_364) rfl ?_
              show Steps p.tables e below (T125.setTop (mkF m 366 _ [(.int (1 : Int32)), (.int (own_cont (0 : Int32) l1 u1 (own_lmin j23 j25) (own_lmax j23 j25)))])) _
              refine XS.icmpNo X125.here hx rfl (hb hby at_366) rfl (teq (own_t3 hE hc85 hc97 hc100 : (own_cont (0 : Int32) l1 u1 (own_lmin j23 j25) (own_lmax j23 j25)) = (1 : Int32))).2 ?_
              show Steps p.tables e below (T125.setTop (mkF m 369 _ [])) _
              refine XS.aload X125.here hx rfl (hb hby at_369) rfl rfl ?_
              show Steps p.tables e below (T125.setTop (mkF m 371 _ [(.ref b41)])) _
              refine XS.aload X125.here hx rfl (hb hby at_371) rfl rfl ?_
              exact ht
            obtain ⟨cq129, kq129, q129a, q129b, q129c⟩ := isOf hZ hs125 f83
            obtain ⟨_, _, ⟨T128, L128, k128, n128⟩, -, X128, ⟨Lc128, hQ128, l128, y128, z128⟩, st128⟩ := X125.virtualBack hx (y := (⟨"com/example/greylag/greylag/model/Bundle", "contains", "(Lcom/example/greylag/greylag/model/Bundle;)Z"⟩ : MethodName)) (z := (⟨"com/example/greylag/greylag/model/Bundle", "contains", "(Lcom/example/greylag/greylag/model/Bundle;)Z"⟩ : MethodName)) hown (mvT hZ (hw _ (List.mem_of_getElem? (i := 52) rfl))) (mvT hZ (hw _ (List.mem_of_getElem? (i := 53) rfl))) (notFace_of_selects (args := #[]) (mvT hZ (hw _ (List.mem_of_getElem? (i := 55) rfl)))) (mvT hZ (hw _ (List.mem_of_getElem? (i := 55) rfl))) (mvT hZ (hw _ (List.mem_of_getElem? (i := 54) rfl))) (by decide) (backOf (W := 0) (rmCo12 l Z _ hw [] b41 b6 s2 s1 (own_lmin j23 j25) (own_lmax j23 j25) l1 u1 (0 : Int32) T65.heap n0 Z84 f66 f80 f67 f81 f68 f82 f75 (rmEq12 l Z _ hw [] s2 s1 t2 t1 k2 k1 cs y0 x0 x1 T65.heap n0 Z84 f71 f76 f72 f77 f73 f78 f74 f70 hcs (Ne.symm na0))) hZ (hw _ (List.mem_of_getElem? (i := 56) rfl)) (hw _ (List.mem_of_getElem? (i := 41) rfl)) (by decide) (by decide)) q129a q129c (g := (mkF m 373 #[.val (.int p0), .val (.long q1), .second, .val (.long q2), .second, .val (.long q3), .second, .val (.long q4), .second, .val (.int i9), .val (.int i10), .val (.int i11), .val (.int i12), .val (.int i13), .val (.ref s1), .val (.ref s2), .val (.int b16), .val (.long j17), .second, .val (.long l1), .second, .val (.long u1), .second, .val (.long j23), .second, .val (.long j25), .second, .val (.long (own_lmin j23 j25)), .second, .val (.long (own_lmax j23 j25)), .second, .val (.ref b6), .val (.ref b41), .val (.int (1 : Int32)), .val (.int (0 : Int32))] [(.ref b6), (.ref b41)])) rfl (by rw [hml]; rfl) (Steps.refl _) (argsL := [(.ref b6)]) (rest := []) (lenOf pd_8 rfl) rfl (by show 2 * 0 + _ ≤ _; exact Nat.le_of_eq rfl) (hb hby at_373) (fun _ _ => ⟨rfl, hs125, (by decide : 9 + 0 ≤ _), (by decide : 28 + 0 ≤ _)⟩)
            dsimp only [Pt.U, Pt.locs, Pt.cells, Pt.slots] at X128 l128 y128 z128 st128 hQ128
            subst l128 y128 z128
            obtain ⟨rfl, Nq128, hs128⟩ := hQ128
            have N130 := Fr.app N127 Nq128
            refine OFin.to (S' := T128.setTop (mkF m 376 #[.val (.int p0), .val (.long q1), .second, .val (.long q2), .second, .val (.long q3), .second, .val (.long q4), .second, .val (.int i9), .val (.int i10), .val (.int i11), .val (.int i12), .val (.int i13), .val (.ref s1), .val (.ref s2), .val (.int b16), .val (.long j17), .second, .val (.long l1), .second, .val (.long u1), .second, .val (.long j23), .second, .val (.long j25), .second, .val (.long (own_lmin j23 j25)), .second, .val (.long (own_lmax j23 j25)), .second, .val (.ref b6), .val (.ref b41), .val (.int (1 : Int32)), .val (.int (0 : Int32))] [(.int (own_cont (0 : Int32) (own_lmin j23 j25) (own_lmax j23 j25) l1 u1))])) st128 ?_
            refine OFin.of (S' := T128.setTop (mkF m 385 #[.val (.int p0), .val (.long q1), .second, .val (.long q2), .second, .val (.long q3), .second, .val (.long q4), .second, .val (.int i9), .val (.int i10), .val (.int i11), .val (.int i12), .val (.int i13), .val (.ref s1), .val (.ref s2), .val (.int b16), .val (.long j17), .second, .val (.long l1), .second, .val (.long u1), .second, .val (.long j23), .second, .val (.long j25), .second, .val (.long (own_lmin j23 j25)), .second, .val (.long (own_lmax j23 j25)), .second, .val (.ref b6), .val (.ref b41), .val (.int (1 : Int32)), .val (.int (0 : Int32))] [(.ref b41), (.ref b41)])) (fun t ht => ?_) ?_
            · refine XS.iload X128.here hx rfl (hb hby at_376) rfl ?_
              show Steps p.tables e below (T128.setTop (mkF m 378 _ [(.int (0 : Int32)), (.int (own_cont (0 : Int32) (own_lmin j23 j25) (own_lmax j23 j25) l1 u1))])) _
              refine XS.icmpNo X128.here hx rfl (hb hby at_378) rfl (teq (own_v1 hc103 : (own_cont (0 : Int32) (own_lmin j23 j25) (own_lmax j23 j25) l1 u1) = (0 : Int32))).2 ?_
              show Steps p.tables e below (T128.setTop (mkF m 381 _ [])) _
              refine XS.aload X128.here hx rfl (hb hby at_381) rfl rfl ?_
              show Steps p.tables e below (T128.setTop (mkF m 383 _ [(.ref b41)])) _
              refine XS.aload X128.here hx rfl (hb hby at_383) rfl rfl ?_
              exact ht
            obtain ⟨cq132, kq132, q132a, q132b, q132c⟩ := isOf hZ hs128 f83
            obtain ⟨_, _, ⟨T131, L131, k131, n131⟩, -, X131, ⟨Lc131, hQ131, l131, y131, z131⟩, st131⟩ := X128.virtualBack hx (y := (⟨"com/example/greylag/greylag/model/Bundle", "contains", "(Lcom/example/greylag/greylag/model/Bundle;)Z"⟩ : MethodName)) (z := (⟨"com/example/greylag/greylag/model/Bundle", "contains", "(Lcom/example/greylag/greylag/model/Bundle;)Z"⟩ : MethodName)) hown (mvT hZ (hw _ (List.mem_of_getElem? (i := 52) rfl))) (mvT hZ (hw _ (List.mem_of_getElem? (i := 53) rfl))) (notFace_of_selects (args := #[]) (mvT hZ (hw _ (List.mem_of_getElem? (i := 55) rfl)))) (mvT hZ (hw _ (List.mem_of_getElem? (i := 55) rfl))) (mvT hZ (hw _ (List.mem_of_getElem? (i := 54) rfl))) (by decide) (backOf (W := 0) (rmCos l Z _ hw [] b41 b41 s2 (own_lmin j23 j25) (own_lmax j23 j25) (own_lmin j23 j25) (own_lmax j23 j25) (1 : Int32) T65.heap n0 Z84 f66 f66 f67 f67 f68 f68 f75 (rmEs l Z _ hw [] s2 T65.heap n0 Z84)) hZ (hw _ (List.mem_of_getElem? (i := 56) rfl)) (hw _ (List.mem_of_getElem? (i := 41) rfl)) (by decide) (by decide)) q132a q132c (g := (mkF m 385 #[.val (.int p0), .val (.long q1), .second, .val (.long q2), .second, .val (.long q3), .second, .val (.long q4), .second, .val (.int i9), .val (.int i10), .val (.int i11), .val (.int i12), .val (.int i13), .val (.ref s1), .val (.ref s2), .val (.int b16), .val (.long j17), .second, .val (.long l1), .second, .val (.long u1), .second, .val (.long j23), .second, .val (.long j25), .second, .val (.long (own_lmin j23 j25)), .second, .val (.long (own_lmax j23 j25)), .second, .val (.ref b6), .val (.ref b41), .val (.int (1 : Int32)), .val (.int (0 : Int32))] [(.ref b41), (.ref b41)])) rfl (by rw [hml]; rfl) (Steps.refl _) (argsL := [(.ref b41)]) (rest := []) (lenOf pd_8 rfl) rfl (by show 2 * 0 + _ ≤ _; exact Nat.le_of_eq rfl) (hb hby at_385) (fun _ _ => ⟨rfl, hs128, (by decide : 9 + 0 ≤ _), (by decide : 28 + 0 ≤ _)⟩)
            dsimp only [Pt.U, Pt.locs, Pt.cells, Pt.slots] at X131 l131 y131 z131 st131 hQ131
            subst l131 y131 z131
            obtain ⟨rfl, Nq131, hs131⟩ := hQ131
            have N133 := Fr.app N130 Nq131
            refine OFin.to (S' := T131.setTop (mkF m 388 #[.val (.int p0), .val (.long q1), .second, .val (.long q2), .second, .val (.long q3), .second, .val (.long q4), .second, .val (.int i9), .val (.int i10), .val (.int i11), .val (.int i12), .val (.int i13), .val (.ref s1), .val (.ref s2), .val (.int b16), .val (.long j17), .second, .val (.long l1), .second, .val (.long u1), .second, .val (.long j23), .second, .val (.long j25), .second, .val (.long (own_lmin j23 j25)), .second, .val (.long (own_lmax j23 j25)), .second, .val (.ref b6), .val (.ref b41), .val (.int (1 : Int32)), .val (.int (0 : Int32))] [(.int (own_cont (1 : Int32) (own_lmin j23 j25) (own_lmax j23 j25) (own_lmin j23 j25) (own_lmax j23 j25)))])) st131 ?_
            refine OFin.of (S' := T131.setTop (mkF m 396 #[.val (.int p0), .val (.long q1), .second, .val (.long q2), .second, .val (.long q3), .second, .val (.long q4), .second, .val (.int i9), .val (.int i10), .val (.int i11), .val (.int i12), .val (.int i13), .val (.ref s1), .val (.ref s2), .val (.int b16), .val (.long j17), .second, .val (.long l1), .second, .val (.long u1), .second, .val (.long j23), .second, .val (.long j25), .second, .val (.long (own_lmin j23 j25)), .second, .val (.long (own_lmax j23 j25)), .second, .val (.ref b6), .val (.ref b41), .val (.int (1 : Int32)), .val (.int (0 : Int32))] [(.int (1 : Int32))])) (fun t ht => ?_) ?_
            · refine XS.ifNo X131.here hx rfl (hb hby at_388) rfl ((if0 _ _).trans (feq (own_r3 _ _ : ¬ ((own_cont (1 : Int32) (own_lmin j23 j25) (own_lmax j23 j25) (own_lmin j23 j25) (own_lmax j23 j25)) = (0 : Int32)))).1) ?_
              show Steps p.tables e below (T131.setTop (mkF m 391 _ [])) _
              refine XS.iconst X131.here hx rfl (hb hby at_391) ?_
              show Steps p.tables e below (T131.setTop (mkF m 392 _ [(.int (1 : Int32))])) _
              refine XS.goto X131.here hx rfl (pc0 := 392) (pc' := 396) rfl (hb hby at_392) (by decide) (by decide) ?_
              exact ht
            exact OFin.retB X131 hx hlk (t := .boolean) (by simp) hret (hb hby at_396) (by decide) (by decide) (by rw [hs131]; exact hQ _ _ N133)
        · refine OFin.of (S' := T98.setTop (mkF m 328 #[.val (.int p0), .val (.long q1), .second, .val (.long q2), .second, .val (.long q3), .second, .val (.long q4), .second, .val (.int i9), .val (.int i10), .val (.int i11), .val (.int i12), .val (.int i13), .val (.ref s1), .val (.ref s2), .val (.int b16), .val (.long j17), .second, .val (.long l1), .second, .val (.long u1), .second, .val (.long j23), .second, .val (.long j25), .second, .val (.long (own_lmin j23 j25)), .second, .val (.long (own_lmax j23 j25)), .second, .val (.ref b6), .val (.ref b41), .val (.int (0 : Int32)), .unset] [(.long (own_lmin j23 j25)), (.long l1)])) (fun t ht => ?_) ?_
          · refine XS.ifYes X98.here hx rfl (pc0 := 309) (pc' := 316) rfl (hb hby at_309) rfl ((if0 _ _).trans (feq (hc100 : ¬ ((lcmpW (own_lmax u1 (own_lmax j23 j25)) u1) = (0 : Int32)))).2) (by decide) (by decide) ?_
            show Steps p.tables e below (T98.setTop (mkF m 316 _ [])) _
            refine XS.iconst X98.here hx rfl (hb hby at_316) ?_
            show Steps p.tables e below (T98.setTop (mkF m 317 _ [(.int (0 : Int32))])) _
            refine XS.istore X98.here hx rfl (hb hby at_317) rfl (l' := #[.val (.int p0), .val (.long q1), .second, .val (.long q2), .second, .val (.long q3), .second, .val (.long q4), .second, .val (.int i9), .val (.int i10), .val (.int i11), .val (.int i12), .val (.int i13), .val (.ref s1), .val (.ref s2), .val (.int b16), .val (.long j17), .second, .val (.long l1), .second, .val (.long u1), .second, .val (.long j23), .second, .val (.long j25), .second, .val (.long (own_lmin j23 j25)), .second, .val (.long (own_lmax j23 j25)), .second, .val (.ref b6), .val (.ref b41), .val (.int (0 : Int32)), .unset]) rfl ?_
            show Steps p.tables e below (T98.setTop (mkF m 319 #[.val (.int p0), .val (.long q1), .second, .val (.long q2), .second, .val (.long q3), .second, .val (.long q4), .second, .val (.int i9), .val (.int i10), .val (.int i11), .val (.int i12), .val (.int i13), .val (.ref s1), .val (.ref s2), .val (.int b16), .val (.long j17), .second, .val (.long l1), .second, .val (.long u1), .second, .val (.long j23), .second, .val (.long j25), .second, .val (.long (own_lmin j23 j25)), .second, .val (.long (own_lmax j23 j25)), .second, .val (.ref b6), .val (.ref b41), .val (.int (0 : Int32)), .unset] [])) _
            refine XS.iload X98.here hx rfl (hb hby at_319) rfl ?_
            show Steps p.tables e below (T98.setTop (mkF m 321 _ [(.int b16)])) _
            refine XS.ifNo X98.here hx rfl (hb hby at_321) rfl ((if0 _ _).trans (feq (hc85 : ¬ (b16 = (0 : Int32)))).1) ?_
            show Steps p.tables e below (T98.setTop (mkF m 324 _ [])) _
            refine XS.lload X98.here hx rfl (hb hby at_324) rfl ?_
            show Steps p.tables e below (T98.setTop (mkF m 326 _ [(.long l1)])) _
            refine XS.lload X98.here hx rfl (hb hby at_326) rfl ?_
            exact ht
          obtain ⟨_, _, ⟨T134, L134, k134, n134⟩, -, X134, ⟨Lc134, hQ134, l134, y134, z134⟩, st134⟩ := Jvm.LawKit.callS X98 hx (y := (⟨"java/lang/Math", "min", "(JJ)J"⟩ : MethodName)) hown (mvT hZ (hw _ (List.mem_of_getElem? (i := 32) rfl))) (mvT hZ (hw _ (List.mem_of_getElem? (i := 33) rfl))) (mvT hZ (hw _ (List.mem_of_getElem? (i := 34) rfl))) (mvT hZ (hw _ (List.mem_of_getElem? (i := 35) rfl))) (by decide) (backOf (W := 0) (rmMn l Z _ hw [] l1 (own_lmin j23 j25) T65.heap n0 Z84 ) hZ (hw _ (List.mem_of_getElem? (i := 35) rfl)) (hw _ (List.mem_of_getElem? (i := 34) rfl)) (by decide) (by decide)) (g := (mkF m 328 #[.val (.int p0), .val (.long q1), .second, .val (.long q2), .second, .val (.long q3), .second, .val (.long q4), .second, .val (.int i9), .val (.int i10), .val (.int i11), .val (.int i12), .val (.int i13), .val (.ref s1), .val (.ref s2), .val (.int b16), .val (.long j17), .second, .val (.long l1), .second, .val (.long u1), .second, .val (.long j23), .second, .val (.long j25), .second, .val (.long (own_lmin j23 j25)), .second, .val (.long (own_lmax j23 j25)), .second, .val (.ref b6), .val (.ref b41), .val (.int (0 : Int32)), .unset] [(.long (own_lmin j23 j25)), (.long l1)])) rfl (by rw [hml]; rfl) (argsL := [(.long l1), (.long (own_lmin j23 j25))]) (rest := []) (lenOf pd_6 rfl) rfl (by show 2 * 0 + _ ≤ _; exact Nat.le_of_eq rfl) (hb hby at_328) (fun _ _ => ⟨rfl, hs98, (by decide : 9 + 0 ≤ _), (by decide : 28 + 0 ≤ _)⟩)
          dsimp only [Pt.U, Pt.locs, Pt.cells, Pt.slots] at X134 l134 y134 z134 st134 hQ134
          subst l134 y134 z134
          obtain ⟨rfl, Nq134, hs134⟩ := hQ134
          have N135 := Fr.app N99 Nq134
          refine OFin.of (S' := T134.setTop (mkF m 331 #[.val (.int p0), .val (.long q1), .second, .val (.long q2), .second, .val (.long q3), .second, .val (.long q4), .second, .val (.int i9), .val (.int i10), .val (.int i11), .val (.int i12), .val (.int i13), .val (.ref s1), .val (.ref s2), .val (.int b16), .val (.long j17), .second, .val (.long l1), .second, .val (.long u1), .second, .val (.long j23), .second, .val (.long j25), .second, .val (.long (own_lmin j23 j25)), .second, .val (.long (own_lmax j23 j25)), .second, .val (.ref b6), .val (.ref b41), .val (.int (0 : Int32)), .unset] [(.long (own_lmin l1 (own_lmin j23 j25)))])) (fun t ht => st134 t ht) ?_
          refine OFin.of (S' := T134.setTop (mkF m 334 #[.val (.int p0), .val (.long q1), .second, .val (.long q2), .second, .val (.long q3), .second, .val (.long q4), .second, .val (.int i9), .val (.int i10), .val (.int i11), .val (.int i12), .val (.int i13), .val (.ref s1), .val (.ref s2), .val (.int b16), .val (.long j17), .second, .val (.long l1), .second, .val (.long u1), .second, .val (.long j23), .second, .val (.long j25), .second, .val (.long (own_lmin j23 j25)), .second, .val (.long (own_lmax j23 j25)), .second, .val (.ref b6), .val (.ref b41), .val (.int (0 : Int32)), .unset] [(.int (lcmpW (own_lmin l1 (own_lmin j23 j25)) (own_lmin j23 j25)))])) (fun t ht => ?_) ?_
          · refine XS.lload X134.here hx rfl (hb hby at_331) rfl ?_
            show Steps p.tables e below (T134.setTop (mkF m 333 _ [(.long (own_lmin j23 j25)), (.long (own_lmin l1 (own_lmin j23 j25)))])) _
            refine XS.lcmp X134.here hx rfl (hb hby at_333) rfl ?_
            exact ht
          by_cases hc136 : (lcmpW (own_lmin l1 (own_lmin j23 j25)) (own_lmin j23 j25)) = (0 : Int32)
          · refine OFin.of (S' := T134.setTop (mkF m 341 #[.val (.int p0), .val (.long q1), .second, .val (.long q2), .second, .val (.long q3), .second, .val (.long q4), .second, .val (.int i9), .val (.int i10), .val (.int i11), .val (.int i12), .val (.int i13), .val (.ref s1), .val (.ref s2), .val (.int b16), .val (.long j17), .second, .val (.long l1), .second, .val (.long u1), .second, .val (.long j23), .second, .val (.long j25), .second, .val (.long (own_lmin j23 j25)), .second, .val (.long (own_lmax j23 j25)), .second, .val (.ref b6), .val (.ref b41), .val (.int (0 : Int32)), .unset] [(.long (own_lmax j23 j25)), (.long u1)])) (fun t ht => ?_) ?_
            · refine XS.ifNo X134.here hx rfl (hb hby at_334) rfl ((if0 _ _).trans (teq (hc136 : (lcmpW (own_lmin l1 (own_lmin j23 j25)) (own_lmin j23 j25)) = (0 : Int32))).2) ?_
              show Steps p.tables e below (T134.setTop (mkF m 337 _ [])) _
              refine XS.lload X134.here hx rfl (hb hby at_337) rfl ?_
              show Steps p.tables e below (T134.setTop (mkF m 339 _ [(.long u1)])) _
              refine XS.lload X134.here hx rfl (hb hby at_339) rfl ?_
              exact ht
            obtain ⟨_, _, ⟨T137, L137, k137, n137⟩, -, X137, ⟨Lc137, hQ137, l137, y137, z137⟩, st137⟩ := Jvm.LawKit.callS X134 hx (y := (⟨"java/lang/Math", "max", "(JJ)J"⟩ : MethodName)) hown (mvT hZ (hw _ (List.mem_of_getElem? (i := 36) rfl))) (mvT hZ (hw _ (List.mem_of_getElem? (i := 37) rfl))) (mvT hZ (hw _ (List.mem_of_getElem? (i := 34) rfl))) (mvT hZ (hw _ (List.mem_of_getElem? (i := 38) rfl))) (by decide) (backOf (W := 0) (rmMx l Z _ hw [] u1 (own_lmax j23 j25) T65.heap n0 Z84 ) hZ (hw _ (List.mem_of_getElem? (i := 38) rfl)) (hw _ (List.mem_of_getElem? (i := 34) rfl)) (by decide) (by decide)) (g := (mkF m 341 #[.val (.int p0), .val (.long q1), .second, .val (.long q2), .second, .val (.long q3), .second, .val (.long q4), .second, .val (.int i9), .val (.int i10), .val (.int i11), .val (.int i12), .val (.int i13), .val (.ref s1), .val (.ref s2), .val (.int b16), .val (.long j17), .second, .val (.long l1), .second, .val (.long u1), .second, .val (.long j23), .second, .val (.long j25), .second, .val (.long (own_lmin j23 j25)), .second, .val (.long (own_lmax j23 j25)), .second, .val (.ref b6), .val (.ref b41), .val (.int (0 : Int32)), .unset] [(.long (own_lmax j23 j25)), (.long u1)])) rfl (by rw [hml]; rfl) (argsL := [(.long u1), (.long (own_lmax j23 j25))]) (rest := []) (lenOf pd_6 rfl) rfl (by show 2 * 0 + _ ≤ _; exact Nat.le_of_eq rfl) (hb hby at_341) (fun _ _ => ⟨rfl, hs134, (by decide : 9 + 0 ≤ _), (by decide : 28 + 0 ≤ _)⟩)
            dsimp only [Pt.U, Pt.locs, Pt.cells, Pt.slots] at X137 l137 y137 z137 st137 hQ137
            subst l137 y137 z137
            obtain ⟨rfl, Nq137, hs137⟩ := hQ137
            have N138 := Fr.app N135 Nq137
            refine OFin.of (S' := T137.setTop (mkF m 344 #[.val (.int p0), .val (.long q1), .second, .val (.long q2), .second, .val (.long q3), .second, .val (.long q4), .second, .val (.int i9), .val (.int i10), .val (.int i11), .val (.int i12), .val (.int i13), .val (.ref s1), .val (.ref s2), .val (.int b16), .val (.long j17), .second, .val (.long l1), .second, .val (.long u1), .second, .val (.long j23), .second, .val (.long j25), .second, .val (.long (own_lmin j23 j25)), .second, .val (.long (own_lmax j23 j25)), .second, .val (.ref b6), .val (.ref b41), .val (.int (0 : Int32)), .unset] [(.long (own_lmax u1 (own_lmax j23 j25)))])) (fun t ht => st137 t ht) ?_
            refine OFin.of (S' := T137.setTop (mkF m 347 #[.val (.int p0), .val (.long q1), .second, .val (.long q2), .second, .val (.long q3), .second, .val (.long q4), .second, .val (.int i9), .val (.int i10), .val (.int i11), .val (.int i12), .val (.int i13), .val (.ref s1), .val (.ref s2), .val (.int b16), .val (.long j17), .second, .val (.long l1), .second, .val (.long u1), .second, .val (.long j23), .second, .val (.long j25), .second, .val (.long (own_lmin j23 j25)), .second, .val (.long (own_lmax j23 j25)), .second, .val (.ref b6), .val (.ref b41), .val (.int (0 : Int32)), .unset] [(.int (lcmpW (own_lmax u1 (own_lmax j23 j25)) (own_lmax j23 j25)))])) (fun t ht => ?_) ?_
            · refine XS.lload X137.here hx rfl (hb hby at_344) rfl ?_
              show Steps p.tables e below (T137.setTop (mkF m 346 _ [(.long (own_lmax j23 j25)), (.long (own_lmax u1 (own_lmax j23 j25)))])) _
              refine XS.lcmp X137.here hx rfl (hb hby at_346) rfl ?_
              exact ht
            by_cases hc139 : (lcmpW (own_lmax u1 (own_lmax j23 j25)) (own_lmax j23 j25)) = (0 : Int32)
            · refine OFin.of (S' := T137.setTop (mkF m 361 #[.val (.int p0), .val (.long q1), .second, .val (.long q2), .second, .val (.long q3), .second, .val (.long q4), .second, .val (.int i9), .val (.int i10), .val (.int i11), .val (.int i12), .val (.int i13), .val (.ref s1), .val (.ref s2), .val (.int b16), .val (.long j17), .second, .val (.long l1), .second, .val (.long u1), .second, .val (.long j23), .second, .val (.long j25), .second, .val (.long (own_lmin j23 j25)), .second, .val (.long (own_lmax j23 j25)), .second, .val (.ref b6), .val (.ref b41), .val (.int (0 : Int32)), .val (.int (1 : Int32))] [(.ref b41), (.ref b6)])) (fun t ht => ?_) ?_
              · refine XS.ifNo X137.here hx rfl (hb hby at_347) rfl ((if0 _ _).trans (teq (hc139 : (lcmpW (own_lmax u1 (own_lmax j23 j25)) (own_lmax j23 j25)) = (0 : Int32))).2) ?_
                show Steps p.tables e below (T137.setTop (mkF m 350 _ [])) _
                refine XS.iconst X137.here hx rfl (hb hby at_350) ?_
                show Steps p.tables e below (T137.setTop (mkF m 351 _ [(.int (1 : Int32))])) _
                refine XS.goto X137.here hx rfl (pc0 := 351) (pc' := 355) rfl (hb hby at_351) (by decide) (by decide) ?_
                show Steps p.tables e below (T137.setTop (mkF m 355 _ [(.int (1 : Int32))])) _
                refine XS.istore X137.here hx rfl (hb hby at_355) rfl (l' := #[.val (.int p0), .val (.long q1), .second, .val (.long q2), .second, .val (.long q3), .second, .val (.long q4), .second, .val (.int i9), .val (.int i10), .val (.int i11), .val (.int i12), .val (.int i13), .val (.ref s1), .val (.ref s2), .val (.int b16), .val (.long j17), .second, .val (.long l1), .second, .val (.long u1), .second, .val (.long j23), .second, .val (.long j25), .second, .val (.long (own_lmin j23 j25)), .second, .val (.long (own_lmax j23 j25)), .second, .val (.ref b6), .val (.ref b41), .val (.int (0 : Int32)), .val (.int (1 : Int32))]) rfl ?_
                show Steps p.tables e below (T137.setTop (mkF m 357 #[.val (.int p0), .val (.long q1), .second, .val (.long q2), .second, .val (.long q3), .second, .val (.long q4), .second, .val (.int i9), .val (.int i10), .val (.int i11), .val (.int i12), .val (.int i13), .val (.ref s1), .val (.ref s2), .val (.int b16), .val (.long j17), .second, .val (.long l1), .second, .val (.long u1), .second, .val (.long j23), .second, .val (.long j25), .second, .val (.long (own_lmin j23 j25)), .second, .val (.long (own_lmax j23 j25)), .second, .val (.ref b6), .val (.ref b41), .val (.int (0 : Int32)), .val (.int (1 : Int32))] [])) _
                refine XS.aload X137.here hx rfl (hb hby at_357) rfl rfl ?_
                show Steps p.tables e below (T137.setTop (mkF m 359 _ [(.ref b6)])) _
                refine XS.aload X137.here hx rfl (hb hby at_359) rfl rfl ?_
                exact ht
              obtain ⟨cq141, kq141, q141a, q141b, q141c⟩ := isOf hZ hs137 f79
              obtain ⟨_, _, ⟨T140, L140, k140, n140⟩, -, X140, ⟨Lc140, hQ140, l140, y140, z140⟩, st140⟩ := X137.virtualBack hx (y := (⟨"com/example/greylag/greylag/model/Bundle", "contains", "(Lcom/example/greylag/greylag/model/Bundle;)Z"⟩ : MethodName)) (z := (⟨"com/example/greylag/greylag/model/Bundle", "contains", "(Lcom/example/greylag/greylag/model/Bundle;)Z"⟩ : MethodName)) hown (mvT hZ (hw _ (List.mem_of_getElem? (i := 52) rfl))) (mvT hZ (hw _ (List.mem_of_getElem? (i := 53) rfl))) (notFace_of_selects (args := #[]) (mvT hZ (hw _ (List.mem_of_getElem? (i := 55) rfl)))) (mvT hZ (hw _ (List.mem_of_getElem? (i := 55) rfl))) (mvT hZ (hw _ (List.mem_of_getElem? (i := 54) rfl))) (by decide) (backOf (W := 0) (rmCo21 l Z _ hw [] b6 b41 s1 s2 l1 u1 (own_lmin j23 j25) (own_lmax j23 j25) (0 : Int32) T65.heap n0 Z84 f80 f66 f81 f67 f82 f68 f71 (rmEq21 l Z _ hw [] s1 s2 t1 t2 k1 k2 cs x0 x1 y0 T65.heap n0 Z84 f75 f72 f76 f73 f77 f74 f78 f70 hcs na0)) hZ (hw _ (List.mem_of_getElem? (i := 56) rfl)) (hw _ (List.mem_of_getElem? (i := 41) rfl)) (by decide) (by decide)) q141a q141c (g := (mkF m 361 #[.val (.int p0), .val (.long q1), .second, .val (.long q2), .second, .val (.long q3), .second, .val (.long q4), .second, .val (.int i9), .val (.int i10), .val (.int i11), .val (.int i12), .val (.int i13), .val (.ref s1), .val (.ref s2), .val (.int b16), .val (.long j17), .second, .val (.long l1), .second, .val (.long u1), .second, .val (.long j23), .second, .val (.long j25), .second, .val (.long (own_lmin j23 j25)), .second, .val (.long (own_lmax j23 j25)), .second, .val (.ref b6), .val (.ref b41), .val (.int (0 : Int32)), .val (.int (1 : Int32))] [(.ref b41), (.ref b6)])) rfl (by rw [hml]; rfl) (Steps.refl _) (argsL := [(.ref b41)]) (rest := []) (lenOf pd_8 rfl) rfl (by show 2 * 0 + _ ≤ _; exact Nat.le_of_eq rfl) (hb hby at_361) (fun _ _ => ⟨rfl, hs137, (by decide : 9 + 0 ≤ _), (by decide : 28 + 0 ≤ _)⟩)
              dsimp only [Pt.U, Pt.locs, Pt.cells, Pt.slots] at X140 l140 y140 z140 st140 hQ140
              subst l140 y140 z140
              obtain ⟨rfl, Nq140, hs140⟩ := hQ140
              have N142 := Fr.app N138 Nq140
              refine OFin.to (S' := T140.setTop (mkF m 364 #[.val (.int p0), .val (.long q1), .second, .val (.long q2), .second, .val (.long q3), .second, .val (.long q4), .second, .val (.int i9), .val (.int i10), .val (.int i11), .val (.int i12), .val (.int i13), .val (.ref s1), .val (.ref s2), .val (.int b16), .val (.long j17), .second, .val (.long l1), .second, .val (.long u1), .second, .val (.long j23), .second, .val (.long j25), .second, .val (.long (own_lmin j23 j25)), .second, .val (.long (own_lmax j23 j25)), .second, .val (.ref b6), .val (.ref b41), .val (.int (0 : Int32)), .val (.int (1 : Int32))] [(.int (own_cont (0 : Int32) l1 u1 (own_lmin j23 j25) (own_lmax j23 j25)))])) st140 ?_
              refine OFin.of (S' := T140.setTop (mkF m 373 #[.val (.int p0), .val (.long q1), .second, .val (.long q2), .second, .val (.long q3), .second, .val (.long q4), .second, .val (.int i9), .val (.int i10), .val (.int i11), .val (.int i12), .val (.int i13), .val (.ref s1), .val (.ref s2), .val (.int b16), .val (.long j17), .second, .val (.long l1), .second, .val (.long u1), .second, .val (.long j23), .second, .val (.long j25), .second, .val (.long (own_lmin j23 j25)), .second, .val (.long (own_lmax j23 j25)), .second, .val (.ref b6), .val (.ref b41), .val (.int (0 : Int32)), .val (.int (1 : Int32))] [(.ref b6), (.ref b41)])) (fun t ht => ?_) ?_
              · refine XS.iload X140.here hx rfl (hb hby at_364) rfl ?_
                show Steps p.tables e below (T140.setTop (mkF m 366 _ [(.int (0 : Int32)), (.int (own_cont (0 : Int32) l1 u1 (own_lmin j23 j25) (own_lmax j23 j25)))])) _
                refine XS.icmpNo X140.here hx rfl (hb hby at_366) rfl (teq (own_t2 hc100 : (own_cont (0 : Int32) l1 u1 (own_lmin j23 j25) (own_lmax j23 j25)) = (0 : Int32))).2 ?_
                show Steps p.tables e below (T140.setTop (mkF m 369 _ [])) _
                refine XS.aload X140.here hx rfl (hb hby at_369) rfl rfl ?_
                show Steps p.tables e below (T140.setTop (mkF m 371 _ [(.ref b41)])) _
                refine XS.aload X140.here hx rfl (hb hby at_371) rfl rfl ?_
                exact ht
              obtain ⟨cq144, kq144, q144a, q144b, q144c⟩ := isOf hZ hs140 f83
              obtain ⟨_, _, ⟨T143, L143, k143, n143⟩, -, X143, ⟨Lc143, hQ143, l143, y143, z143⟩, st143⟩ := X140.virtualBack hx (y := (⟨"com/example/greylag/greylag/model/Bundle", "contains", "(Lcom/example/greylag/greylag/model/Bundle;)Z"⟩ : MethodName)) (z := (⟨"com/example/greylag/greylag/model/Bundle", "contains", "(Lcom/example/greylag/greylag/model/Bundle;)Z"⟩ : MethodName)) hown (mvT hZ (hw _ (List.mem_of_getElem? (i := 52) rfl))) (mvT hZ (hw _ (List.mem_of_getElem? (i := 53) rfl))) (notFace_of_selects (args := #[]) (mvT hZ (hw _ (List.mem_of_getElem? (i := 55) rfl)))) (mvT hZ (hw _ (List.mem_of_getElem? (i := 55) rfl))) (mvT hZ (hw _ (List.mem_of_getElem? (i := 54) rfl))) (by decide) (backOf (W := 0) (rmCo12 l Z _ hw [] b41 b6 s2 s1 (own_lmin j23 j25) (own_lmax j23 j25) l1 u1 (0 : Int32) T65.heap n0 Z84 f66 f80 f67 f81 f68 f82 f75 (rmEq12 l Z _ hw [] s2 s1 t2 t1 k2 k1 cs y0 x0 x1 T65.heap n0 Z84 f71 f76 f72 f77 f73 f78 f74 f70 hcs (Ne.symm na0))) hZ (hw _ (List.mem_of_getElem? (i := 56) rfl)) (hw _ (List.mem_of_getElem? (i := 41) rfl)) (by decide) (by decide)) q144a q144c (g := (mkF m 373 #[.val (.int p0), .val (.long q1), .second, .val (.long q2), .second, .val (.long q3), .second, .val (.long q4), .second, .val (.int i9), .val (.int i10), .val (.int i11), .val (.int i12), .val (.int i13), .val (.ref s1), .val (.ref s2), .val (.int b16), .val (.long j17), .second, .val (.long l1), .second, .val (.long u1), .second, .val (.long j23), .second, .val (.long j25), .second, .val (.long (own_lmin j23 j25)), .second, .val (.long (own_lmax j23 j25)), .second, .val (.ref b6), .val (.ref b41), .val (.int (0 : Int32)), .val (.int (1 : Int32))] [(.ref b6), (.ref b41)])) rfl (by rw [hml]; rfl) (Steps.refl _) (argsL := [(.ref b6)]) (rest := []) (lenOf pd_8 rfl) rfl (by show 2 * 0 + _ ≤ _; exact Nat.le_of_eq rfl) (hb hby at_373) (fun _ _ => ⟨rfl, hs140, (by decide : 9 + 0 ≤ _), (by decide : 28 + 0 ≤ _)⟩)
              dsimp only [Pt.U, Pt.locs, Pt.cells, Pt.slots] at X143 l143 y143 z143 st143 hQ143
              subst l143 y143 z143
              obtain ⟨rfl, Nq143, hs143⟩ := hQ143
              have N145 := Fr.app N142 Nq143
              refine OFin.to (S' := T143.setTop (mkF m 376 #[.val (.int p0), .val (.long q1), .second, .val (.long q2), .second, .val (.long q3), .second, .val (.long q4), .second, .val (.int i9), .val (.int i10), .val (.int i11), .val (.int i12), .val (.int i13), .val (.ref s1), .val (.ref s2), .val (.int b16), .val (.long j17), .second, .val (.long l1), .second, .val (.long u1), .second, .val (.long j23), .second, .val (.long j25), .second, .val (.long (own_lmin j23 j25)), .second, .val (.long (own_lmax j23 j25)), .second, .val (.ref b6), .val (.ref b41), .val (.int (0 : Int32)), .val (.int (1 : Int32))] [(.int (own_cont (0 : Int32) (own_lmin j23 j25) (own_lmax j23 j25) l1 u1))])) st143 ?_
              refine OFin.of (S' := T143.setTop (mkF m 385 #[.val (.int p0), .val (.long q1), .second, .val (.long q2), .second, .val (.long q3), .second, .val (.long q4), .second, .val (.int i9), .val (.int i10), .val (.int i11), .val (.int i12), .val (.int i13), .val (.ref s1), .val (.ref s2), .val (.int b16), .val (.long j17), .second, .val (.long l1), .second, .val (.long u1), .second, .val (.long j23), .second, .val (.long j25), .second, .val (.long (own_lmin j23 j25)), .second, .val (.long (own_lmax j23 j25)), .second, .val (.ref b6), .val (.ref b41), .val (.int (0 : Int32)), .val (.int (1 : Int32))] [(.ref b41), (.ref b41)])) (fun t ht => ?_) ?_
              · refine XS.iload X143.here hx rfl (hb hby at_376) rfl ?_
                show Steps p.tables e below (T143.setTop (mkF m 378 _ [(.int (1 : Int32)), (.int (own_cont (0 : Int32) (own_lmin j23 j25) (own_lmax j23 j25) l1 u1))])) _
                refine XS.icmpNo X143.here hx rfl (hb hby at_378) rfl (teq (own_v3 hE hE2 hc85 hc136 hc139 : (own_cont (0 : Int32) (own_lmin j23 j25) (own_lmax j23 j25) l1 u1) = (1 : Int32))).2 ?_
                show Steps p.tables e below (T143.setTop (mkF m 381 _ [])) _
                refine XS.aload X143.here hx rfl (hb hby at_381) rfl rfl ?_
                show Steps p.tables e below (T143.setTop (mkF m 383 _ [(.ref b41)])) _
                refine XS.aload X143.here hx rfl (hb hby at_383) rfl rfl ?_
                exact ht
              obtain ⟨cq147, kq147, q147a, q147b, q147c⟩ := isOf hZ hs143 f83
              obtain ⟨_, _, ⟨T146, L146, k146, n146⟩, -, X146, ⟨Lc146, hQ146, l146, y146, z146⟩, st146⟩ := X143.virtualBack hx (y := (⟨"com/example/greylag/greylag/model/Bundle", "contains", "(Lcom/example/greylag/greylag/model/Bundle;)Z"⟩ : MethodName)) (z := (⟨"com/example/greylag/greylag/model/Bundle", "contains", "(Lcom/example/greylag/greylag/model/Bundle;)Z"⟩ : MethodName)) hown (mvT hZ (hw _ (List.mem_of_getElem? (i := 52) rfl))) (mvT hZ (hw _ (List.mem_of_getElem? (i := 53) rfl))) (notFace_of_selects (args := #[]) (mvT hZ (hw _ (List.mem_of_getElem? (i := 55) rfl)))) (mvT hZ (hw _ (List.mem_of_getElem? (i := 55) rfl))) (mvT hZ (hw _ (List.mem_of_getElem? (i := 54) rfl))) (by decide) (backOf (W := 0) (rmCos l Z _ hw [] b41 b41 s2 (own_lmin j23 j25) (own_lmax j23 j25) (own_lmin j23 j25) (own_lmax j23 j25) (1 : Int32) T65.heap n0 Z84 f66 f66 f67 f67 f68 f68 f75 (rmEs l Z _ hw [] s2 T65.heap n0 Z84)) hZ (hw _ (List.mem_of_getElem? (i := 56) rfl)) (hw _ (List.mem_of_getElem? (i := 41) rfl)) (by decide) (by decide)) q147a q147c (g := (mkF m 385 #[.val (.int p0), .val (.long q1), .second, .val (.long q2), .second, .val (.long q3), .second, .val (.long q4), .second, .val (.int i9), .val (.int i10), .val (.int i11), .val (.int i12), .val (.int i13), .val (.ref s1), .val (.ref s2), .val (.int b16), .val (.long j17), .second, .val (.long l1), .second, .val (.long u1), .second, .val (.long j23), .second, .val (.long j25), .second, .val (.long (own_lmin j23 j25)), .second, .val (.long (own_lmax j23 j25)), .second, .val (.ref b6), .val (.ref b41), .val (.int (0 : Int32)), .val (.int (1 : Int32))] [(.ref b41), (.ref b41)])) rfl (by rw [hml]; rfl) (Steps.refl _) (argsL := [(.ref b41)]) (rest := []) (lenOf pd_8 rfl) rfl (by show 2 * 0 + _ ≤ _; exact Nat.le_of_eq rfl) (hb hby at_385) (fun _ _ => ⟨rfl, hs143, (by decide : 9 + 0 ≤ _), (by decide : 28 + 0 ≤ _)⟩)
              dsimp only [Pt.U, Pt.locs, Pt.cells, Pt.slots] at X146 l146 y146 z146 st146 hQ146
              subst l146 y146 z146
              obtain ⟨rfl, Nq146, hs146⟩ := hQ146
              have N148 := Fr.app N145 Nq146
              refine OFin.to (S' := T146.setTop (mkF m 388 #[.val (.int p0), .val (.long q1), .second, .val (.long q2), .second, .val (.long q3), .second, .val (.long q4), .second, .val (.int i9), .val (.int i10), .val (.int i11), .val (.int i12), .val (.int i13), .val (.ref s1), .val (.ref s2), .val (.int b16), .val (.long j17), .second, .val (.long l1), .second, .val (.long u1), .second, .val (.long j23), .second, .val (.long j25), .second, .val (.long (own_lmin j23 j25)), .second, .val (.long (own_lmax j23 j25)), .second, .val (.ref b6), .val (.ref b41), .val (.int (0 : Int32)), .val (.int (1 : Int32))] [(.int (own_cont (1 : Int32) (own_lmin j23 j25) (own_lmax j23 j25) (own_lmin j23 j25) (own_lmax j23 j25)))])) st146 ?_
              refine OFin.of (S' := T146.setTop (mkF m 396 #[.val (.int p0), .val (.long q1), .second, .val (.long q2), .second, .val (.long q3), .second, .val (.long q4), .second, .val (.int i9), .val (.int i10), .val (.int i11), .val (.int i12), .val (.int i13), .val (.ref s1), .val (.ref s2), .val (.int b16), .val (.long j17), .second, .val (.long l1), .second, .val (.long u1), .second, .val (.long j23), .second, .val (.long j25), .second, .val (.long (own_lmin j23 j25)), .second, .val (.long (own_lmax j23 j25)), .second, .val (.ref b6), .val (.ref b41), .val (.int (0 : Int32)), .val (.int (1 : Int32))] [(.int (1 : Int32))])) (fun t ht => ?_) ?_
              · refine XS.ifNo X146.here hx rfl (hb hby at_388) rfl ((if0 _ _).trans (feq (own_r3 _ _ : ¬ ((own_cont (1 : Int32) (own_lmin j23 j25) (own_lmax j23 j25) (own_lmin j23 j25) (own_lmax j23 j25)) = (0 : Int32)))).1) ?_
                show Steps p.tables e below (T146.setTop (mkF m 391 _ [])) _
                refine XS.iconst X146.here hx rfl (hb hby at_391) ?_
                show Steps p.tables e below (T146.setTop (mkF m 392 _ [(.int (1 : Int32))])) _
                refine XS.goto X146.here hx rfl (pc0 := 392) (pc' := 396) rfl (hb hby at_392) (by decide) (by decide) ?_
                exact ht
              exact OFin.retB X146 hx hlk (t := .boolean) (by simp) hret (hb hby at_396) (by decide) (by decide) (by rw [hs146]; exact hQ _ _ N148)
            · refine OFin.of (S' := T137.setTop (mkF m 361 #[.val (.int p0), .val (.long q1), .second, .val (.long q2), .second, .val (.long q3), .second, .val (.long q4), .second, .val (.int i9), .val (.int i10), .val (.int i11), .val (.int i12), .val (.int i13), .val (.ref s1), .val (.ref s2), .val (.int b16), .val (.long j17), .second, .val (.long l1), .second, .val (.long u1), .second, .val (.long j23), .second, .val (.long j25), .second, .val (.long (own_lmin j23 j25)), .second, .val (.long (own_lmax j23 j25)), .second, .val (.ref b6), .val (.ref b41), .val (.int (0 : Int32)), .val (.int (0 : Int32))] [(.ref b41), (.ref b6)])) (fun t ht => ?_) ?_
              · refine XS.ifYes X137.here hx rfl (pc0 := 347) (pc' := 354) rfl (hb hby at_347) rfl ((if0 _ _).trans (feq (hc139 : ¬ ((lcmpW (own_lmax u1 (own_lmax j23 j25)) (own_lmax j23 j25)) = (0 : Int32)))).2) (by decide) (by decide) ?_
                show Steps p.tables e below (T137.setTop (mkF m 354 _ [])) _
                refine XS.iconst X137.here hx rfl (hb hby at_354) ?_
                show Steps p.tables e below (T137.setTop (mkF m 355 _ [(.int (0 : Int32))])) _
                refine XS.istore X137.here hx rfl (hb hby at_355) rfl (l' := #[.val (.int p0), .val (.long q1), .second, .val (.long q2), .second, .val (.long q3), .second, .val (.long q4), .second, .val (.int i9), .val (.int i10), .val (.int i11), .val (.int i12), .val (.int i13), .val (.ref s1), .val (.ref s2), .val (.int b16), .val (.long j17), .second, .val (.long l1), .second, .val (.long u1), .second, .val (.long j23), .second, .val (.long j25), .second, .val (.long (own_lmin j23 j25)), .second, .val (.long (own_lmax j23 j25)), .second, .val (.ref b6), .val (.ref b41), .val (.int (0 : Int32)), .val (.int (0 : Int32))]) rfl ?_
                show Steps p.tables e below (T137.setTop (mkF m 357 #[.val (.int p0), .val (.long q1), .second, .val (.long q2), .second, .val (.long q3), .second, .val (.long q4), .second, .val (.int i9), .val (.int i10), .val (.int i11), .val (.int i12), .val (.int i13), .val (.ref s1), .val (.ref s2), .val (.int b16), .val (.long j17), .second, .val (.long l1), .second, .val (.long u1), .second, .val (.long j23), .second, .val (.long j25), .second, .val (.long (own_lmin j23 j25)), .second, .val (.long (own_lmax j23 j25)), .second, .val (.ref b6), .val (.ref b41), .val (.int (0 : Int32)), .val (.int (0 : Int32))] [])) _
                refine XS.aload X137.here hx rfl (hb hby at_357) rfl rfl ?_
                show Steps p.tables e below (T137.setTop (mkF m 359 _ [(.ref b6)])) _
                refine XS.aload X137.here hx rfl (hb hby at_359) rfl rfl ?_
                exact ht
              obtain ⟨cq150, kq150, q150a, q150b, q150c⟩ := isOf hZ hs137 f79
              obtain ⟨_, _, ⟨T149, L149, k149, n149⟩, -, X149, ⟨Lc149, hQ149, l149, y149, z149⟩, st149⟩ := X137.virtualBack hx (y := (⟨"com/example/greylag/greylag/model/Bundle", "contains", "(Lcom/example/greylag/greylag/model/Bundle;)Z"⟩ : MethodName)) (z := (⟨"com/example/greylag/greylag/model/Bundle", "contains", "(Lcom/example/greylag/greylag/model/Bundle;)Z"⟩ : MethodName)) hown (mvT hZ (hw _ (List.mem_of_getElem? (i := 52) rfl))) (mvT hZ (hw _ (List.mem_of_getElem? (i := 53) rfl))) (notFace_of_selects (args := #[]) (mvT hZ (hw _ (List.mem_of_getElem? (i := 55) rfl)))) (mvT hZ (hw _ (List.mem_of_getElem? (i := 55) rfl))) (mvT hZ (hw _ (List.mem_of_getElem? (i := 54) rfl))) (by decide) (backOf (W := 0) (rmCo21 l Z _ hw [] b6 b41 s1 s2 l1 u1 (own_lmin j23 j25) (own_lmax j23 j25) (0 : Int32) T65.heap n0 Z84 f80 f66 f81 f67 f82 f68 f71 (rmEq21 l Z _ hw [] s1 s2 t1 t2 k1 k2 cs x0 x1 y0 T65.heap n0 Z84 f75 f72 f76 f73 f77 f74 f78 f70 hcs na0)) hZ (hw _ (List.mem_of_getElem? (i := 56) rfl)) (hw _ (List.mem_of_getElem? (i := 41) rfl)) (by decide) (by decide)) q150a q150c (g := (mkF m 361 #[.val (.int p0), .val (.long q1), .second, .val (.long q2), .second, .val (.long q3), .second, .val (.long q4), .second, .val (.int i9), .val (.int i10), .val (.int i11), .val (.int i12), .val (.int i13), .val (.ref s1), .val (.ref s2), .val (.int b16), .val (.long j17), .second, .val (.long l1), .second, .val (.long u1), .second, .val (.long j23), .second, .val (.long j25), .second, .val (.long (own_lmin j23 j25)), .second, .val (.long (own_lmax j23 j25)), .second, .val (.ref b6), .val (.ref b41), .val (.int (0 : Int32)), .val (.int (0 : Int32))] [(.ref b41), (.ref b6)])) rfl (by rw [hml]; rfl) (Steps.refl _) (argsL := [(.ref b41)]) (rest := []) (lenOf pd_8 rfl) rfl (by show 2 * 0 + _ ≤ _; exact Nat.le_of_eq rfl) (hb hby at_361) (fun _ _ => ⟨rfl, hs137, (by decide : 9 + 0 ≤ _), (by decide : 28 + 0 ≤ _)⟩)
              dsimp only [Pt.U, Pt.locs, Pt.cells, Pt.slots] at X149 l149 y149 z149 st149 hQ149
              subst l149 y149 z149
              obtain ⟨rfl, Nq149, hs149⟩ := hQ149
              have N151 := Fr.app N138 Nq149
              refine OFin.to (S' := T149.setTop (mkF m 364 #[.val (.int p0), .val (.long q1), .second, .val (.long q2), .second, .val (.long q3), .second, .val (.long q4), .second, .val (.int i9), .val (.int i10), .val (.int i11), .val (.int i12), .val (.int i13), .val (.ref s1), .val (.ref s2), .val (.int b16), .val (.long j17), .second, .val (.long l1), .second, .val (.long u1), .second, .val (.long j23), .second, .val (.long j25), .second, .val (.long (own_lmin j23 j25)), .second, .val (.long (own_lmax j23 j25)), .second, .val (.ref b6), .val (.ref b41), .val (.int (0 : Int32)), .val (.int (0 : Int32))] [(.int (own_cont (0 : Int32) l1 u1 (own_lmin j23 j25) (own_lmax j23 j25)))])) st149 ?_
              refine OFin.of (S' := T149.setTop (mkF m 373 #[.val (.int p0), .val (.long q1), .second, .val (.long q2), .second, .val (.long q3), .second, .val (.long q4), .second, .val (.int i9), .val (.int i10), .val (.int i11), .val (.int i12), .val (.int i13), .val (.ref s1), .val (.ref s2), .val (.int b16), .val (.long j17), .second, .val (.long l1), .second, .val (.long u1), .second, .val (.long j23), .second, .val (.long j25), .second, .val (.long (own_lmin j23 j25)), .second, .val (.long (own_lmax j23 j25)), .second, .val (.ref b6), .val (.ref b41), .val (.int (0 : Int32)), .val (.int (0 : Int32))] [(.ref b6), (.ref b41)])) (fun t ht => ?_) ?_
              · refine XS.iload X149.here hx rfl (hb hby at_364) rfl ?_
                show Steps p.tables e below (T149.setTop (mkF m 366 _ [(.int (0 : Int32)), (.int (own_cont (0 : Int32) l1 u1 (own_lmin j23 j25) (own_lmax j23 j25)))])) _
                refine XS.icmpNo X149.here hx rfl (hb hby at_366) rfl (teq (own_t2 hc100 : (own_cont (0 : Int32) l1 u1 (own_lmin j23 j25) (own_lmax j23 j25)) = (0 : Int32))).2 ?_
                show Steps p.tables e below (T149.setTop (mkF m 369 _ [])) _
                refine XS.aload X149.here hx rfl (hb hby at_369) rfl rfl ?_
                show Steps p.tables e below (T149.setTop (mkF m 371 _ [(.ref b41)])) _
                refine XS.aload X149.here hx rfl (hb hby at_371) rfl rfl ?_
                exact ht
              obtain ⟨cq153, kq153, q153a, q153b, q153c⟩ := isOf hZ hs149 f83
              obtain ⟨_, _, ⟨T152, L152, k152, n152⟩, -, X152, ⟨Lc152, hQ152, l152, y152, z152⟩, st152⟩ := X149.virtualBack hx (y := (⟨"com/example/greylag/greylag/model/Bundle", "contains", "(Lcom/example/greylag/greylag/model/Bundle;)Z"⟩ : MethodName)) (z := (⟨"com/example/greylag/greylag/model/Bundle", "contains", "(Lcom/example/greylag/greylag/model/Bundle;)Z"⟩ : MethodName)) hown (mvT hZ (hw _ (List.mem_of_getElem? (i := 52) rfl))) (mvT hZ (hw _ (List.mem_of_getElem? (i := 53) rfl))) (notFace_of_selects (args := #[]) (mvT hZ (hw _ (List.mem_of_getElem? (i := 55) rfl)))) (mvT hZ (hw _ (List.mem_of_getElem? (i := 55) rfl))) (mvT hZ (hw _ (List.mem_of_getElem? (i := 54) rfl))) (by decide) (backOf (W := 0) (rmCo12 l Z _ hw [] b41 b6 s2 s1 (own_lmin j23 j25) (own_lmax j23 j25) l1 u1 (0 : Int32) T65.heap n0 Z84 f66 f80 f67 f81 f68 f82 f75 (rmEq12 l Z _ hw [] s2 s1 t2 t1 k2 k1 cs y0 x0 x1 T65.heap n0 Z84 f71 f76 f72 f77 f73 f78 f74 f70 hcs (Ne.symm na0))) hZ (hw _ (List.mem_of_getElem? (i := 56) rfl)) (hw _ (List.mem_of_getElem? (i := 41) rfl)) (by decide) (by decide)) q153a q153c (g := (mkF m 373 #[.val (.int p0), .val (.long q1), .second, .val (.long q2), .second, .val (.long q3), .second, .val (.long q4), .second, .val (.int i9), .val (.int i10), .val (.int i11), .val (.int i12), .val (.int i13), .val (.ref s1), .val (.ref s2), .val (.int b16), .val (.long j17), .second, .val (.long l1), .second, .val (.long u1), .second, .val (.long j23), .second, .val (.long j25), .second, .val (.long (own_lmin j23 j25)), .second, .val (.long (own_lmax j23 j25)), .second, .val (.ref b6), .val (.ref b41), .val (.int (0 : Int32)), .val (.int (0 : Int32))] [(.ref b6), (.ref b41)])) rfl (by rw [hml]; rfl) (Steps.refl _) (argsL := [(.ref b6)]) (rest := []) (lenOf pd_8 rfl) rfl (by show 2 * 0 + _ ≤ _; exact Nat.le_of_eq rfl) (hb hby at_373) (fun _ _ => ⟨rfl, hs149, (by decide : 9 + 0 ≤ _), (by decide : 28 + 0 ≤ _)⟩)
              dsimp only [Pt.U, Pt.locs, Pt.cells, Pt.slots] at X152 l152 y152 z152 st152 hQ152
              subst l152 y152 z152
              obtain ⟨rfl, Nq152, hs152⟩ := hQ152
              have N154 := Fr.app N151 Nq152
              refine OFin.to (S' := T152.setTop (mkF m 376 #[.val (.int p0), .val (.long q1), .second, .val (.long q2), .second, .val (.long q3), .second, .val (.long q4), .second, .val (.int i9), .val (.int i10), .val (.int i11), .val (.int i12), .val (.int i13), .val (.ref s1), .val (.ref s2), .val (.int b16), .val (.long j17), .second, .val (.long l1), .second, .val (.long u1), .second, .val (.long j23), .second, .val (.long j25), .second, .val (.long (own_lmin j23 j25)), .second, .val (.long (own_lmax j23 j25)), .second, .val (.ref b6), .val (.ref b41), .val (.int (0 : Int32)), .val (.int (0 : Int32))] [(.int (own_cont (0 : Int32) (own_lmin j23 j25) (own_lmax j23 j25) l1 u1))])) st152 ?_
              refine OFin.of (S' := T152.setTop (mkF m 385 #[.val (.int p0), .val (.long q1), .second, .val (.long q2), .second, .val (.long q3), .second, .val (.long q4), .second, .val (.int i9), .val (.int i10), .val (.int i11), .val (.int i12), .val (.int i13), .val (.ref s1), .val (.ref s2), .val (.int b16), .val (.long j17), .second, .val (.long l1), .second, .val (.long u1), .second, .val (.long j23), .second, .val (.long j25), .second, .val (.long (own_lmin j23 j25)), .second, .val (.long (own_lmax j23 j25)), .second, .val (.ref b6), .val (.ref b41), .val (.int (0 : Int32)), .val (.int (0 : Int32))] [(.ref b41), (.ref b41)])) (fun t ht => ?_) ?_
              · refine XS.iload X152.here hx rfl (hb hby at_376) rfl ?_
                show Steps p.tables e below (T152.setTop (mkF m 378 _ [(.int (0 : Int32)), (.int (own_cont (0 : Int32) (own_lmin j23 j25) (own_lmax j23 j25) l1 u1))])) _
                refine XS.icmpNo X152.here hx rfl (hb hby at_378) rfl (teq (own_v2 hc139 : (own_cont (0 : Int32) (own_lmin j23 j25) (own_lmax j23 j25) l1 u1) = (0 : Int32))).2 ?_
                show Steps p.tables e below (T152.setTop (mkF m 381 _ [])) _
                refine XS.aload X152.here hx rfl (hb hby at_381) rfl rfl ?_
                show Steps p.tables e below (T152.setTop (mkF m 383 _ [(.ref b41)])) _
                refine XS.aload X152.here hx rfl (hb hby at_383) rfl rfl ?_
                exact ht
              obtain ⟨cq156, kq156, q156a, q156b, q156c⟩ := isOf hZ hs152 f83
              obtain ⟨_, _, ⟨T155, L155, k155, n155⟩, -, X155, ⟨Lc155, hQ155, l155, y155, z155⟩, st155⟩ := X152.virtualBack hx (y := (⟨"com/example/greylag/greylag/model/Bundle", "contains", "(Lcom/example/greylag/greylag/model/Bundle;)Z"⟩ : MethodName)) (z := (⟨"com/example/greylag/greylag/model/Bundle", "contains", "(Lcom/example/greylag/greylag/model/Bundle;)Z"⟩ : MethodName)) hown (mvT hZ (hw _ (List.mem_of_getElem? (i := 52) rfl))) (mvT hZ (hw _ (List.mem_of_getElem? (i := 53) rfl))) (notFace_of_selects (args := #[]) (mvT hZ (hw _ (List.mem_of_getElem? (i := 55) rfl)))) (mvT hZ (hw _ (List.mem_of_getElem? (i := 55) rfl))) (mvT hZ (hw _ (List.mem_of_getElem? (i := 54) rfl))) (by decide) (backOf (W := 0) (rmCos l Z _ hw [] b41 b41 s2 (own_lmin j23 j25) (own_lmax j23 j25) (own_lmin j23 j25) (own_lmax j23 j25) (1 : Int32) T65.heap n0 Z84 f66 f66 f67 f67 f68 f68 f75 (rmEs l Z _ hw [] s2 T65.heap n0 Z84)) hZ (hw _ (List.mem_of_getElem? (i := 56) rfl)) (hw _ (List.mem_of_getElem? (i := 41) rfl)) (by decide) (by decide)) q156a q156c (g := (mkF m 385 #[.val (.int p0), .val (.long q1), .second, .val (.long q2), .second, .val (.long q3), .second, .val (.long q4), .second, .val (.int i9), .val (.int i10), .val (.int i11), .val (.int i12), .val (.int i13), .val (.ref s1), .val (.ref s2), .val (.int b16), .val (.long j17), .second, .val (.long l1), .second, .val (.long u1), .second, .val (.long j23), .second, .val (.long j25), .second, .val (.long (own_lmin j23 j25)), .second, .val (.long (own_lmax j23 j25)), .second, .val (.ref b6), .val (.ref b41), .val (.int (0 : Int32)), .val (.int (0 : Int32))] [(.ref b41), (.ref b41)])) rfl (by rw [hml]; rfl) (Steps.refl _) (argsL := [(.ref b41)]) (rest := []) (lenOf pd_8 rfl) rfl (by show 2 * 0 + _ ≤ _; exact Nat.le_of_eq rfl) (hb hby at_385) (fun _ _ => ⟨rfl, hs152, (by decide : 9 + 0 ≤ _), (by decide : 28 + 0 ≤ _)⟩)
              dsimp only [Pt.U, Pt.locs, Pt.cells, Pt.slots] at X155 l155 y155 z155 st155 hQ155
              subst l155 y155 z155
              obtain ⟨rfl, Nq155, hs155⟩ := hQ155
              have N157 := Fr.app N154 Nq155
              refine OFin.to (S' := T155.setTop (mkF m 388 #[.val (.int p0), .val (.long q1), .second, .val (.long q2), .second, .val (.long q3), .second, .val (.long q4), .second, .val (.int i9), .val (.int i10), .val (.int i11), .val (.int i12), .val (.int i13), .val (.ref s1), .val (.ref s2), .val (.int b16), .val (.long j17), .second, .val (.long l1), .second, .val (.long u1), .second, .val (.long j23), .second, .val (.long j25), .second, .val (.long (own_lmin j23 j25)), .second, .val (.long (own_lmax j23 j25)), .second, .val (.ref b6), .val (.ref b41), .val (.int (0 : Int32)), .val (.int (0 : Int32))] [(.int (own_cont (1 : Int32) (own_lmin j23 j25) (own_lmax j23 j25) (own_lmin j23 j25) (own_lmax j23 j25)))])) st155 ?_
              refine OFin.of (S' := T155.setTop (mkF m 396 #[.val (.int p0), .val (.long q1), .second, .val (.long q2), .second, .val (.long q3), .second, .val (.long q4), .second, .val (.int i9), .val (.int i10), .val (.int i11), .val (.int i12), .val (.int i13), .val (.ref s1), .val (.ref s2), .val (.int b16), .val (.long j17), .second, .val (.long l1), .second, .val (.long u1), .second, .val (.long j23), .second, .val (.long j25), .second, .val (.long (own_lmin j23 j25)), .second, .val (.long (own_lmax j23 j25)), .second, .val (.ref b6), .val (.ref b41), .val (.int (0 : Int32)), .val (.int (0 : Int32))] [(.int (1 : Int32))])) (fun t ht => ?_) ?_
              · refine XS.ifNo X155.here hx rfl (hb hby at_388) rfl ((if0 _ _).trans (feq (own_r3 _ _ : ¬ ((own_cont (1 : Int32) (own_lmin j23 j25) (own_lmax j23 j25) (own_lmin j23 j25) (own_lmax j23 j25)) = (0 : Int32)))).1) ?_
                show Steps p.tables e below (T155.setTop (mkF m 391 _ [])) _
                refine XS.iconst X155.here hx rfl (hb hby at_391) ?_
                show Steps p.tables e below (T155.setTop (mkF m 392 _ [(.int (1 : Int32))])) _
                refine XS.goto X155.here hx rfl (pc0 := 392) (pc' := 396) rfl (hb hby at_392) (by decide) (by decide) ?_
                exact ht
              exact OFin.retB X155 hx hlk (t := .boolean) (by simp) hret (hb hby at_396) (by decide) (by decide) (by rw [hs155]; exact hQ _ _ N157)
          · refine OFin.of (S' := T134.setTop (mkF m 361 #[.val (.int p0), .val (.long q1), .second, .val (.long q2), .second, .val (.long q3), .second, .val (.long q4), .second, .val (.int i9), .val (.int i10), .val (.int i11), .val (.int i12), .val (.int i13), .val (.ref s1), .val (.ref s2), .val (.int b16), .val (.long j17), .second, .val (.long l1), .second, .val (.long u1), .second, .val (.long j23), .second, .val (.long j25), .second, .val (.long (own_lmin j23 j25)), .second, .val (.long (own_lmax j23 j25)), .second, .val (.ref b6), .val (.ref b41), .val (.int (0 : Int32)), .val (.int (0 : Int32))] [(.ref b41), (.ref b6)])) (fun t ht => ?_) ?_
            · refine XS.ifYes X134.here hx rfl (pc0 := 334) (pc' := 354) rfl (hb hby at_334) rfl ((if0 _ _).trans (feq (hc136 : ¬ ((lcmpW (own_lmin l1 (own_lmin j23 j25)) (own_lmin j23 j25)) = (0 : Int32)))).2) (by decide) (by decide) ?_
              show Steps p.tables e below (T134.setTop (mkF m 354 _ [])) _
              refine XS.iconst X134.here hx rfl (hb hby at_354) ?_
              show Steps p.tables e below (T134.setTop (mkF m 355 _ [(.int (0 : Int32))])) _
              refine XS.istore X134.here hx rfl (hb hby at_355) rfl (l' := #[.val (.int p0), .val (.long q1), .second, .val (.long q2), .second, .val (.long q3), .second, .val (.long q4), .second, .val (.int i9), .val (.int i10), .val (.int i11), .val (.int i12), .val (.int i13), .val (.ref s1), .val (.ref s2), .val (.int b16), .val (.long j17), .second, .val (.long l1), .second, .val (.long u1), .second, .val (.long j23), .second, .val (.long j25), .second, .val (.long (own_lmin j23 j25)), .second, .val (.long (own_lmax j23 j25)), .second, .val (.ref b6), .val (.ref b41), .val (.int (0 : Int32)), .val (.int (0 : Int32))]) rfl ?_
              show Steps p.tables e below (T134.setTop (mkF m 357 #[.val (.int p0), .val (.long q1), .second, .val (.long q2), .second, .val (.long q3), .second, .val (.long q4), .second, .val (.int i9), .val (.int i10), .val (.int i11), .val (.int i12), .val (.int i13), .val (.ref s1), .val (.ref s2), .val (.int b16), .val (.long j17), .second, .val (.long l1), .second, .val (.long u1), .second, .val (.long j23), .second, .val (.long j25), .second, .val (.long (own_lmin j23 j25)), .second, .val (.long (own_lmax j23 j25)), .second, .val (.ref b6), .val (.ref b41), .val (.int (0 : Int32)), .val (.int (0 : Int32))] [])) _
              refine XS.aload X134.here hx rfl (hb hby at_357) rfl rfl ?_
              show Steps p.tables e below (T134.setTop (mkF m 359 _ [(.ref b6)])) _
              refine XS.aload X134.here hx rfl (hb hby at_359) rfl rfl ?_
              exact ht
            obtain ⟨cq159, kq159, q159a, q159b, q159c⟩ := isOf hZ hs134 f79
            obtain ⟨_, _, ⟨T158, L158, k158, n158⟩, -, X158, ⟨Lc158, hQ158, l158, y158, z158⟩, st158⟩ := X134.virtualBack hx (y := (⟨"com/example/greylag/greylag/model/Bundle", "contains", "(Lcom/example/greylag/greylag/model/Bundle;)Z"⟩ : MethodName)) (z := (⟨"com/example/greylag/greylag/model/Bundle", "contains", "(Lcom/example/greylag/greylag/model/Bundle;)Z"⟩ : MethodName)) hown (mvT hZ (hw _ (List.mem_of_getElem? (i := 52) rfl))) (mvT hZ (hw _ (List.mem_of_getElem? (i := 53) rfl))) (notFace_of_selects (args := #[]) (mvT hZ (hw _ (List.mem_of_getElem? (i := 55) rfl)))) (mvT hZ (hw _ (List.mem_of_getElem? (i := 55) rfl))) (mvT hZ (hw _ (List.mem_of_getElem? (i := 54) rfl))) (by decide) (backOf (W := 0) (rmCo21 l Z _ hw [] b6 b41 s1 s2 l1 u1 (own_lmin j23 j25) (own_lmax j23 j25) (0 : Int32) T65.heap n0 Z84 f80 f66 f81 f67 f82 f68 f71 (rmEq21 l Z _ hw [] s1 s2 t1 t2 k1 k2 cs x0 x1 y0 T65.heap n0 Z84 f75 f72 f76 f73 f77 f74 f78 f70 hcs na0)) hZ (hw _ (List.mem_of_getElem? (i := 56) rfl)) (hw _ (List.mem_of_getElem? (i := 41) rfl)) (by decide) (by decide)) q159a q159c (g := (mkF m 361 #[.val (.int p0), .val (.long q1), .second, .val (.long q2), .second, .val (.long q3), .second, .val (.long q4), .second, .val (.int i9), .val (.int i10), .val (.int i11), .val (.int i12), .val (.int i13), .val (.ref s1), .val (.ref s2), .val (.int b16), .val (.long j17), .second, .val (.long l1), .second, .val (.long u1), .second, .val (.long j23), .second, .val (.long j25), .second, .val (.long (own_lmin j23 j25)), .second, .val (.long (own_lmax j23 j25)), .second, .val (.ref b6), .val (.ref b41), .val (.int (0 : Int32)), .val (.int (0 : Int32))] [(.ref b41), (.ref b6)])) rfl (by rw [hml]; rfl) (Steps.refl _) (argsL := [(.ref b41)]) (rest := []) (lenOf pd_8 rfl) rfl (by show 2 * 0 + _ ≤ _; exact Nat.le_of_eq rfl) (hb hby at_361) (fun _ _ => ⟨rfl, hs134, (by decide : 9 + 0 ≤ _), (by decide : 28 + 0 ≤ _)⟩)
            dsimp only [Pt.U, Pt.locs, Pt.cells, Pt.slots] at X158 l158 y158 z158 st158 hQ158
            subst l158 y158 z158
            obtain ⟨rfl, Nq158, hs158⟩ := hQ158
            have N160 := Fr.app N135 Nq158
            refine OFin.to (S' := T158.setTop (mkF m 364 #[.val (.int p0), .val (.long q1), .second, .val (.long q2), .second, .val (.long q3), .second, .val (.long q4), .second, .val (.int i9), .val (.int i10), .val (.int i11), .val (.int i12), .val (.int i13), .val (.ref s1), .val (.ref s2), .val (.int b16), .val (.long j17), .second, .val (.long l1), .second, .val (.long u1), .second, .val (.long j23), .second, .val (.long j25), .second, .val (.long (own_lmin j23 j25)), .second, .val (.long (own_lmax j23 j25)), .second, .val (.ref b6), .val (.ref b41), .val (.int (0 : Int32)), .val (.int (0 : Int32))] [(.int (own_cont (0 : Int32) l1 u1 (own_lmin j23 j25) (own_lmax j23 j25)))])) st158 ?_
            refine OFin.of (S' := T158.setTop (mkF m 373 #[.val (.int p0), .val (.long q1), .second, .val (.long q2), .second, .val (.long q3), .second, .val (.long q4), .second, .val (.int i9), .val (.int i10), .val (.int i11), .val (.int i12), .val (.int i13), .val (.ref s1), .val (.ref s2), .val (.int b16), .val (.long j17), .second, .val (.long l1), .second, .val (.long u1), .second, .val (.long j23), .second, .val (.long j25), .second, .val (.long (own_lmin j23 j25)), .second, .val (.long (own_lmax j23 j25)), .second, .val (.ref b6), .val (.ref b41), .val (.int (0 : Int32)), .val (.int (0 : Int32))] [(.ref b6), (.ref b41)])) (fun t ht => ?_) ?_
            · refine XS.iload X158.here hx rfl (hb hby at_364) rfl ?_
              show Steps p.tables e below (T158.setTop (mkF m 366 _ [(.int (0 : Int32)), (.int (own_cont (0 : Int32) l1 u1 (own_lmin j23 j25) (own_lmax j23 j25)))])) _
              refine XS.icmpNo X158.here hx rfl (hb hby at_366) rfl (teq (own_t2 hc100 : (own_cont (0 : Int32) l1 u1 (own_lmin j23 j25) (own_lmax j23 j25)) = (0 : Int32))).2 ?_
              show Steps p.tables e below (T158.setTop (mkF m 369 _ [])) _
              refine XS.aload X158.here hx rfl (hb hby at_369) rfl rfl ?_
              show Steps p.tables e below (T158.setTop (mkF m 371 _ [(.ref b41)])) _
              refine XS.aload X158.here hx rfl (hb hby at_371) rfl rfl ?_
              exact ht
            obtain ⟨cq162, kq162, q162a, q162b, q162c⟩ := isOf hZ hs158 f83
            obtain ⟨_, _, ⟨T161, L161, k161, n161⟩, -, X161, ⟨Lc161, hQ161, l161, y161, z161⟩, st161⟩ := X158.virtualBack hx (y := (⟨"com/example/greylag/greylag/model/Bundle", "contains", "(Lcom/example/greylag/greylag/model/Bundle;)Z"⟩ : MethodName)) (z := (⟨"com/example/greylag/greylag/model/Bundle", "contains", "(Lcom/example/greylag/greylag/model/Bundle;)Z"⟩ : MethodName)) hown (mvT hZ (hw _ (List.mem_of_getElem? (i := 52) rfl))) (mvT hZ (hw _ (List.mem_of_getElem? (i := 53) rfl))) (notFace_of_selects (args := #[]) (mvT hZ (hw _ (List.mem_of_getElem? (i := 55) rfl)))) (mvT hZ (hw _ (List.mem_of_getElem? (i := 55) rfl))) (mvT hZ (hw _ (List.mem_of_getElem? (i := 54) rfl))) (by decide) (backOf (W := 0) (rmCo12 l Z _ hw [] b41 b6 s2 s1 (own_lmin j23 j25) (own_lmax j23 j25) l1 u1 (0 : Int32) T65.heap n0 Z84 f66 f80 f67 f81 f68 f82 f75 (rmEq12 l Z _ hw [] s2 s1 t2 t1 k2 k1 cs y0 x0 x1 T65.heap n0 Z84 f71 f76 f72 f77 f73 f78 f74 f70 hcs (Ne.symm na0))) hZ (hw _ (List.mem_of_getElem? (i := 56) rfl)) (hw _ (List.mem_of_getElem? (i := 41) rfl)) (by decide) (by decide)) q162a q162c (g := (mkF m 373 #[.val (.int p0), .val (.long q1), .second, .val (.long q2), .second, .val (.long q3), .second, .val (.long q4), .second, .val (.int i9), .val (.int i10), .val (.int i11), .val (.int i12), .val (.int i13), .val (.ref s1), .val (.ref s2), .val (.int b16), .val (.long j17), .second, .val (.long l1), .second, .val (.long u1), .second, .val (.long j23), .second, .val (.long j25), .second, .val (.long (own_lmin j23 j25)), .second, .val (.long (own_lmax j23 j25)), .second, .val (.ref b6), .val (.ref b41), .val (.int (0 : Int32)), .val (.int (0 : Int32))] [(.ref b6), (.ref b41)])) rfl (by rw [hml]; rfl) (Steps.refl _) (argsL := [(.ref b6)]) (rest := []) (lenOf pd_8 rfl) rfl (by show 2 * 0 + _ ≤ _; exact Nat.le_of_eq rfl) (hb hby at_373) (fun _ _ => ⟨rfl, hs158, (by decide : 9 + 0 ≤ _), (by decide : 28 + 0 ≤ _)⟩)
            dsimp only [Pt.U, Pt.locs, Pt.cells, Pt.slots] at X161 l161 y161 z161 st161 hQ161
            subst l161 y161 z161
            obtain ⟨rfl, Nq161, hs161⟩ := hQ161
            have N163 := Fr.app N160 Nq161
            refine OFin.to (S' := T161.setTop (mkF m 376 #[.val (.int p0), .val (.long q1), .second, .val (.long q2), .second, .val (.long q3), .second, .val (.long q4), .second, .val (.int i9), .val (.int i10), .val (.int i11), .val (.int i12), .val (.int i13), .val (.ref s1), .val (.ref s2), .val (.int b16), .val (.long j17), .second, .val (.long l1), .second, .val (.long u1), .second, .val (.long j23), .second, .val (.long j25), .second, .val (.long (own_lmin j23 j25)), .second, .val (.long (own_lmax j23 j25)), .second, .val (.ref b6), .val (.ref b41), .val (.int (0 : Int32)), .val (.int (0 : Int32))] [(.int (own_cont (0 : Int32) (own_lmin j23 j25) (own_lmax j23 j25) l1 u1))])) st161 ?_
            refine OFin.of (S' := T161.setTop (mkF m 385 #[.val (.int p0), .val (.long q1), .second, .val (.long q2), .second, .val (.long q3), .second, .val (.long q4), .second, .val (.int i9), .val (.int i10), .val (.int i11), .val (.int i12), .val (.int i13), .val (.ref s1), .val (.ref s2), .val (.int b16), .val (.long j17), .second, .val (.long l1), .second, .val (.long u1), .second, .val (.long j23), .second, .val (.long j25), .second, .val (.long (own_lmin j23 j25)), .second, .val (.long (own_lmax j23 j25)), .second, .val (.ref b6), .val (.ref b41), .val (.int (0 : Int32)), .val (.int (0 : Int32))] [(.ref b41), (.ref b41)])) (fun t ht => ?_) ?_
            · refine XS.iload X161.here hx rfl (hb hby at_376) rfl ?_
              show Steps p.tables e below (T161.setTop (mkF m 378 _ [(.int (0 : Int32)), (.int (own_cont (0 : Int32) (own_lmin j23 j25) (own_lmax j23 j25) l1 u1))])) _
              refine XS.icmpNo X161.here hx rfl (hb hby at_378) rfl (teq (own_v1 hc136 : (own_cont (0 : Int32) (own_lmin j23 j25) (own_lmax j23 j25) l1 u1) = (0 : Int32))).2 ?_
              show Steps p.tables e below (T161.setTop (mkF m 381 _ [])) _
              refine XS.aload X161.here hx rfl (hb hby at_381) rfl rfl ?_
              show Steps p.tables e below (T161.setTop (mkF m 383 _ [(.ref b41)])) _
              refine XS.aload X161.here hx rfl (hb hby at_383) rfl rfl ?_
              exact ht
            obtain ⟨cq165, kq165, q165a, q165b, q165c⟩ := isOf hZ hs161 f83
            obtain ⟨_, _, ⟨T164, L164, k164, n164⟩, -, X164, ⟨Lc164, hQ164, l164, y164, z164⟩, st164⟩ := X161.virtualBack hx (y := (⟨"com/example/greylag/greylag/model/Bundle", "contains", "(Lcom/example/greylag/greylag/model/Bundle;)Z"⟩ : MethodName)) (z := (⟨"com/example/greylag/greylag/model/Bundle", "contains", "(Lcom/example/greylag/greylag/model/Bundle;)Z"⟩ : MethodName)) hown (mvT hZ (hw _ (List.mem_of_getElem? (i := 52) rfl))) (mvT hZ (hw _ (List.mem_of_getElem? (i := 53) rfl))) (notFace_of_selects (args := #[]) (mvT hZ (hw _ (List.mem_of_getElem? (i := 55) rfl)))) (mvT hZ (hw _ (List.mem_of_getElem? (i := 55) rfl))) (mvT hZ (hw _ (List.mem_of_getElem? (i := 54) rfl))) (by decide) (backOf (W := 0) (rmCos l Z _ hw [] b41 b41 s2 (own_lmin j23 j25) (own_lmax j23 j25) (own_lmin j23 j25) (own_lmax j23 j25) (1 : Int32) T65.heap n0 Z84 f66 f66 f67 f67 f68 f68 f75 (rmEs l Z _ hw [] s2 T65.heap n0 Z84)) hZ (hw _ (List.mem_of_getElem? (i := 56) rfl)) (hw _ (List.mem_of_getElem? (i := 41) rfl)) (by decide) (by decide)) q165a q165c (g := (mkF m 385 #[.val (.int p0), .val (.long q1), .second, .val (.long q2), .second, .val (.long q3), .second, .val (.long q4), .second, .val (.int i9), .val (.int i10), .val (.int i11), .val (.int i12), .val (.int i13), .val (.ref s1), .val (.ref s2), .val (.int b16), .val (.long j17), .second, .val (.long l1), .second, .val (.long u1), .second, .val (.long j23), .second, .val (.long j25), .second, .val (.long (own_lmin j23 j25)), .second, .val (.long (own_lmax j23 j25)), .second, .val (.ref b6), .val (.ref b41), .val (.int (0 : Int32)), .val (.int (0 : Int32))] [(.ref b41), (.ref b41)])) rfl (by rw [hml]; rfl) (Steps.refl _) (argsL := [(.ref b41)]) (rest := []) (lenOf pd_8 rfl) rfl (by show 2 * 0 + _ ≤ _; exact Nat.le_of_eq rfl) (hb hby at_385) (fun _ _ => ⟨rfl, hs161, (by decide : 9 + 0 ≤ _), (by decide : 28 + 0 ≤ _)⟩)
            dsimp only [Pt.U, Pt.locs, Pt.cells, Pt.slots] at X164 l164 y164 z164 st164 hQ164
            subst l164 y164 z164
            obtain ⟨rfl, Nq164, hs164⟩ := hQ164
            have N166 := Fr.app N163 Nq164
            refine OFin.to (S' := T164.setTop (mkF m 388 #[.val (.int p0), .val (.long q1), .second, .val (.long q2), .second, .val (.long q3), .second, .val (.long q4), .second, .val (.int i9), .val (.int i10), .val (.int i11), .val (.int i12), .val (.int i13), .val (.ref s1), .val (.ref s2), .val (.int b16), .val (.long j17), .second, .val (.long l1), .second, .val (.long u1), .second, .val (.long j23), .second, .val (.long j25), .second, .val (.long (own_lmin j23 j25)), .second, .val (.long (own_lmax j23 j25)), .second, .val (.ref b6), .val (.ref b41), .val (.int (0 : Int32)), .val (.int (0 : Int32))] [(.int (own_cont (1 : Int32) (own_lmin j23 j25) (own_lmax j23 j25) (own_lmin j23 j25) (own_lmax j23 j25)))])) st164 ?_
            refine OFin.of (S' := T164.setTop (mkF m 396 #[.val (.int p0), .val (.long q1), .second, .val (.long q2), .second, .val (.long q3), .second, .val (.long q4), .second, .val (.int i9), .val (.int i10), .val (.int i11), .val (.int i12), .val (.int i13), .val (.ref s1), .val (.ref s2), .val (.int b16), .val (.long j17), .second, .val (.long l1), .second, .val (.long u1), .second, .val (.long j23), .second, .val (.long j25), .second, .val (.long (own_lmin j23 j25)), .second, .val (.long (own_lmax j23 j25)), .second, .val (.ref b6), .val (.ref b41), .val (.int (0 : Int32)), .val (.int (0 : Int32))] [(.int (1 : Int32))])) (fun t ht => ?_) ?_
            · refine XS.ifNo X164.here hx rfl (hb hby at_388) rfl ((if0 _ _).trans (feq (own_r3 _ _ : ¬ ((own_cont (1 : Int32) (own_lmin j23 j25) (own_lmax j23 j25) (own_lmin j23 j25) (own_lmax j23 j25)) = (0 : Int32)))).1) ?_
              show Steps p.tables e below (T164.setTop (mkF m 391 _ [])) _
              refine XS.iconst X164.here hx rfl (hb hby at_391) ?_
              show Steps p.tables e below (T164.setTop (mkF m 392 _ [(.int (1 : Int32))])) _
              refine XS.goto X164.here hx rfl (pc0 := 392) (pc' := 396) rfl (hb hby at_392) (by decide) (by decide) ?_
              exact ht
            exact OFin.retB X164 hx hlk (t := .boolean) (by simp) hret (hb hby at_396) (by decide) (by decide) (by rw [hs164]; exact hQ _ _ N166)
      · refine OFin.of (S' := T95.setTop (mkF m 328 #[.val (.int p0), .val (.long q1), .second, .val (.long q2), .second, .val (.long q3), .second, .val (.long q4), .second, .val (.int i9), .val (.int i10), .val (.int i11), .val (.int i12), .val (.int i13), .val (.ref s1), .val (.ref s2), .val (.int b16), .val (.long j17), .second, .val (.long l1), .second, .val (.long u1), .second, .val (.long j23), .second, .val (.long j25), .second, .val (.long (own_lmin j23 j25)), .second, .val (.long (own_lmax j23 j25)), .second, .val (.ref b6), .val (.ref b41), .val (.int (0 : Int32)), .unset] [(.long (own_lmin j23 j25)), (.long l1)])) (fun t ht => ?_) ?_
        · refine XS.ifYes X95.here hx rfl (pc0 := 296) (pc' := 316) rfl (hb hby at_296) rfl ((if0 _ _).trans (feq (hc97 : ¬ ((lcmpW (own_lmin l1 (own_lmin j23 j25)) l1) = (0 : Int32)))).2) (by decide) (by decide) ?_
          show Steps p.tables e below (T95.setTop (mkF m 316 _ [])) _
          refine XS.iconst X95.here hx rfl (hb hby at_316) ?_
          show Steps p.tables e below (T95.setTop (mkF m 317 _ [(.int (0 : Int32))])) _
          refine XS.istore X95.here hx rfl (hb hby at_317) rfl (l' := #[.val (.int p0), .val (.long q1), .second, .val (.long q2), .second, .val (.long q3), .second, .val (.long q4), .second, .val (.int i9), .val (.int i10), .val (.int i11), .val (.int i12), .val (.int i13), .val (.ref s1), .val (.ref s2), .val (.int b16), .val (.long j17), .second, .val (.long l1), .second, .val (.long u1), .second, .val (.long j23), .second, .val (.long j25), .second, .val (.long (own_lmin j23 j25)), .second, .val (.long (own_lmax j23 j25)), .second, .val (.ref b6), .val (.ref b41), .val (.int (0 : Int32)), .unset]) rfl ?_
          show Steps p.tables e below (T95.setTop (mkF m 319 #[.val (.int p0), .val (.long q1), .second, .val (.long q2), .second, .val (.long q3), .second, .val (.long q4), .second, .val (.int i9), .val (.int i10), .val (.int i11), .val (.int i12), .val (.int i13), .val (.ref s1), .val (.ref s2), .val (.int b16), .val (.long j17), .second, .val (.long l1), .second, .val (.long u1), .second, .val (.long j23), .second, .val (.long j25), .second, .val (.long (own_lmin j23 j25)), .second, .val (.long (own_lmax j23 j25)), .second, .val (.ref b6), .val (.ref b41), .val (.int (0 : Int32)), .unset] [])) _
          refine XS.iload X95.here hx rfl (hb hby at_319) rfl ?_
          show Steps p.tables e below (T95.setTop (mkF m 321 _ [(.int b16)])) _
          refine XS.ifNo X95.here hx rfl (hb hby at_321) rfl ((if0 _ _).trans (feq (hc85 : ¬ (b16 = (0 : Int32)))).1) ?_
          show Steps p.tables e below (T95.setTop (mkF m 324 _ [])) _
          refine XS.lload X95.here hx rfl (hb hby at_324) rfl ?_
          show Steps p.tables e below (T95.setTop (mkF m 326 _ [(.long l1)])) _
          refine XS.lload X95.here hx rfl (hb hby at_326) rfl ?_
          exact ht
        obtain ⟨_, _, ⟨T167, L167, k167, n167⟩, -, X167, ⟨Lc167, hQ167, l167, y167, z167⟩, st167⟩ := Jvm.LawKit.callS X95 hx (y := (⟨"java/lang/Math", "min", "(JJ)J"⟩ : MethodName)) hown (mvT hZ (hw _ (List.mem_of_getElem? (i := 32) rfl))) (mvT hZ (hw _ (List.mem_of_getElem? (i := 33) rfl))) (mvT hZ (hw _ (List.mem_of_getElem? (i := 34) rfl))) (mvT hZ (hw _ (List.mem_of_getElem? (i := 35) rfl))) (by decide) (backOf (W := 0) (rmMn l Z _ hw [] l1 (own_lmin j23 j25) T65.heap n0 Z84 ) hZ (hw _ (List.mem_of_getElem? (i := 35) rfl)) (hw _ (List.mem_of_getElem? (i := 34) rfl)) (by decide) (by decide)) (g := (mkF m 328 #[.val (.int p0), .val (.long q1), .second, .val (.long q2), .second, .val (.long q3), .second, .val (.long q4), .second, .val (.int i9), .val (.int i10), .val (.int i11), .val (.int i12), .val (.int i13), .val (.ref s1), .val (.ref s2), .val (.int b16), .val (.long j17), .second, .val (.long l1), .second, .val (.long u1), .second, .val (.long j23), .second, .val (.long j25), .second, .val (.long (own_lmin j23 j25)), .second, .val (.long (own_lmax j23 j25)), .second, .val (.ref b6), .val (.ref b41), .val (.int (0 : Int32)), .unset] [(.long (own_lmin j23 j25)), (.long l1)])) rfl (by rw [hml]; rfl) (argsL := [(.long l1), (.long (own_lmin j23 j25))]) (rest := []) (lenOf pd_6 rfl) rfl (by show 2 * 0 + _ ≤ _; exact Nat.le_of_eq rfl) (hb hby at_328) (fun _ _ => ⟨rfl, hs95, (by decide : 9 + 0 ≤ _), (by decide : 28 + 0 ≤ _)⟩)
        dsimp only [Pt.U, Pt.locs, Pt.cells, Pt.slots] at X167 l167 y167 z167 st167 hQ167
        subst l167 y167 z167
        obtain ⟨rfl, Nq167, hs167⟩ := hQ167
        have N168 := Fr.app N96 Nq167
        refine OFin.of (S' := T167.setTop (mkF m 331 #[.val (.int p0), .val (.long q1), .second, .val (.long q2), .second, .val (.long q3), .second, .val (.long q4), .second, .val (.int i9), .val (.int i10), .val (.int i11), .val (.int i12), .val (.int i13), .val (.ref s1), .val (.ref s2), .val (.int b16), .val (.long j17), .second, .val (.long l1), .second, .val (.long u1), .second, .val (.long j23), .second, .val (.long j25), .second, .val (.long (own_lmin j23 j25)), .second, .val (.long (own_lmax j23 j25)), .second, .val (.ref b6), .val (.ref b41), .val (.int (0 : Int32)), .unset] [(.long (own_lmin l1 (own_lmin j23 j25)))])) (fun t ht => st167 t ht) ?_
        refine OFin.of (S' := T167.setTop (mkF m 334 #[.val (.int p0), .val (.long q1), .second, .val (.long q2), .second, .val (.long q3), .second, .val (.long q4), .second, .val (.int i9), .val (.int i10), .val (.int i11), .val (.int i12), .val (.int i13), .val (.ref s1), .val (.ref s2), .val (.int b16), .val (.long j17), .second, .val (.long l1), .second, .val (.long u1), .second, .val (.long j23), .second, .val (.long j25), .second, .val (.long (own_lmin j23 j25)), .second, .val (.long (own_lmax j23 j25)), .second, .val (.ref b6), .val (.ref b41), .val (.int (0 : Int32)), .unset] [(.int (lcmpW (own_lmin l1 (own_lmin j23 j25)) (own_lmin j23 j25)))])) (fun t ht => ?_) ?_
        · refine XS.lload X167.here hx rfl (hb hby at_331) rfl ?_
          show Steps p.tables e below (T167.setTop (mkF m 333 _ [(.long (own_lmin j23 j25)), (.long (own_lmin l1 (own_lmin j23 j25)))])) _
          refine XS.lcmp X167.here hx rfl (hb hby at_333) rfl ?_
          exact ht
        by_cases hc169 : (lcmpW (own_lmin l1 (own_lmin j23 j25)) (own_lmin j23 j25)) = (0 : Int32)
        · refine OFin.of (S' := T167.setTop (mkF m 341 #[.val (.int p0), .val (.long q1), .second, .val (.long q2), .second, .val (.long q3), .second, .val (.long q4), .second, .val (.int i9), .val (.int i10), .val (.int i11), .val (.int i12), .val (.int i13), .val (.ref s1), .val (.ref s2), .val (.int b16), .val (.long j17), .second, .val (.long l1), .second, .val (.long u1), .second, .val (.long j23), .second, .val (.long j25), .second, .val (.long (own_lmin j23 j25)), .second, .val (.long (own_lmax j23 j25)), .second, .val (.ref b6), .val (.ref b41), .val (.int (0 : Int32)), .unset] [(.long (own_lmax j23 j25)), (.long u1)])) (fun t ht => ?_) ?_
          · refine XS.ifNo X167.here hx rfl (hb hby at_334) rfl ((if0 _ _).trans (teq (hc169 : (lcmpW (own_lmin l1 (own_lmin j23 j25)) (own_lmin j23 j25)) = (0 : Int32))).2) ?_
            show Steps p.tables e below (T167.setTop (mkF m 337 _ [])) _
            refine XS.lload X167.here hx rfl (hb hby at_337) rfl ?_
            show Steps p.tables e below (T167.setTop (mkF m 339 _ [(.long u1)])) _
            refine XS.lload X167.here hx rfl (hb hby at_339) rfl ?_
            exact ht
          obtain ⟨_, _, ⟨T170, L170, k170, n170⟩, -, X170, ⟨Lc170, hQ170, l170, y170, z170⟩, st170⟩ := Jvm.LawKit.callS X167 hx (y := (⟨"java/lang/Math", "max", "(JJ)J"⟩ : MethodName)) hown (mvT hZ (hw _ (List.mem_of_getElem? (i := 36) rfl))) (mvT hZ (hw _ (List.mem_of_getElem? (i := 37) rfl))) (mvT hZ (hw _ (List.mem_of_getElem? (i := 34) rfl))) (mvT hZ (hw _ (List.mem_of_getElem? (i := 38) rfl))) (by decide) (backOf (W := 0) (rmMx l Z _ hw [] u1 (own_lmax j23 j25) T65.heap n0 Z84 ) hZ (hw _ (List.mem_of_getElem? (i := 38) rfl)) (hw _ (List.mem_of_getElem? (i := 34) rfl)) (by decide) (by decide)) (g := (mkF m 341 #[.val (.int p0), .val (.long q1), .second, .val (.long q2), .second, .val (.long q3), .second, .val (.long q4), .second, .val (.int i9), .val (.int i10), .val (.int i11), .val (.int i12), .val (.int i13), .val (.ref s1), .val (.ref s2), .val (.int b16), .val (.long j17), .second, .val (.long l1), .second, .val (.long u1), .second, .val (.long j23), .second, .val (.long j25), .second, .val (.long (own_lmin j23 j25)), .second, .val (.long (own_lmax j23 j25)), .second, .val (.ref b6), .val (.ref b41), .val (.int (0 : Int32)), .unset] [(.long (own_lmax j23 j25)), (.long u1)])) rfl (by rw [hml]; rfl) (argsL := [(.long u1), (.long (own_lmax j23 j25))]) (rest := []) (lenOf pd_6 rfl) rfl (by show 2 * 0 + _ ≤ _; exact Nat.le_of_eq rfl) (hb hby at_341) (fun _ _ => ⟨rfl, hs167, (by decide : 9 + 0 ≤ _), (by decide : 28 + 0 ≤ _)⟩)
          dsimp only [Pt.U, Pt.locs, Pt.cells, Pt.slots] at X170 l170 y170 z170 st170 hQ170
          subst l170 y170 z170
          obtain ⟨rfl, Nq170, hs170⟩ := hQ170
          have N171 := Fr.app N168 Nq170
          refine OFin.of (S' := T170.setTop (mkF m 344 #[.val (.int p0), .val (.long q1), .second, .val (.long q2), .second, .val (.long q3), .second, .val (.long q4), .second, .val (.int i9), .val (.int i10), .val (.int i11), .val (.int i12), .val (.int i13), .val (.ref s1), .val (.ref s2), .val (.int b16), .val (.long j17), .second, .val (.long l1), .second, .val (.long u1), .second, .val (.long j23), .second, .val (.long j25), .second, .val (.long (own_lmin j23 j25)), .second, .val (.long (own_lmax j23 j25)), .second, .val (.ref b6), .val (.ref b41), .val (.int (0 : Int32)), .unset] [(.long (own_lmax u1 (own_lmax j23 j25)))])) (fun t ht => st170 t ht) ?_
          refine OFin.of (S' := T170.setTop (mkF m 347 #[.val (.int p0), .val (.long q1), .second, .val (.long q2), .second, .val (.long q3), .second, .val (.long q4), .second, .val (.int i9), .val (.int i10), .val (.int i11), .val (.int i12), .val (.int i13), .val (.ref s1), .val (.ref s2), .val (.int b16), .val (.long j17), .second, .val (.long l1), .second, .val (.long u1), .second, .val (.long j23), .second, .val (.long j25), .second, .val (.long (own_lmin j23 j25)), .second, .val (.long (own_lmax j23 j25)), .second, .val (.ref b6), .val (.ref b41), .val (.int (0 : Int32)), .unset] [(.int (lcmpW (own_lmax u1 (own_lmax j23 j25)) (own_lmax j23 j25)))])) (fun t ht => ?_) ?_
          · refine XS.lload X170.here hx rfl (hb hby at_344) rfl ?_
            show Steps p.tables e below (T170.setTop (mkF m 346 _ [(.long (own_lmax j23 j25)), (.long (own_lmax u1 (own_lmax j23 j25)))])) _
            refine XS.lcmp X170.here hx rfl (hb hby at_346) rfl ?_
            exact ht
          by_cases hc172 : (lcmpW (own_lmax u1 (own_lmax j23 j25)) (own_lmax j23 j25)) = (0 : Int32)
          · refine OFin.of (S' := T170.setTop (mkF m 361 #[.val (.int p0), .val (.long q1), .second, .val (.long q2), .second, .val (.long q3), .second, .val (.long q4), .second, .val (.int i9), .val (.int i10), .val (.int i11), .val (.int i12), .val (.int i13), .val (.ref s1), .val (.ref s2), .val (.int b16), .val (.long j17), .second, .val (.long l1), .second, .val (.long u1), .second, .val (.long j23), .second, .val (.long j25), .second, .val (.long (own_lmin j23 j25)), .second, .val (.long (own_lmax j23 j25)), .second, .val (.ref b6), .val (.ref b41), .val (.int (0 : Int32)), .val (.int (1 : Int32))] [(.ref b41), (.ref b6)])) (fun t ht => ?_) ?_
            · refine XS.ifNo X170.here hx rfl (hb hby at_347) rfl ((if0 _ _).trans (teq (hc172 : (lcmpW (own_lmax u1 (own_lmax j23 j25)) (own_lmax j23 j25)) = (0 : Int32))).2) ?_
              show Steps p.tables e below (T170.setTop (mkF m 350 _ [])) _
              refine XS.iconst X170.here hx rfl (hb hby at_350) ?_
              show Steps p.tables e below (T170.setTop (mkF m 351 _ [(.int (1 : Int32))])) _
              refine XS.goto X170.here hx rfl (pc0 := 351) (pc' := 355) rfl (hb hby at_351) (by decide) (by decide) ?_
              show Steps p.tables e below (T170.setTop (mkF m 355 _ [(.int (1 : Int32))])) _
              refine XS.istore X170.here hx rfl (hb hby at_355) rfl (l' := #[.val (.int p0), .val (.long q1), .second, .val (.long q2), .second, .val (.long q3), .second, .val (.long q4), .second, .val (.int i9), .val (.int i10), .val (.int i11), .val (.int i12), .val (.int i13), .val (.ref s1), .val (.ref s2), .val (.int b16), .val (.long j17), .second, .val (.long l1), .second, .val (.long u1), .second, .val (.long j23), .second, .val (.long j25), .second, .val (.long (own_lmin j23 j25)), .second, .val (.long (own_lmax j23 j25)), .second, .val (.ref b6), .val (.ref b41), .val (.int (0 : Int32)), .val (.int (1 : Int32))]) rfl ?_
              show Steps p.tables e below (T170.setTop (mkF m 357 #[.val (.int p0), .val (.long q1), .second, .val (.long q2), .second, .val (.long q3), .second, .val (.long q4), .second, .val (.int i9), .val (.int i10), .val (.int i11), .val (.int i12), .val (.int i13), .val (.ref s1), .val (.ref s2), .val (.int b16), .val (.long j17), .second, .val (.long l1), .second, .val (.long u1), .second, .val (.long j23), .second, .val (.long j25), .second, .val (.long (own_lmin j23 j25)), .second, .val (.long (own_lmax j23 j25)), .second, .val (.ref b6), .val (.ref b41), .val (.int (0 : Int32)), .val (.int (1 : Int32))] [])) _
              refine XS.aload X170.here hx rfl (hb hby at_357) rfl rfl ?_
              show Steps p.tables e below (T170.setTop (mkF m 359 _ [(.ref b6)])) _
              refine XS.aload X170.here hx rfl (hb hby at_359) rfl rfl ?_
              exact ht
            obtain ⟨cq174, kq174, q174a, q174b, q174c⟩ := isOf hZ hs170 f79
            obtain ⟨_, _, ⟨T173, L173, k173, n173⟩, -, X173, ⟨Lc173, hQ173, l173, y173, z173⟩, st173⟩ := X170.virtualBack hx (y := (⟨"com/example/greylag/greylag/model/Bundle", "contains", "(Lcom/example/greylag/greylag/model/Bundle;)Z"⟩ : MethodName)) (z := (⟨"com/example/greylag/greylag/model/Bundle", "contains", "(Lcom/example/greylag/greylag/model/Bundle;)Z"⟩ : MethodName)) hown (mvT hZ (hw _ (List.mem_of_getElem? (i := 52) rfl))) (mvT hZ (hw _ (List.mem_of_getElem? (i := 53) rfl))) (notFace_of_selects (args := #[]) (mvT hZ (hw _ (List.mem_of_getElem? (i := 55) rfl)))) (mvT hZ (hw _ (List.mem_of_getElem? (i := 55) rfl))) (mvT hZ (hw _ (List.mem_of_getElem? (i := 54) rfl))) (by decide) (backOf (W := 0) (rmCo21 l Z _ hw [] b6 b41 s1 s2 l1 u1 (own_lmin j23 j25) (own_lmax j23 j25) (0 : Int32) T65.heap n0 Z84 f80 f66 f81 f67 f82 f68 f71 (rmEq21 l Z _ hw [] s1 s2 t1 t2 k1 k2 cs x0 x1 y0 T65.heap n0 Z84 f75 f72 f76 f73 f77 f74 f78 f70 hcs na0)) hZ (hw _ (List.mem_of_getElem? (i := 56) rfl)) (hw _ (List.mem_of_getElem? (i := 41) rfl)) (by decide) (by decide)) q174a q174c (g := (mkF m 361 #[.val (.int p0), .val (.long q1), .second, .val (.long q2), .second, .val (.long q3), .second, .val (.long q4), .second, .val (.int i9), .val (.int i10), .val (.int i11), .val (.int i12), .val (.int i13), .val (.ref s1), .val (.ref s2), .val (.int b16), .val (.long j17), .second, .val (.long l1), .second, .val (.long u1), .second, .val (.long j23), .second, .val (.long j25), .second, .val (.long (own_lmin j23 j25)), .second, .val (.long (own_lmax j23 j25)), .second, .val (.ref b6), .val (.ref b41), .val (.int (0 : Int32)), .val (.int (1 : Int32))] [(.ref b41), (.ref b6)])) rfl (by rw [hml]; rfl) (Steps.refl _) (argsL := [(.ref b41)]) (rest := []) (lenOf pd_8 rfl) rfl (by show 2 * 0 + _ ≤ _; exact Nat.le_of_eq rfl) (hb hby at_361) (fun _ _ => ⟨rfl, hs170, (by decide : 9 + 0 ≤ _), (by decide : 28 + 0 ≤ _)⟩)
            dsimp only [Pt.U, Pt.locs, Pt.cells, Pt.slots] at X173 l173 y173 z173 st173 hQ173
            subst l173 y173 z173
            obtain ⟨rfl, Nq173, hs173⟩ := hQ173
            have N175 := Fr.app N171 Nq173
            refine OFin.to (S' := T173.setTop (mkF m 364 #[.val (.int p0), .val (.long q1), .second, .val (.long q2), .second, .val (.long q3), .second, .val (.long q4), .second, .val (.int i9), .val (.int i10), .val (.int i11), .val (.int i12), .val (.int i13), .val (.ref s1), .val (.ref s2), .val (.int b16), .val (.long j17), .second, .val (.long l1), .second, .val (.long u1), .second, .val (.long j23), .second, .val (.long j25), .second, .val (.long (own_lmin j23 j25)), .second, .val (.long (own_lmax j23 j25)), .second, .val (.ref b6), .val (.ref b41), .val (.int (0 : Int32)), .val (.int (1 : Int32))] [(.int (own_cont (0 : Int32) l1 u1 (own_lmin j23 j25) (own_lmax j23 j25)))])) st173 ?_
            refine OFin.of (S' := T173.setTop (mkF m 373 #[.val (.int p0), .val (.long q1), .second, .val (.long q2), .second, .val (.long q3), .second, .val (.long q4), .second, .val (.int i9), .val (.int i10), .val (.int i11), .val (.int i12), .val (.int i13), .val (.ref s1), .val (.ref s2), .val (.int b16), .val (.long j17), .second, .val (.long l1), .second, .val (.long u1), .second, .val (.long j23), .second, .val (.long j25), .second, .val (.long (own_lmin j23 j25)), .second, .val (.long (own_lmax j23 j25)), .second, .val (.ref b6), .val (.ref b41), .val (.int (0 : Int32)), .val (.int (1 : Int32))] [(.ref b6), (.ref b41)])) (fun t ht => ?_) ?_
            · refine XS.iload X173.here hx rfl (hb hby at_364) rfl ?_
              show Steps p.tables e below (T173.setTop (mkF m 366 _ [(.int (0 : Int32)), (.int (own_cont (0 : Int32) l1 u1 (own_lmin j23 j25) (own_lmax j23 j25)))])) _
              refine XS.icmpNo X173.here hx rfl (hb hby at_366) rfl (teq (own_t1 hc97 : (own_cont (0 : Int32) l1 u1 (own_lmin j23 j25) (own_lmax j23 j25)) = (0 : Int32))).2 ?_
              show Steps p.tables e below (T173.setTop (mkF m 369 _ [])) _
              refine XS.aload X173.here hx rfl (hb hby at_369) rfl rfl ?_
              show Steps p.tables e below (T173.setTop (mkF m 371 _ [(.ref b41)])) _
              refine XS.aload X173.here hx rfl (hb hby at_371) rfl rfl ?_
              exact ht
            obtain ⟨cq177, kq177, q177a, q177b, q177c⟩ := isOf hZ hs173 f83
            obtain ⟨_, _, ⟨T176, L176, k176, n176⟩, -, X176, ⟨Lc176, hQ176, l176, y176, z176⟩, st176⟩ := X173.virtualBack hx (y := (⟨"com/example/greylag/greylag/model/Bundle", "contains", "(Lcom/example/greylag/greylag/model/Bundle;)Z"⟩ : MethodName)) (z := (⟨"com/example/greylag/greylag/model/Bundle", "contains", "(Lcom/example/greylag/greylag/model/Bundle;)Z"⟩ : MethodName)) hown (mvT hZ (hw _ (List.mem_of_getElem? (i := 52) rfl))) (mvT hZ (hw _ (List.mem_of_getElem? (i := 53) rfl))) (notFace_of_selects (args := #[]) (mvT hZ (hw _ (List.mem_of_getElem? (i := 55) rfl)))) (mvT hZ (hw _ (List.mem_of_getElem? (i := 55) rfl))) (mvT hZ (hw _ (List.mem_of_getElem? (i := 54) rfl))) (by decide) (backOf (W := 0) (rmCo12 l Z _ hw [] b41 b6 s2 s1 (own_lmin j23 j25) (own_lmax j23 j25) l1 u1 (0 : Int32) T65.heap n0 Z84 f66 f80 f67 f81 f68 f82 f75 (rmEq12 l Z _ hw [] s2 s1 t2 t1 k2 k1 cs y0 x0 x1 T65.heap n0 Z84 f71 f76 f72 f77 f73 f78 f74 f70 hcs (Ne.symm na0))) hZ (hw _ (List.mem_of_getElem? (i := 56) rfl)) (hw _ (List.mem_of_getElem? (i := 41) rfl)) (by decide) (by decide)) q177a q177c (g := (mkF m 373 #[.val (.int p0), .val (.long q1), .second, .val (.long q2), .second, .val (.long q3), .second, .val (.long q4), .second, .val (.int i9), .val (.int i10), .val (.int i11), .val (.int i12), .val (.int i13), .val (.ref s1), .val (.ref s2), .val (.int b16), .val (.long j17), .second, .val (.long l1), .second, .val (.long u1), .second, .val (.long j23), .second, .val (.long j25), .second, .val (.long (own_lmin j23 j25)), .second, .val (.long (own_lmax j23 j25)), .second, .val (.ref b6), .val (.ref b41), .val (.int (0 : Int32)), .val (.int (1 : Int32))] [(.ref b6), (.ref b41)])) rfl (by rw [hml]; rfl) (Steps.refl _) (argsL := [(.ref b6)]) (rest := []) (lenOf pd_8 rfl) rfl (by show 2 * 0 + _ ≤ _; exact Nat.le_of_eq rfl) (hb hby at_373) (fun _ _ => ⟨rfl, hs173, (by decide : 9 + 0 ≤ _), (by decide : 28 + 0 ≤ _)⟩)
            dsimp only [Pt.U, Pt.locs, Pt.cells, Pt.slots] at X176 l176 y176 z176 st176 hQ176
            subst l176 y176 z176
            obtain ⟨rfl, Nq176, hs176⟩ := hQ176
            have N178 := Fr.app N175 Nq176
            refine OFin.to (S' := T176.setTop (mkF m 376 #[.val (.int p0), .val (.long q1), .second, .val (.long q2), .second, .val (.long q3), .second, .val (.long q4), .second, .val (.int i9), .val (.int i10), .val (.int i11), .val (.int i12), .val (.int i13), .val (.ref s1), .val (.ref s2), .val (.int b16), .val (.long j17), .second, .val (.long l1), .second, .val (.long u1), .second, .val (.long j23), .second, .val (.long j25), .second, .val (.long (own_lmin j23 j25)), .second, .val (.long (own_lmax j23 j25)), .second, .val (.ref b6), .val (.ref b41), .val (.int (0 : Int32)), .val (.int (1 : Int32))] [(.int (own_cont (0 : Int32) (own_lmin j23 j25) (own_lmax j23 j25) l1 u1))])) st176 ?_
            refine OFin.of (S' := T176.setTop (mkF m 385 #[.val (.int p0), .val (.long q1), .second, .val (.long q2), .second, .val (.long q3), .second, .val (.long q4), .second, .val (.int i9), .val (.int i10), .val (.int i11), .val (.int i12), .val (.int i13), .val (.ref s1), .val (.ref s2), .val (.int b16), .val (.long j17), .second, .val (.long l1), .second, .val (.long u1), .second, .val (.long j23), .second, .val (.long j25), .second, .val (.long (own_lmin j23 j25)), .second, .val (.long (own_lmax j23 j25)), .second, .val (.ref b6), .val (.ref b41), .val (.int (0 : Int32)), .val (.int (1 : Int32))] [(.ref b41), (.ref b41)])) (fun t ht => ?_) ?_
            · refine XS.iload X176.here hx rfl (hb hby at_376) rfl ?_
              show Steps p.tables e below (T176.setTop (mkF m 378 _ [(.int (1 : Int32)), (.int (own_cont (0 : Int32) (own_lmin j23 j25) (own_lmax j23 j25) l1 u1))])) _
              refine XS.icmpNo X176.here hx rfl (hb hby at_378) rfl (teq (own_v3 hE hE2 hc85 hc169 hc172 : (own_cont (0 : Int32) (own_lmin j23 j25) (own_lmax j23 j25) l1 u1) = (1 : Int32))).2 ?_
              show Steps p.tables e below (T176.setTop (mkF m 381 _ [])) _
              refine XS.aload X176.here hx rfl (hb hby at_381) rfl rfl ?_
              show Steps p.tables e below (T176.setTop (mkF m 383 _ [(.ref b41)])) _
              refine XS.aload X176.here hx rfl (hb hby at_383) rfl rfl ?_
              exact ht
            obtain ⟨cq180, kq180, q180a, q180b, q180c⟩ := isOf hZ hs176 f83
            obtain ⟨_, _, ⟨T179, L179, k179, n179⟩, -, X179, ⟨Lc179, hQ179, l179, y179, z179⟩, st179⟩ := X176.virtualBack hx (y := (⟨"com/example/greylag/greylag/model/Bundle", "contains", "(Lcom/example/greylag/greylag/model/Bundle;)Z"⟩ : MethodName)) (z := (⟨"com/example/greylag/greylag/model/Bundle", "contains", "(Lcom/example/greylag/greylag/model/Bundle;)Z"⟩ : MethodName)) hown (mvT hZ (hw _ (List.mem_of_getElem? (i := 52) rfl))) (mvT hZ (hw _ (List.mem_of_getElem? (i := 53) rfl))) (notFace_of_selects (args := #[]) (mvT hZ (hw _ (List.mem_of_getElem? (i := 55) rfl)))) (mvT hZ (hw _ (List.mem_of_getElem? (i := 55) rfl))) (mvT hZ (hw _ (List.mem_of_getElem? (i := 54) rfl))) (by decide) (backOf (W := 0) (rmCos l Z _ hw [] b41 b41 s2 (own_lmin j23 j25) (own_lmax j23 j25) (own_lmin j23 j25) (own_lmax j23 j25) (1 : Int32) T65.heap n0 Z84 f66 f66 f67 f67 f68 f68 f75 (rmEs l Z _ hw [] s2 T65.heap n0 Z84)) hZ (hw _ (List.mem_of_getElem? (i := 56) rfl)) (hw _ (List.mem_of_getElem? (i := 41) rfl)) (by decide) (by decide)) q180a q180c (g := (mkF m 385 #[.val (.int p0), .val (.long q1), .second, .val (.long q2), .second, .val (.long q3), .second, .val (.long q4), .second, .val (.int i9), .val (.int i10), .val (.int i11), .val (.int i12), .val (.int i13), .val (.ref s1), .val (.ref s2), .val (.int b16), .val (.long j17), .second, .val (.long l1), .second, .val (.long u1), .second, .val (.long j23), .second, .val (.long j25), .second, .val (.long (own_lmin j23 j25)), .second, .val (.long (own_lmax j23 j25)), .second, .val (.ref b6), .val (.ref b41), .val (.int (0 : Int32)), .val (.int (1 : Int32))] [(.ref b41), (.ref b41)])) rfl (by rw [hml]; rfl) (Steps.refl _) (argsL := [(.ref b41)]) (rest := []) (lenOf pd_8 rfl) rfl (by show 2 * 0 + _ ≤ _; exact Nat.le_of_eq rfl) (hb hby at_385) (fun _ _ => ⟨rfl, hs176, (by decide : 9 + 0 ≤ _), (by decide : 28 + 0 ≤ _)⟩)
            dsimp only [Pt.U, Pt.locs, Pt.cells, Pt.slots] at X179 l179 y179 z179 st179 hQ179
            subst l179 y179 z179
            obtain ⟨rfl, Nq179, hs179⟩ := hQ179
            have N181 := Fr.app N178 Nq179
            refine OFin.to (S' := T179.setTop (mkF m 388 #[.val (.int p0), .val (.long q1), .second, .val (.long q2), .second, .val (.long q3), .second, .val (.long q4), .second, .val (.int i9), .val (.int i10), .val (.int i11), .val (.int i12), .val (.int i13), .val (.ref s1), .val (.ref s2), .val (.int b16), .val (.long j17), .second, .val (.long l1), .second, .val (.long u1), .second, .val (.long j23), .second, .val (.long j25), .second, .val (.long (own_lmin j23 j25)), .second, .val (.long (own_lmax j23 j25)), .second, .val (.ref b6), .val (.ref b41), .val (.int (0 : Int32)), .val (.int (1 : Int32))] [(.int (own_cont (1 : Int32) (own_lmin j23 j25) (own_lmax j23 j25) (own_lmin j23 j25) (own_lmax j23 j25)))])) st179 ?_
            refine OFin.of (S' := T179.setTop (mkF m 396 #[.val (.int p0), .val (.long q1), .second, .val (.long q2), .second, .val (.long q3), .second, .val (.long q4), .second, .val (.int i9), .val (.int i10), .val (.int i11), .val (.int i12), .val (.int i13), .val (.ref s1), .val (.ref s2), .val (.int b16), .val (.long j17), .second, .val (.long l1), .second, .val (.long u1), .second, .val (.long j23), .second, .val (.long j25), .second, .val (.long (own_lmin j23 j25)), .second, .val (.long (own_lmax j23 j25)), .second, .val (.ref b6), .val (.ref b41), .val (.int (0 : Int32)), .val (.int (1 : Int32))] [(.int (1 : Int32))])) (fun t ht => ?_) ?_
            · refine XS.ifNo X179.here hx rfl (hb hby at_388) rfl ((if0 _ _).trans (feq (own_r3 _ _ : ¬ ((own_cont (1 : Int32) (own_lmin j23 j25) (own_lmax j23 j25) (own_lmin j23 j25) (own_lmax j23 j25)) = (0 : Int32)))).1) ?_
              show Steps p.tables e below (T179.setTop (mkF m 391 _ [])) _
              refine XS.iconst X179.here hx rfl (hb hby at_391) ?_
              show Steps p.tables e below (T179.setTop (mkF m 392 _ [(.int (1 : Int32))])) _
              refine XS.goto X179.here hx rfl (pc0 := 392) (pc' := 396) rfl (hb hby at_392) (by decide) (by decide) ?_
              exact ht
            exact OFin.retB X179 hx hlk (t := .boolean) (by simp) hret (hb hby at_396) (by decide) (by decide) (by rw [hs179]; exact hQ _ _ N181)
          · refine OFin.of (S' := T170.setTop (mkF m 361 #[.val (.int p0), .val (.long q1), .second, .val (.long q2), .second, .val (.long q3), .second, .val (.long q4), .second, .val (.int i9), .val (.int i10), .val (.int i11), .val (.int i12), .val (.int i13), .val (.ref s1), .val (.ref s2), .val (.int b16), .val (.long j17), .second, .val (.long l1), .second, .val (.long u1), .second, .val (.long j23), .second, .val (.long j25), .second, .val (.long (own_lmin j23 j25)), .second, .val (.long (own_lmax j23 j25)), .second, .val (.ref b6), .val (.ref b41), .val (.int (0 : Int32)), .val (.int (0 : Int32))] [(.ref b41), (.ref b6)])) (fun t ht => ?_) ?_
            · refine XS.ifYes X170.here hx rfl (pc0 := 347) (pc' := 354) rfl (hb hby at_347) rfl ((if0 _ _).trans (feq (hc172 : ¬ ((lcmpW (own_lmax u1 (own_lmax j23 j25)) (own_lmax j23 j25)) = (0 : Int32)))).2) (by decide) (by decide) ?_
              show Steps p.tables e below (T170.setTop (mkF m 354 _ [])) _
              refine XS.iconst X170.here hx rfl (hb hby at_354) ?_
              show Steps p.tables e below (T170.setTop (mkF m 355 _ [(.int (0 : Int32))])) _
              refine XS.istore X170.here hx rfl (hb hby at_355) rfl (l' := #[.val (.int p0), .val (.long q1), .second, .val (.long q2), .second, .val (.long q3), .second, .val (.long q4), .second, .val (.int i9), .val (.int i10), .val (.int i11), .val (.int i12), .val (.int i13), .val (.ref s1), .val (.ref s2), .val (.int b16), .val (.long j17), .second, .val (.long l1), .second, .val (.long u1), .second, .val (.long j23), .second, .val (.long j25), .second, .val (.long (own_lmin j23 j25)), .second, .val (.long (own_lmax j23 j25)), .second, .val (.ref b6), .val (.ref b41), .val (.int (0 : Int32)), .val (.int (0 : Int32))]) rfl ?_
              show Steps p.tables e below (T170.setTop (mkF m 357 #[.val (.int p0), .val (.long q1), .second, .val (.long q2), .second, .val (.long q3), .second, .val (.long q4), .second, .val (.int i9), .val (.int i10), .val (.int i11), .val (.int i12), .val (.int i13), .val (.ref s1), .val (.ref s2), .val (.int b16), .val (.long j17), .second, .val (.long l1), .second, .val (.long u1), .second, .val (.long j23), .second, .val (.long j25), .second, .val (.long (own_lmin j23 j25)), .second, .val (.long (own_lmax j23 j25)), .second, .val (.ref b6), .val (.ref b41), .val (.int (0 : Int32)), .val (.int (0 : Int32))] [])) _
              refine XS.aload X170.here hx rfl (hb hby at_357) rfl rfl ?_
              show Steps p.tables e below (T170.setTop (mkF m 359 _ [(.ref b6)])) _
              refine XS.aload X170.here hx rfl (hb hby at_359) rfl rfl ?_
              exact ht
            obtain ⟨cq183, kq183, q183a, q183b, q183c⟩ := isOf hZ hs170 f79
            obtain ⟨_, _, ⟨T182, L182, k182, n182⟩, -, X182, ⟨Lc182, hQ182, l182, y182, z182⟩, st182⟩ := X170.virtualBack hx (y := (⟨"com/example/greylag/greylag/model/Bundle", "contains", "(Lcom/example/greylag/greylag/model/Bundle;)Z"⟩ : MethodName)) (z := (⟨"com/example/greylag/greylag/model/Bundle", "contains", "(Lcom/example/greylag/greylag/model/Bundle;)Z"⟩ : MethodName)) hown (mvT hZ (hw _ (List.mem_of_getElem? (i := 52) rfl))) (mvT hZ (hw _ (List.mem_of_getElem? (i := 53) rfl))) (notFace_of_selects (args := #[]) (mvT hZ (hw _ (List.mem_of_getElem? (i := 55) rfl)))) (mvT hZ (hw _ (List.mem_of_getElem? (i := 55) rfl))) (mvT hZ (hw _ (List.mem_of_getElem? (i := 54) rfl))) (by decide) (backOf (W := 0) (rmCo21 l Z _ hw [] b6 b41 s1 s2 l1 u1 (own_lmin j23 j25) (own_lmax j23 j25) (0 : Int32) T65.heap n0 Z84 f80 f66 f81 f67 f82 f68 f71 (rmEq21 l Z _ hw [] s1 s2 t1 t2 k1 k2 cs x0 x1 y0 T65.heap n0 Z84 f75 f72 f76 f73 f77 f74 f78 f70 hcs na0)) hZ (hw _ (List.mem_of_getElem? (i := 56) rfl)) (hw _ (List.mem_of_getElem? (i := 41) rfl)) (by decide) (by decide)) q183a q183c (g := (mkF m 361 #[.val (.int p0), .val (.long q1), .second, .val (.long q2), .second, .val (.long q3), .second, .val (.long q4), .second, .val (.int i9), .val (.int i10), .val (.int i11), .val (.int i12), .val (.int i13), .val (.ref s1), .val (.ref s2), .val (.int b16), .val (.long j17), .second, .val (.long l1), .second, .val (.long u1), .second, .val (.long j23), .second, .val (.long j25), .second, .val (.long (own_lmin j23 j25)), .second, .val (.long (own_lmax j23 j25)), .second, .val (.ref b6), .val (.ref b41), .val (.int (0 : Int32)), .val (.int (0 : Int32))] [(.ref b41), (.ref b6)])) rfl (by rw [hml]; rfl) (Steps.refl _) (argsL := [(.ref b41)]) (rest := []) (lenOf pd_8 rfl) rfl (by show 2 * 0 + _ ≤ _; exact Nat.le_of_eq rfl) (hb hby at_361) (fun _ _ => ⟨rfl, hs170, (by decide : 9 + 0 ≤ _), (by decide : 28 + 0 ≤ _)⟩)
            dsimp only [Pt.U, Pt.locs, Pt.cells, Pt.slots] at X182 l182 y182 z182 st182 hQ182
            subst l182 y182 z182
            obtain ⟨rfl, Nq182, hs182⟩ := hQ182
            have N184 := Fr.app N171 Nq182
            refine OFin.to (S' := T182.setTop (mkF m 364 #[.val (.int p0), .val (.long q1), .second, .val (.long q2), .second, .val (.long q3), .second, .val (.long q4), .second, .val (.int i9), .val (.int i10), .val (.int i11), .val (.int i12), .val (.int i13), .val (.ref s1), .val (.ref s2), .val (.int b16), .val (.long j17), .second, .val (.long l1), .second, .val (.long u1), .second, .val (.long j23), .second, .val (.long j25), .second, .val (.long (own_lmin j23 j25)), .second, .val (.long (own_lmax j23 j25)), .second, .val (.ref b6), .val (.ref b41), .val (.int (0 : Int32)), .val (.int (0 : Int32))] [(.int (own_cont (0 : Int32) l1 u1 (own_lmin j23 j25) (own_lmax j23 j25)))])) st182 ?_
            refine OFin.of (S' := T182.setTop (mkF m 373 #[.val (.int p0), .val (.long q1), .second, .val (.long q2), .second, .val (.long q3), .second, .val (.long q4), .second, .val (.int i9), .val (.int i10), .val (.int i11), .val (.int i12), .val (.int i13), .val (.ref s1), .val (.ref s2), .val (.int b16), .val (.long j17), .second, .val (.long l1), .second, .val (.long u1), .second, .val (.long j23), .second, .val (.long j25), .second, .val (.long (own_lmin j23 j25)), .second, .val (.long (own_lmax j23 j25)), .second, .val (.ref b6), .val (.ref b41), .val (.int (0 : Int32)), .val (.int (0 : Int32))] [(.ref b6), (.ref b41)])) (fun t ht => ?_) ?_
            · refine XS.iload X182.here hx rfl (hb hby at_364) rfl ?_
              show Steps p.tables e below (T182.setTop (mkF m 366 _ [(.int (0 : Int32)), (.int (own_cont (0 : Int32) l1 u1 (own_lmin j23 j25) (own_lmax j23 j25)))])) _
              refine XS.icmpNo X182.here hx rfl (hb hby at_366) rfl (teq (own_t1 hc97 : (own_cont (0 : Int32) l1 u1 (own_lmin j23 j25) (own_lmax j23 j25)) = (0 : Int32))).2 ?_
              show Steps p.tables e below (T182.setTop (mkF m 369 _ [])) _
              refine XS.aload X182.here hx rfl (hb hby at_369) rfl rfl ?_
              show Steps p.tables e below (T182.setTop (mkF m 371 _ [(.ref b41)])) _
              refine XS.aload X182.here hx rfl (hb hby at_371) rfl rfl ?_
              exact ht
            obtain ⟨cq186, kq186, q186a, q186b, q186c⟩ := isOf hZ hs182 f83
            obtain ⟨_, _, ⟨T185, L185, k185, n185⟩, -, X185, ⟨Lc185, hQ185, l185, y185, z185⟩, st185⟩ := X182.virtualBack hx (y := (⟨"com/example/greylag/greylag/model/Bundle", "contains", "(Lcom/example/greylag/greylag/model/Bundle;)Z"⟩ : MethodName)) (z := (⟨"com/example/greylag/greylag/model/Bundle", "contains", "(Lcom/example/greylag/greylag/model/Bundle;)Z"⟩ : MethodName)) hown (mvT hZ (hw _ (List.mem_of_getElem? (i := 52) rfl))) (mvT hZ (hw _ (List.mem_of_getElem? (i := 53) rfl))) (notFace_of_selects (args := #[]) (mvT hZ (hw _ (List.mem_of_getElem? (i := 55) rfl)))) (mvT hZ (hw _ (List.mem_of_getElem? (i := 55) rfl))) (mvT hZ (hw _ (List.mem_of_getElem? (i := 54) rfl))) (by decide) (backOf (W := 0) (rmCo12 l Z _ hw [] b41 b6 s2 s1 (own_lmin j23 j25) (own_lmax j23 j25) l1 u1 (0 : Int32) T65.heap n0 Z84 f66 f80 f67 f81 f68 f82 f75 (rmEq12 l Z _ hw [] s2 s1 t2 t1 k2 k1 cs y0 x0 x1 T65.heap n0 Z84 f71 f76 f72 f77 f73 f78 f74 f70 hcs (Ne.symm na0))) hZ (hw _ (List.mem_of_getElem? (i := 56) rfl)) (hw _ (List.mem_of_getElem? (i := 41) rfl)) (by decide) (by decide)) q186a q186c (g := (mkF m 373 #[.val (.int p0), .val (.long q1), .second, .val (.long q2), .second, .val (.long q3), .second, .val (.long q4), .second, .val (.int i9), .val (.int i10), .val (.int i11), .val (.int i12), .val (.int i13), .val (.ref s1), .val (.ref s2), .val (.int b16), .val (.long j17), .second, .val (.long l1), .second, .val (.long u1), .second, .val (.long j23), .second, .val (.long j25), .second, .val (.long (own_lmin j23 j25)), .second, .val (.long (own_lmax j23 j25)), .second, .val (.ref b6), .val (.ref b41), .val (.int (0 : Int32)), .val (.int (0 : Int32))] [(.ref b6), (.ref b41)])) rfl (by rw [hml]; rfl) (Steps.refl _) (argsL := [(.ref b6)]) (rest := []) (lenOf pd_8 rfl) rfl (by show 2 * 0 + _ ≤ _; exact Nat.le_of_eq rfl) (hb hby at_373) (fun _ _ => ⟨rfl, hs182, (by decide : 9 + 0 ≤ _), (by decide : 28 + 0 ≤ _)⟩)
            dsimp only [Pt.U, Pt.locs, Pt.cells, Pt.slots] at X185 l185 y185 z185 st185 hQ185
            subst l185 y185 z185
            obtain ⟨rfl, Nq185, hs185⟩ := hQ185
            have N187 := Fr.app N184 Nq185
            refine OFin.to (S' := T185.setTop (mkF m 376 #[.val (.int p0), .val (.long q1), .second, .val (.long q2), .second, .val (.long q3), .second, .val (.long q4), .second, .val (.int i9), .val (.int i10), .val (.int i11), .val (.int i12), .val (.int i13), .val (.ref s1), .val (.ref s2), .val (.int b16), .val (.long j17), .second, .val (.long l1), .second, .val (.long u1), .second, .val (.long j23), .second, .val (.long j25), .second, .val (.long (own_lmin j23 j25)), .second, .val (.long (own_lmax j23 j25)), .second, .val (.ref b6), .val (.ref b41), .val (.int (0 : Int32)), .val (.int (0 : Int32))] [(.int (own_cont (0 : Int32) (own_lmin j23 j25) (own_lmax j23 j25) l1 u1))])) st185 ?_
            refine OFin.of (S' := T185.setTop (mkF m 385 #[.val (.int p0), .val (.long q1), .second, .val (.long q2), .second, .val (.long q3), .second, .val (.long q4), .second, .val (.int i9), .val (.int i10), .val (.int i11), .val (.int i12), .val (.int i13), .val (.ref s1), .val (.ref s2), .val (.int b16), .val (.long j17), .second, .val (.long l1), .second, .val (.long u1), .second, .val (.long j23), .second, .val (.long j25), .second, .val (.long (own_lmin j23 j25)), .second, .val (.long (own_lmax j23 j25)), .second, .val (.ref b6), .val (.ref b41), .val (.int (0 : Int32)), .val (.int (0 : Int32))] [(.ref b41), (.ref b41)])) (fun t ht => ?_) ?_
            · refine XS.iload X185.here hx rfl (hb hby at_376) rfl ?_
              show Steps p.tables e below (T185.setTop (mkF m 378 _ [(.int (0 : Int32)), (.int (own_cont (0 : Int32) (own_lmin j23 j25) (own_lmax j23 j25) l1 u1))])) _
              refine XS.icmpNo X185.here hx rfl (hb hby at_378) rfl (teq (own_v2 hc172 : (own_cont (0 : Int32) (own_lmin j23 j25) (own_lmax j23 j25) l1 u1) = (0 : Int32))).2 ?_
              show Steps p.tables e below (T185.setTop (mkF m 381 _ [])) _
              refine XS.aload X185.here hx rfl (hb hby at_381) rfl rfl ?_
              show Steps p.tables e below (T185.setTop (mkF m 383 _ [(.ref b41)])) _
              refine XS.aload X185.here hx rfl (hb hby at_383) rfl rfl ?_
              exact ht
            obtain ⟨cq189, kq189, q189a, q189b, q189c⟩ := isOf hZ hs185 f83
            obtain ⟨_, _, ⟨T188, L188, k188, n188⟩, -, X188, ⟨Lc188, hQ188, l188, y188, z188⟩, st188⟩ := X185.virtualBack hx (y := (⟨"com/example/greylag/greylag/model/Bundle", "contains", "(Lcom/example/greylag/greylag/model/Bundle;)Z"⟩ : MethodName)) (z := (⟨"com/example/greylag/greylag/model/Bundle", "contains", "(Lcom/example/greylag/greylag/model/Bundle;)Z"⟩ : MethodName)) hown (mvT hZ (hw _ (List.mem_of_getElem? (i := 52) rfl))) (mvT hZ (hw _ (List.mem_of_getElem? (i := 53) rfl))) (notFace_of_selects (args := #[]) (mvT hZ (hw _ (List.mem_of_getElem? (i := 55) rfl)))) (mvT hZ (hw _ (List.mem_of_getElem? (i := 55) rfl))) (mvT hZ (hw _ (List.mem_of_getElem? (i := 54) rfl))) (by decide) (backOf (W := 0) (rmCos l Z _ hw [] b41 b41 s2 (own_lmin j23 j25) (own_lmax j23 j25) (own_lmin j23 j25) (own_lmax j23 j25) (1 : Int32) T65.heap n0 Z84 f66 f66 f67 f67 f68 f68 f75 (rmEs l Z _ hw [] s2 T65.heap n0 Z84)) hZ (hw _ (List.mem_of_getElem? (i := 56) rfl)) (hw _ (List.mem_of_getElem? (i := 41) rfl)) (by decide) (by decide)) q189a q189c (g := (mkF m 385 #[.val (.int p0), .val (.long q1), .second, .val (.long q2), .second, .val (.long q3), .second, .val (.long q4), .second, .val (.int i9), .val (.int i10), .val (.int i11), .val (.int i12), .val (.int i13), .val (.ref s1), .val (.ref s2), .val (.int b16), .val (.long j17), .second, .val (.long l1), .second, .val (.long u1), .second, .val (.long j23), .second, .val (.long j25), .second, .val (.long (own_lmin j23 j25)), .second, .val (.long (own_lmax j23 j25)), .second, .val (.ref b6), .val (.ref b41), .val (.int (0 : Int32)), .val (.int (0 : Int32))] [(.ref b41), (.ref b41)])) rfl (by rw [hml]; rfl) (Steps.refl _) (argsL := [(.ref b41)]) (rest := []) (lenOf pd_8 rfl) rfl (by show 2 * 0 + _ ≤ _; exact Nat.le_of_eq rfl) (hb hby at_385) (fun _ _ => ⟨rfl, hs185, (by decide : 9 + 0 ≤ _), (by decide : 28 + 0 ≤ _)⟩)
            dsimp only [Pt.U, Pt.locs, Pt.cells, Pt.slots] at X188 l188 y188 z188 st188 hQ188
            subst l188 y188 z188
            obtain ⟨rfl, Nq188, hs188⟩ := hQ188
            have N190 := Fr.app N187 Nq188
            refine OFin.to (S' := T188.setTop (mkF m 388 #[.val (.int p0), .val (.long q1), .second, .val (.long q2), .second, .val (.long q3), .second, .val (.long q4), .second, .val (.int i9), .val (.int i10), .val (.int i11), .val (.int i12), .val (.int i13), .val (.ref s1), .val (.ref s2), .val (.int b16), .val (.long j17), .second, .val (.long l1), .second, .val (.long u1), .second, .val (.long j23), .second, .val (.long j25), .second, .val (.long (own_lmin j23 j25)), .second, .val (.long (own_lmax j23 j25)), .second, .val (.ref b6), .val (.ref b41), .val (.int (0 : Int32)), .val (.int (0 : Int32))] [(.int (own_cont (1 : Int32) (own_lmin j23 j25) (own_lmax j23 j25) (own_lmin j23 j25) (own_lmax j23 j25)))])) st188 ?_
            refine OFin.of (S' := T188.setTop (mkF m 396 #[.val (.int p0), .val (.long q1), .second, .val (.long q2), .second, .val (.long q3), .second, .val (.long q4), .second, .val (.int i9), .val (.int i10), .val (.int i11), .val (.int i12), .val (.int i13), .val (.ref s1), .val (.ref s2), .val (.int b16), .val (.long j17), .second, .val (.long l1), .second, .val (.long u1), .second, .val (.long j23), .second, .val (.long j25), .second, .val (.long (own_lmin j23 j25)), .second, .val (.long (own_lmax j23 j25)), .second, .val (.ref b6), .val (.ref b41), .val (.int (0 : Int32)), .val (.int (0 : Int32))] [(.int (1 : Int32))])) (fun t ht => ?_) ?_
            · refine XS.ifNo X188.here hx rfl (hb hby at_388) rfl ((if0 _ _).trans (feq (own_r3 _ _ : ¬ ((own_cont (1 : Int32) (own_lmin j23 j25) (own_lmax j23 j25) (own_lmin j23 j25) (own_lmax j23 j25)) = (0 : Int32)))).1) ?_
              show Steps p.tables e below (T188.setTop (mkF m 391 _ [])) _
              refine XS.iconst X188.here hx rfl (hb hby at_391) ?_
              show Steps p.tables e below (T188.setTop (mkF m 392 _ [(.int (1 : Int32))])) _
              refine XS.goto X188.here hx rfl (pc0 := 392) (pc' := 396) rfl (hb hby at_392) (by decide) (by decide) ?_
              exact ht
            exact OFin.retB X188 hx hlk (t := .boolean) (by simp) hret (hb hby at_396) (by decide) (by decide) (by rw [hs188]; exact hQ _ _ N190)
        · refine OFin.of (S' := T167.setTop (mkF m 361 #[.val (.int p0), .val (.long q1), .second, .val (.long q2), .second, .val (.long q3), .second, .val (.long q4), .second, .val (.int i9), .val (.int i10), .val (.int i11), .val (.int i12), .val (.int i13), .val (.ref s1), .val (.ref s2), .val (.int b16), .val (.long j17), .second, .val (.long l1), .second, .val (.long u1), .second, .val (.long j23), .second, .val (.long j25), .second, .val (.long (own_lmin j23 j25)), .second, .val (.long (own_lmax j23 j25)), .second, .val (.ref b6), .val (.ref b41), .val (.int (0 : Int32)), .val (.int (0 : Int32))] [(.ref b41), (.ref b6)])) (fun t ht => ?_) ?_
          · refine XS.ifYes X167.here hx rfl (pc0 := 334) (pc' := 354) rfl (hb hby at_334) rfl ((if0 _ _).trans (feq (hc169 : ¬ ((lcmpW (own_lmin l1 (own_lmin j23 j25)) (own_lmin j23 j25)) = (0 : Int32)))).2) (by decide) (by decide) ?_
            show Steps p.tables e below (T167.setTop (mkF m 354 _ [])) _
            refine XS.iconst X167.here hx rfl (hb hby at_354) ?_
            show Steps p.tables e below (T167.setTop (mkF m 355 _ [(.int (0 : Int32))])) _
            refine XS.istore X167.here hx rfl (hb hby at_355) rfl (l' := #[.val (.int p0), .val (.long q1), .second, .val (.long q2), .second, .val (.long q3), .second, .val (.long q4), .second, .val (.int i9), .val (.int i10), .val (.int i11), .val (.int i12), .val (.int i13), .val (.ref s1), .val (.ref s2), .val (.int b16), .val (.long j17), .second, .val (.long l1), .second, .val (.long u1), .second, .val (.long j23), .second, .val (.long j25), .second, .val (.long (own_lmin j23 j25)), .second, .val (.long (own_lmax j23 j25)), .second, .val (.ref b6), .val (.ref b41), .val (.int (0 : Int32)), .val (.int (0 : Int32))]) rfl ?_
            show Steps p.tables e below (T167.setTop (mkF m 357 #[.val (.int p0), .val (.long q1), .second, .val (.long q2), .second, .val (.long q3), .second, .val (.long q4), .second, .val (.int i9), .val (.int i10), .val (.int i11), .val (.int i12), .val (.int i13), .val (.ref s1), .val (.ref s2), .val (.int b16), .val (.long j17), .second, .val (.long l1), .second, .val (.long u1), .second, .val (.long j23), .second, .val (.long j25), .second, .val (.long (own_lmin j23 j25)), .second, .val (.long (own_lmax j23 j25)), .second, .val (.ref b6), .val (.ref b41), .val (.int (0 : Int32)), .val (.int (0 : Int32))] [])) _
            refine XS.aload X167.here hx rfl (hb hby at_357) rfl rfl ?_
            show Steps p.tables e below (T167.setTop (mkF m 359 _ [(.ref b6)])) _
            refine XS.aload X167.here hx rfl (hb hby at_359) rfl rfl ?_
            exact ht
          obtain ⟨cq192, kq192, q192a, q192b, q192c⟩ := isOf hZ hs167 f79
          obtain ⟨_, _, ⟨T191, L191, k191, n191⟩, -, X191, ⟨Lc191, hQ191, l191, y191, z191⟩, st191⟩ := X167.virtualBack hx (y := (⟨"com/example/greylag/greylag/model/Bundle", "contains", "(Lcom/example/greylag/greylag/model/Bundle;)Z"⟩ : MethodName)) (z := (⟨"com/example/greylag/greylag/model/Bundle", "contains", "(Lcom/example/greylag/greylag/model/Bundle;)Z"⟩ : MethodName)) hown (mvT hZ (hw _ (List.mem_of_getElem? (i := 52) rfl))) (mvT hZ (hw _ (List.mem_of_getElem? (i := 53) rfl))) (notFace_of_selects (args := #[]) (mvT hZ (hw _ (List.mem_of_getElem? (i := 55) rfl)))) (mvT hZ (hw _ (List.mem_of_getElem? (i := 55) rfl))) (mvT hZ (hw _ (List.mem_of_getElem? (i := 54) rfl))) (by decide) (backOf (W := 0) (rmCo21 l Z _ hw [] b6 b41 s1 s2 l1 u1 (own_lmin j23 j25) (own_lmax j23 j25) (0 : Int32) T65.heap n0 Z84 f80 f66 f81 f67 f82 f68 f71 (rmEq21 l Z _ hw [] s1 s2 t1 t2 k1 k2 cs x0 x1 y0 T65.heap n0 Z84 f75 f72 f76 f73 f77 f74 f78 f70 hcs na0)) hZ (hw _ (List.mem_of_getElem? (i := 56) rfl)) (hw _ (List.mem_of_getElem? (i := 41) rfl)) (by decide) (by decide)) q192a q192c (g := (mkF m 361 #[.val (.int p0), .val (.long q1), .second, .val (.long q2), .second, .val (.long q3), .second, .val (.long q4), .second, .val (.int i9), .val (.int i10), .val (.int i11), .val (.int i12), .val (.int i13), .val (.ref s1), .val (.ref s2), .val (.int b16), .val (.long j17), .second, .val (.long l1), .second, .val (.long u1), .second, .val (.long j23), .second, .val (.long j25), .second, .val (.long (own_lmin j23 j25)), .second, .val (.long (own_lmax j23 j25)), .second, .val (.ref b6), .val (.ref b41), .val (.int (0 : Int32)), .val (.int (0 : Int32))] [(.ref b41), (.ref b6)])) rfl (by rw [hml]; rfl) (Steps.refl _) (argsL := [(.ref b41)]) (rest := []) (lenOf pd_8 rfl) rfl (by show 2 * 0 + _ ≤ _; exact Nat.le_of_eq rfl) (hb hby at_361) (fun _ _ => ⟨rfl, hs167, (by decide : 9 + 0 ≤ _), (by decide : 28 + 0 ≤ _)⟩)
          dsimp only [Pt.U, Pt.locs, Pt.cells, Pt.slots] at X191 l191 y191 z191 st191 hQ191
          subst l191 y191 z191
          obtain ⟨rfl, Nq191, hs191⟩ := hQ191
          have N193 := Fr.app N168 Nq191
          refine OFin.to (S' := T191.setTop (mkF m 364 #[.val (.int p0), .val (.long q1), .second, .val (.long q2), .second, .val (.long q3), .second, .val (.long q4), .second, .val (.int i9), .val (.int i10), .val (.int i11), .val (.int i12), .val (.int i13), .val (.ref s1), .val (.ref s2), .val (.int b16), .val (.long j17), .second, .val (.long l1), .second, .val (.long u1), .second, .val (.long j23), .second, .val (.long j25), .second, .val (.long (own_lmin j23 j25)), .second, .val (.long (own_lmax j23 j25)), .second, .val (.ref b6), .val (.ref b41), .val (.int (0 : Int32)), .val (.int (0 : Int32))] [(.int (own_cont (0 : Int32) l1 u1 (own_lmin j23 j25) (own_lmax j23 j25)))])) st191 ?_
          refine OFin.of (S' := T191.setTop (mkF m 373 #[.val (.int p0), .val (.long q1), .second, .val (.long q2), .second, .val (.long q3), .second, .val (.long q4), .second, .val (.int i9), .val (.int i10), .val (.int i11), .val (.int i12), .val (.int i13), .val (.ref s1), .val (.ref s2), .val (.int b16), .val (.long j17), .second, .val (.long l1), .second, .val (.long u1), .second, .val (.long j23), .second, .val (.long j25), .second, .val (.long (own_lmin j23 j25)), .second, .val (.long (own_lmax j23 j25)), .second, .val (.ref b6), .val (.ref b41), .val (.int (0 : Int32)), .val (.int (0 : Int32))] [(.ref b6), (.ref b41)])) (fun t ht => ?_) ?_
          · refine XS.iload X191.here hx rfl (hb hby at_364) rfl ?_
            show Steps p.tables e below (T191.setTop (mkF m 366 _ [(.int (0 : Int32)), (.int (own_cont (0 : Int32) l1 u1 (own_lmin j23 j25) (own_lmax j23 j25)))])) _
            refine XS.icmpNo X191.here hx rfl (hb hby at_366) rfl (teq (own_t1 hc97 : (own_cont (0 : Int32) l1 u1 (own_lmin j23 j25) (own_lmax j23 j25)) = (0 : Int32))).2 ?_
            show Steps p.tables e below (T191.setTop (mkF m 369 _ [])) _
            refine XS.aload X191.here hx rfl (hb hby at_369) rfl rfl ?_
            show Steps p.tables e below (T191.setTop (mkF m 371 _ [(.ref b41)])) _
            refine XS.aload X191.here hx rfl (hb hby at_371) rfl rfl ?_
            exact ht
          obtain ⟨cq195, kq195, q195a, q195b, q195c⟩ := isOf hZ hs191 f83
          obtain ⟨_, _, ⟨T194, L194, k194, n194⟩, -, X194, ⟨Lc194, hQ194, l194, y194, z194⟩, st194⟩ := X191.virtualBack hx (y := (⟨"com/example/greylag/greylag/model/Bundle", "contains", "(Lcom/example/greylag/greylag/model/Bundle;)Z"⟩ : MethodName)) (z := (⟨"com/example/greylag/greylag/model/Bundle", "contains", "(Lcom/example/greylag/greylag/model/Bundle;)Z"⟩ : MethodName)) hown (mvT hZ (hw _ (List.mem_of_getElem? (i := 52) rfl))) (mvT hZ (hw _ (List.mem_of_getElem? (i := 53) rfl))) (notFace_of_selects (args := #[]) (mvT hZ (hw _ (List.mem_of_getElem? (i := 55) rfl)))) (mvT hZ (hw _ (List.mem_of_getElem? (i := 55) rfl))) (mvT hZ (hw _ (List.mem_of_getElem? (i := 54) rfl))) (by decide) (backOf (W := 0) (rmCo12 l Z _ hw [] b41 b6 s2 s1 (own_lmin j23 j25) (own_lmax j23 j25) l1 u1 (0 : Int32) T65.heap n0 Z84 f66 f80 f67 f81 f68 f82 f75 (rmEq12 l Z _ hw [] s2 s1 t2 t1 k2 k1 cs y0 x0 x1 T65.heap n0 Z84 f71 f76 f72 f77 f73 f78 f74 f70 hcs (Ne.symm na0))) hZ (hw _ (List.mem_of_getElem? (i := 56) rfl)) (hw _ (List.mem_of_getElem? (i := 41) rfl)) (by decide) (by decide)) q195a q195c (g := (mkF m 373 #[.val (.int p0), .val (.long q1), .second, .val (.long q2), .second, .val (.long q3), .second, .val (.long q4), .second, .val (.int i9), .val (.int i10), .val (.int i11), .val (.int i12), .val (.int i13), .val (.ref s1), .val (.ref s2), .val (.int b16), .val (.long j17), .second, .val (.long l1), .second, .val (.long u1), .second, .val (.long j23), .second, .val (.long j25), .second, .val (.long (own_lmin j23 j25)), .second, .val (.long (own_lmax j23 j25)), .second, .val (.ref b6), .val (.ref b41), .val (.int (0 : Int32)), .val (.int (0 : Int32))] [(.ref b6), (.ref b41)])) rfl (by rw [hml]; rfl) (Steps.refl _) (argsL := [(.ref b6)]) (rest := []) (lenOf pd_8 rfl) rfl (by show 2 * 0 + _ ≤ _; exact Nat.le_of_eq rfl) (hb hby at_373) (fun _ _ => ⟨rfl, hs191, (by decide : 9 + 0 ≤ _), (by decide : 28 + 0 ≤ _)⟩)
          dsimp only [Pt.U, Pt.locs, Pt.cells, Pt.slots] at X194 l194 y194 z194 st194 hQ194
          subst l194 y194 z194
          obtain ⟨rfl, Nq194, hs194⟩ := hQ194
          have N196 := Fr.app N193 Nq194
          refine OFin.to (S' := T194.setTop (mkF m 376 #[.val (.int p0), .val (.long q1), .second, .val (.long q2), .second, .val (.long q3), .second, .val (.long q4), .second, .val (.int i9), .val (.int i10), .val (.int i11), .val (.int i12), .val (.int i13), .val (.ref s1), .val (.ref s2), .val (.int b16), .val (.long j17), .second, .val (.long l1), .second, .val (.long u1), .second, .val (.long j23), .second, .val (.long j25), .second, .val (.long (own_lmin j23 j25)), .second, .val (.long (own_lmax j23 j25)), .second, .val (.ref b6), .val (.ref b41), .val (.int (0 : Int32)), .val (.int (0 : Int32))] [(.int (own_cont (0 : Int32) (own_lmin j23 j25) (own_lmax j23 j25) l1 u1))])) st194 ?_
          refine OFin.of (S' := T194.setTop (mkF m 385 #[.val (.int p0), .val (.long q1), .second, .val (.long q2), .second, .val (.long q3), .second, .val (.long q4), .second, .val (.int i9), .val (.int i10), .val (.int i11), .val (.int i12), .val (.int i13), .val (.ref s1), .val (.ref s2), .val (.int b16), .val (.long j17), .second, .val (.long l1), .second, .val (.long u1), .second, .val (.long j23), .second, .val (.long j25), .second, .val (.long (own_lmin j23 j25)), .second, .val (.long (own_lmax j23 j25)), .second, .val (.ref b6), .val (.ref b41), .val (.int (0 : Int32)), .val (.int (0 : Int32))] [(.ref b41), (.ref b41)])) (fun t ht => ?_) ?_
          · refine XS.iload X194.here hx rfl (hb hby at_376) rfl ?_
            show Steps p.tables e below (T194.setTop (mkF m 378 _ [(.int (0 : Int32)), (.int (own_cont (0 : Int32) (own_lmin j23 j25) (own_lmax j23 j25) l1 u1))])) _
            refine XS.icmpNo X194.here hx rfl (hb hby at_378) rfl (teq (own_v1 hc169 : (own_cont (0 : Int32) (own_lmin j23 j25) (own_lmax j23 j25) l1 u1) = (0 : Int32))).2 ?_
            show Steps p.tables e below (T194.setTop (mkF m 381 _ [])) _
            refine XS.aload X194.here hx rfl (hb hby at_381) rfl rfl ?_
            show Steps p.tables e below (T194.setTop (mkF m 383 _ [(.ref b41)])) _
            refine XS.aload X194.here hx rfl (hb hby at_383) rfl rfl ?_
            exact ht
          obtain ⟨cq198, kq198, q198a, q198b, q198c⟩ := isOf hZ hs194 f83
          obtain ⟨_, _, ⟨T197, L197, k197, n197⟩, -, X197, ⟨Lc197, hQ197, l197, y197, z197⟩, st197⟩ := X194.virtualBack hx (y := (⟨"com/example/greylag/greylag/model/Bundle", "contains", "(Lcom/example/greylag/greylag/model/Bundle;)Z"⟩ : MethodName)) (z := (⟨"com/example/greylag/greylag/model/Bundle", "contains", "(Lcom/example/greylag/greylag/model/Bundle;)Z"⟩ : MethodName)) hown (mvT hZ (hw _ (List.mem_of_getElem? (i := 52) rfl))) (mvT hZ (hw _ (List.mem_of_getElem? (i := 53) rfl))) (notFace_of_selects (args := #[]) (mvT hZ (hw _ (List.mem_of_getElem? (i := 55) rfl)))) (mvT hZ (hw _ (List.mem_of_getElem? (i := 55) rfl))) (mvT hZ (hw _ (List.mem_of_getElem? (i := 54) rfl))) (by decide) (backOf (W := 0) (rmCos l Z _ hw [] b41 b41 s2 (own_lmin j23 j25) (own_lmax j23 j25) (own_lmin j23 j25) (own_lmax j23 j25) (1 : Int32) T65.heap n0 Z84 f66 f66 f67 f67 f68 f68 f75 (rmEs l Z _ hw [] s2 T65.heap n0 Z84)) hZ (hw _ (List.mem_of_getElem? (i := 56) rfl)) (hw _ (List.mem_of_getElem? (i := 41) rfl)) (by decide) (by decide)) q198a q198c (g := (mkF m 385 #[.val (.int p0), .val (.long q1), .second, .val (.long q2), .second, .val (.long q3), .second, .val (.long q4), .second, .val (.int i9), .val (.int i10), .val (.int i11), .val (.int i12), .val (.int i13), .val (.ref s1), .val (.ref s2), .val (.int b16), .val (.long j17), .second, .val (.long l1), .second, .val (.long u1), .second, .val (.long j23), .second, .val (.long j25), .second, .val (.long (own_lmin j23 j25)), .second, .val (.long (own_lmax j23 j25)), .second, .val (.ref b6), .val (.ref b41), .val (.int (0 : Int32)), .val (.int (0 : Int32))] [(.ref b41), (.ref b41)])) rfl (by rw [hml]; rfl) (Steps.refl _) (argsL := [(.ref b41)]) (rest := []) (lenOf pd_8 rfl) rfl (by show 2 * 0 + _ ≤ _; exact Nat.le_of_eq rfl) (hb hby at_385) (fun _ _ => ⟨rfl, hs194, (by decide : 9 + 0 ≤ _), (by decide : 28 + 0 ≤ _)⟩)
          dsimp only [Pt.U, Pt.locs, Pt.cells, Pt.slots] at X197 l197 y197 z197 st197 hQ197
          subst l197 y197 z197
          obtain ⟨rfl, Nq197, hs197⟩ := hQ197
          have N199 := Fr.app N196 Nq197
          refine OFin.to (S' := T197.setTop (mkF m 388 #[.val (.int p0), .val (.long q1), .second, .val (.long q2), .second, .val (.long q3), .second, .val (.long q4), .second, .val (.int i9), .val (.int i10), .val (.int i11), .val (.int i12), .val (.int i13), .val (.ref s1), .val (.ref s2), .val (.int b16), .val (.long j17), .second, .val (.long l1), .second, .val (.long u1), .second, .val (.long j23), .second, .val (.long j25), .second, .val (.long (own_lmin j23 j25)), .second, .val (.long (own_lmax j23 j25)), .second, .val (.ref b6), .val (.ref b41), .val (.int (0 : Int32)), .val (.int (0 : Int32))] [(.int (own_cont (1 : Int32) (own_lmin j23 j25) (own_lmax j23 j25) (own_lmin j23 j25) (own_lmax j23 j25)))])) st197 ?_
          refine OFin.of (S' := T197.setTop (mkF m 396 #[.val (.int p0), .val (.long q1), .second, .val (.long q2), .second, .val (.long q3), .second, .val (.long q4), .second, .val (.int i9), .val (.int i10), .val (.int i11), .val (.int i12), .val (.int i13), .val (.ref s1), .val (.ref s2), .val (.int b16), .val (.long j17), .second, .val (.long l1), .second, .val (.long u1), .second, .val (.long j23), .second, .val (.long j25), .second, .val (.long (own_lmin j23 j25)), .second, .val (.long (own_lmax j23 j25)), .second, .val (.ref b6), .val (.ref b41), .val (.int (0 : Int32)), .val (.int (0 : Int32))] [(.int (1 : Int32))])) (fun t ht => ?_) ?_
          · refine XS.ifNo X197.here hx rfl (hb hby at_388) rfl ((if0 _ _).trans (feq (own_r3 _ _ : ¬ ((own_cont (1 : Int32) (own_lmin j23 j25) (own_lmax j23 j25) (own_lmin j23 j25) (own_lmax j23 j25)) = (0 : Int32)))).1) ?_
            show Steps p.tables e below (T197.setTop (mkF m 391 _ [])) _
            refine XS.iconst X197.here hx rfl (hb hby at_391) ?_
            show Steps p.tables e below (T197.setTop (mkF m 392 _ [(.int (1 : Int32))])) _
            refine XS.goto X197.here hx rfl (pc0 := 392) (pc' := 396) rfl (hb hby at_392) (by decide) (by decide) ?_
            exact ht
          exact OFin.retB X197 hx hlk (t := .boolean) (by simp) hret (hb hby at_396) (by decide) (by decide) (by rw [hs197]; exact hQ _ _ N199)
set_option maxRecDepth 65536 in
set_option maxHeartbeats 40000000 in
theorem seg2 {p : Program} {l : Launch} {e : Env} {s : State} {m : MethodId} {args : Array Value} {below : List Frame} {meth : Method} {c : Code} (Z : State) (a0 : Array Value) (hw : ∀ d ∈ tables_1, d.before a0 Z = true) (hx : p.tables.exec = Jvm.exec) (hby : c.code = code) (hlk : meth.locks = false) (hret : meth.sig.returnType = some .boolean) (hml : c.maxLocals = 35) (hown : s.vm.findClass "com/example/greylag/greylag/model/BundleContainsPinLaw" = some m.cls) (hZ : Z.Warmed39 s.vm) {Q : Option Value → Heap → List Loc → Prop} (n0 : Nat) (p0 : Int32) (q1 : Int64) (q2 : Int64) (q3 : Int64) (q4 : Int64) (i9 : Int32) (i10 : Int32) (i11 : Int32) (i12 : Int32) (i13 : Int32) (s1 : Addr) (s2 : Addr) (b16 : Int32) (j17 : Int64) (l1 : Int64) (u1 : Int64) (j23 : Int64) (j25 : Int64) (cs : Int32) (t1 : Addr) (t2 : Addr) (k1 : ClassId) (k2 : ClassId) (x0 : Int32) (x1 : Int32) (y0 : Int32) (y1 : Int32) {T0 : State} {locs : List Loc} {h0 : Heap} (X0 : Stand p l e room_1 s m args below meth c T0 locs 7 22) (e0 : T0.heap = h0) (Z0 : n0 ≤ h0.size) (N0 : Fr n0 locs) (fa0 : Sta Z h0 "java/lang/String" "COMPACT_STRINGS" "Z" (.int cs)) (fa1 : Exa Z h0 s1 "java/lang/String") (fa2 : Fld Z h0 s1 "java/lang/String" "coder" "B" (.int (0 : Int32))) (fa3 : Fld Z h0 s1 "java/lang/String" "value" "[B" (.ref t1)) (fa4 : Arv Z h0 t1 k1 .byte (2 : Int32) [(.int x0), (.int x1)] (.int (0 : Int32))) (fa5 : Exa Z h0 s2 "java/lang/String") (fa6 : Fld Z h0 s2 "java/lang/String" "coder" "B" (.int (0 : Int32))) (fa7 : Fld Z h0 s2 "java/lang/String" "value" "[B" (.ref t2)) (fa8 : Arv Z h0 t2 k2 .byte (2 : Int32) [(.int y0), (.int y1)] (.int (0 : Int32))) (na0 : s1 ≠ s2) (hcs : ¬ cs = (0 : Int32)) (hE : (b16 = (1 : Int32) ∧ (own_leq2 x0 x1 y0 y1) = (1 : Int32)) ∨ (b16 = (0 : Int32) ∧ (own_leq2 x0 x1 y0 y1) = (0 : Int32))) (hE2 : (own_leq2 y0 y1 x0 x1) = (own_leq2 x0 x1 y0 y1)) (hQ : ∀ (h' : Heap) (L : List Loc), Fr n0 L → Q (some (.int (1 : Int32))) h' L) :
    OFin p e below (KPost s Q room_1.cells room_1.slots) (T0.setTop (mkF m 223 #[.val (.int p0), .val (.long q1), .second, .val (.long q2), .second, .val (.long q3), .second, .val (.long q4), .second, .val (.int i9), .val (.int i10), .val (.int i11), .val (.int i12), .val (.int i13), .val (.ref s1), .val (.ref s2), .val (.int b16), .val (.long j17), .second, .val (.long l1), .second, .val (.long u1), .second, .val (.long j23), .second, .val (.long j25), .second, .unset, .unset, .unset, .unset, .unset, .unset, .unset, .unset] [])) := by
  refine OFin.of (S' := T0.setTop (mkF m 227 #[.val (.int p0), .val (.long q1), .second, .val (.long q2), .second, .val (.long q3), .second, .val (.long q4), .second, .val (.int i9), .val (.int i10), .val (.int i11), .val (.int i12), .val (.int i13), .val (.ref s1), .val (.ref s2), .val (.int b16), .val (.long j17), .second, .val (.long l1), .second, .val (.long u1), .second, .val (.long j23), .second, .val (.long j25), .second, .unset, .unset, .unset, .unset, .unset, .unset, .unset, .unset] [(.long j25), (.long j23)])) (fun t ht => ?_) ?_
  · refine XS.lload X0.here hx rfl (hb hby at_223) rfl ?_
    show Steps p.tables e below (T0.setTop (mkF m 225 _ [(.long j23)])) _
    refine XS.lload X0.here hx rfl (hb hby at_225) rfl ?_
    exact ht
  obtain ⟨_, _, ⟨T200, L200, k200, n200⟩, -, X200, ⟨Lc200, hQ200, l200, y200, z200⟩, st200⟩ := Jvm.LawKit.callS X0 hx (y := (⟨"java/lang/Math", "min", "(JJ)J"⟩ : MethodName)) hown (mvT hZ (hw _ (List.mem_of_getElem? (i := 32) rfl))) (mvT hZ (hw _ (List.mem_of_getElem? (i := 33) rfl))) (mvT hZ (hw _ (List.mem_of_getElem? (i := 34) rfl))) (mvT hZ (hw _ (List.mem_of_getElem? (i := 35) rfl))) (by decide) (backOf (W := 0) (rmMn l Z _ hw [] j23 j25 h0 n0 Z0 ) hZ (hw _ (List.mem_of_getElem? (i := 35) rfl)) (hw _ (List.mem_of_getElem? (i := 34) rfl)) (by decide) (by decide)) (g := (mkF m 227 #[.val (.int p0), .val (.long q1), .second, .val (.long q2), .second, .val (.long q3), .second, .val (.long q4), .second, .val (.int i9), .val (.int i10), .val (.int i11), .val (.int i12), .val (.int i13), .val (.ref s1), .val (.ref s2), .val (.int b16), .val (.long j17), .second, .val (.long l1), .second, .val (.long u1), .second, .val (.long j23), .second, .val (.long j25), .second, .unset, .unset, .unset, .unset, .unset, .unset, .unset, .unset] [(.long j25), (.long j23)])) rfl (by rw [hml]; rfl) (argsL := [(.long j23), (.long j25)]) (rest := []) (lenOf pd_6 rfl) rfl (by show 2 * 0 + _ ≤ _; exact Nat.le_of_eq rfl) (hb hby at_227) (fun _ _ => ⟨rfl, e0, (by decide : 7 + 0 ≤ _), (by decide : 22 + 0 ≤ _)⟩)
  dsimp only [Pt.U, Pt.locs, Pt.cells, Pt.slots] at X200 l200 y200 z200 st200 hQ200
  subst l200 y200 z200
  obtain ⟨rfl, Nq200, hs200⟩ := hQ200
  have N201 := Fr.app N0 Nq200
  refine OFin.of (S' := T200.setTop (mkF m 230 #[.val (.int p0), .val (.long q1), .second, .val (.long q2), .second, .val (.long q3), .second, .val (.long q4), .second, .val (.int i9), .val (.int i10), .val (.int i11), .val (.int i12), .val (.int i13), .val (.ref s1), .val (.ref s2), .val (.int b16), .val (.long j17), .second, .val (.long l1), .second, .val (.long u1), .second, .val (.long j23), .second, .val (.long j25), .second, .unset, .unset, .unset, .unset, .unset, .unset, .unset, .unset] [(.long (own_lmin j23 j25))])) (fun t ht => st200 t ht) ?_
  refine OFin.of (S' := T200.setTop (mkF m 236 #[.val (.int p0), .val (.long q1), .second, .val (.long q2), .second, .val (.long q3), .second, .val (.long q4), .second, .val (.int i9), .val (.int i10), .val (.int i11), .val (.int i12), .val (.int i13), .val (.ref s1), .val (.ref s2), .val (.int b16), .val (.long j17), .second, .val (.long l1), .second, .val (.long u1), .second, .val (.long j23), .second, .val (.long j25), .second, .val (.long (own_lmin j23 j25)), .second, .unset, .unset, .unset, .unset, .unset, .unset] [(.long j25), (.long j23)])) (fun t ht => ?_) ?_
  · refine XS.lstore X200.here hx rfl (hb hby at_230) rfl (l' := #[.val (.int p0), .val (.long q1), .second, .val (.long q2), .second, .val (.long q3), .second, .val (.long q4), .second, .val (.int i9), .val (.int i10), .val (.int i11), .val (.int i12), .val (.int i13), .val (.ref s1), .val (.ref s2), .val (.int b16), .val (.long j17), .second, .val (.long l1), .second, .val (.long u1), .second, .val (.long j23), .second, .val (.long j25), .second, .val (.long (own_lmin j23 j25)), .second, .unset, .unset, .unset, .unset, .unset, .unset]) rfl ?_
    show Steps p.tables e below (T200.setTop (mkF m 232 #[.val (.int p0), .val (.long q1), .second, .val (.long q2), .second, .val (.long q3), .second, .val (.long q4), .second, .val (.int i9), .val (.int i10), .val (.int i11), .val (.int i12), .val (.int i13), .val (.ref s1), .val (.ref s2), .val (.int b16), .val (.long j17), .second, .val (.long l1), .second, .val (.long u1), .second, .val (.long j23), .second, .val (.long j25), .second, .val (.long (own_lmin j23 j25)), .second, .unset, .unset, .unset, .unset, .unset, .unset] [])) _
    refine XS.lload X200.here hx rfl (hb hby at_232) rfl ?_
    show Steps p.tables e below (T200.setTop (mkF m 234 _ [(.long j23)])) _
    refine XS.lload X200.here hx rfl (hb hby at_234) rfl ?_
    exact ht
  obtain ⟨_, _, ⟨T202, L202, k202, n202⟩, -, X202, ⟨Lc202, hQ202, l202, y202, z202⟩, st202⟩ := Jvm.LawKit.callS X200 hx (y := (⟨"java/lang/Math", "max", "(JJ)J"⟩ : MethodName)) hown (mvT hZ (hw _ (List.mem_of_getElem? (i := 36) rfl))) (mvT hZ (hw _ (List.mem_of_getElem? (i := 37) rfl))) (mvT hZ (hw _ (List.mem_of_getElem? (i := 34) rfl))) (mvT hZ (hw _ (List.mem_of_getElem? (i := 38) rfl))) (by decide) (backOf (W := 0) (rmMx l Z _ hw [] j23 j25 h0 n0 Z0 ) hZ (hw _ (List.mem_of_getElem? (i := 38) rfl)) (hw _ (List.mem_of_getElem? (i := 34) rfl)) (by decide) (by decide)) (g := (mkF m 236 #[.val (.int p0), .val (.long q1), .second, .val (.long q2), .second, .val (.long q3), .second, .val (.long q4), .second, .val (.int i9), .val (.int i10), .val (.int i11), .val (.int i12), .val (.int i13), .val (.ref s1), .val (.ref s2), .val (.int b16), .val (.long j17), .second, .val (.long l1), .second, .val (.long u1), .second, .val (.long j23), .second, .val (.long j25), .second, .val (.long (own_lmin j23 j25)), .second, .unset, .unset, .unset, .unset, .unset, .unset] [(.long j25), (.long j23)])) rfl (by rw [hml]; rfl) (argsL := [(.long j23), (.long j25)]) (rest := []) (lenOf pd_6 rfl) rfl (by show 2 * 0 + _ ≤ _; exact Nat.le_of_eq rfl) (hb hby at_236) (fun _ _ => ⟨rfl, hs200, (by decide : 7 + 0 ≤ _), (by decide : 22 + 0 ≤ _)⟩)
  dsimp only [Pt.U, Pt.locs, Pt.cells, Pt.slots] at X202 l202 y202 z202 st202 hQ202
  subst l202 y202 z202
  obtain ⟨rfl, Nq202, hs202⟩ := hQ202
  have N203 := Fr.app N201 Nq202
  refine OFin.of (S' := T202.setTop (mkF m 239 #[.val (.int p0), .val (.long q1), .second, .val (.long q2), .second, .val (.long q3), .second, .val (.long q4), .second, .val (.int i9), .val (.int i10), .val (.int i11), .val (.int i12), .val (.int i13), .val (.ref s1), .val (.ref s2), .val (.int b16), .val (.long j17), .second, .val (.long l1), .second, .val (.long u1), .second, .val (.long j23), .second, .val (.long j25), .second, .val (.long (own_lmin j23 j25)), .second, .unset, .unset, .unset, .unset, .unset, .unset] [(.long (own_lmax j23 j25))])) (fun t ht => st202 t ht) ?_
  refine OFin.of (S' := T202.setTop (mkF m 246 #[.val (.int p0), .val (.long q1), .second, .val (.long q2), .second, .val (.long q3), .second, .val (.long q4), .second, .val (.int i9), .val (.int i10), .val (.int i11), .val (.int i12), .val (.int i13), .val (.ref s1), .val (.ref s2), .val (.int b16), .val (.long j17), .second, .val (.long l1), .second, .val (.long u1), .second, .val (.long j23), .second, .val (.long j25), .second, .val (.long (own_lmin j23 j25)), .second, .val (.long (own_lmax j23 j25)), .second, .unset, .unset, .unset, .unset] [(.int (lcmpW (own_lmin j23 j25) (own_lmax j23 j25)))])) (fun t ht => ?_) ?_
  · refine XS.lstore X202.here hx rfl (hb hby at_239) rfl (l' := #[.val (.int p0), .val (.long q1), .second, .val (.long q2), .second, .val (.long q3), .second, .val (.long q4), .second, .val (.int i9), .val (.int i10), .val (.int i11), .val (.int i12), .val (.int i13), .val (.ref s1), .val (.ref s2), .val (.int b16), .val (.long j17), .second, .val (.long l1), .second, .val (.long u1), .second, .val (.long j23), .second, .val (.long j25), .second, .val (.long (own_lmin j23 j25)), .second, .val (.long (own_lmax j23 j25)), .second, .unset, .unset, .unset, .unset]) rfl ?_
    show Steps p.tables e below (T202.setTop (mkF m 241 #[.val (.int p0), .val (.long q1), .second, .val (.long q2), .second, .val (.long q3), .second, .val (.long q4), .second, .val (.int i9), .val (.int i10), .val (.int i11), .val (.int i12), .val (.int i13), .val (.ref s1), .val (.ref s2), .val (.int b16), .val (.long j17), .second, .val (.long l1), .second, .val (.long u1), .second, .val (.long j23), .second, .val (.long j25), .second, .val (.long (own_lmin j23 j25)), .second, .val (.long (own_lmax j23 j25)), .second, .unset, .unset, .unset, .unset] [])) _
    refine XS.lload X202.here hx rfl (hb hby at_241) rfl ?_
    show Steps p.tables e below (T202.setTop (mkF m 243 _ [(.long (own_lmin j23 j25))])) _
    refine XS.lload X202.here hx rfl (hb hby at_243) rfl ?_
    show Steps p.tables e below (T202.setTop (mkF m 245 _ [(.long (own_lmax j23 j25)), (.long (own_lmin j23 j25))])) _
    refine XS.lcmp X202.here hx rfl (hb hby at_245) rfl ?_
    exact ht
  by_cases hc204 : (lcmpW (own_lmin j23 j25) (own_lmax j23 j25)) = (0 : Int32)
  · refine OFin.of (S' := T202.setTop (mkF m 250 #[.val (.int p0), .val (.long q1), .second, .val (.long q2), .second, .val (.long q3), .second, .val (.long q4), .second, .val (.int i9), .val (.int i10), .val (.int i11), .val (.int i12), .val (.int i13), .val (.ref s1), .val (.ref s2), .val (.int b16), .val (.long j17), .second, .val (.long l1), .second, .val (.long u1), .second, .val (.long j23), .second, .val (.long j25), .second, .val (.long (own_lmin j23 j25)), .second, .val (.long (own_lmax j23 j25)), .second, .unset, .unset, .unset, .unset] [(.int (1 : Int32))])) (fun t ht => ?_) ?_
    · refine XS.ifNo X202.here hx rfl (hb hby at_246) rfl ((if0 _ _).trans (teq (hc204 : (lcmpW (own_lmin j23 j25) (own_lmax j23 j25)) = (0 : Int32))).2) ?_
      show Steps p.tables e below (T202.setTop (mkF m 249 _ [])) _
      refine XS.iconst X202.here hx rfl (hb hby at_249) ?_
      exact ht
    exact OFin.retB X202 hx hlk (t := .boolean) (by simp) hret (hb hby at_250) (by decide) (by decide) (by rw [hs202]; exact hQ _ _ N203)
  · refine OFin.of (S' := T202.setTop (mkF m 251 #[.val (.int p0), .val (.long q1), .second, .val (.long q2), .second, .val (.long q3), .second, .val (.long q4), .second, .val (.int i9), .val (.int i10), .val (.int i11), .val (.int i12), .val (.int i13), .val (.ref s1), .val (.ref s2), .val (.int b16), .val (.long j17), .second, .val (.long l1), .second, .val (.long u1), .second, .val (.long j23), .second, .val (.long j25), .second, .val (.long (own_lmin j23 j25)), .second, .val (.long (own_lmax j23 j25)), .second, .unset, .unset, .unset, .unset] [])) (fun t ht => ?_) ?_
    · refine XS.ifYes X202.here hx rfl (pc0 := 246) (pc' := 251) rfl (hb hby at_246) rfl ((if0 _ _).trans (feq (hc204 : ¬ ((lcmpW (own_lmin j23 j25) (own_lmax j23 j25)) = (0 : Int32)))).2) (by decide) (by decide) ?_
      exact ht
    obtain ⟨T205, h205, X205, e205, E205, A205, D205, -, st205⟩ := newO X202 hx hZ hown (hw _ (List.mem_of_getElem? (i := 39) rfl)) (hw _ (List.mem_of_getElem? (i := 40) rfl)) (hw _ (List.mem_of_getElem? (i := 41) rfl)) hs202 (g := (mkF m 251 #[.val (.int p0), .val (.long q1), .second, .val (.long q2), .second, .val (.long q3), .second, .val (.long q4), .second, .val (.int i9), .val (.int i10), .val (.int i11), .val (.int i12), .val (.int i13), .val (.ref s1), .val (.ref s2), .val (.int b16), .val (.long j17), .second, .val (.long l1), .second, .val (.long u1), .second, .val (.long j23), .second, .val (.long j25), .second, .val (.long (own_lmin j23 j25)), .second, .val (.long (own_lmax j23 j25)), .second, .unset, .unset, .unset, .unset] [])) rfl (hb hby at_251) (by decide) (by decide)
    obtain ⟨b205, gq205⟩ : ∃ z, z = h0.size := ⟨_, rfl⟩
    rw [← gq205] at A205 D205 st205
    have g206 : n0 ≤ b205 := (Nat.le_trans Z0 (Nat.le_of_eq gq205.symm))
    have ne207 : s1 ≠ b205 := (Nat.ne_of_lt (Nat.lt_of_lt_of_le fa1.lt (Nat.le_of_eq gq205.symm)))
    have ne208 : t1 ≠ b205 := (Nat.ne_of_lt (Nat.lt_of_lt_of_le fa4.lt (Nat.le_of_eq gq205.symm)))
    have ne209 : s2 ≠ b205 := (Nat.ne_of_lt (Nat.lt_of_lt_of_le fa5.lt (Nat.le_of_eq gq205.symm)))
    have ne210 : t2 ≠ b205 := (Nat.ne_of_lt (Nat.lt_of_lt_of_le fa8.lt (Nat.le_of_eq gq205.symm)))
    have f211 := fa0.ext E205
    have f212 := fa1.ext E205
    have f213 := fa2.ext E205
    have f214 := fa3.ext E205
    have f215 := fa4.ext E205
    have f216 := fa5.ext E205
    have f217 := fa6.ext E205
    have f218 := fa7.ext E205
    have f219 := fa8.ext E205
    have Z220 : n0 ≤ h205.size := (Nat.le_trans Z0 E205.1)
    have f221 : Fld Z h205 b205 "com/example/greylag/greylag/model/Bundle" "namespace" "Ljava/lang/String;" .null := D205 (Or.inr (hw _ (List.mem_of_getElem? (i := 47) rfl))) (ty := (.object "java/lang/String")) (by decide)
    have f222 : Fld Z h205 b205 "com/example/greylag/greylag/model/Bundle" "lower" "J" (.long (0 : Int64)) := D205 (Or.inr (hw _ (List.mem_of_getElem? (i := 49) rfl))) (ty := .long) (by decide)
    have f223 : Fld Z h205 b205 "com/example/greylag/greylag/model/Bundle" "upper" "J" (.long (0 : Int64)) := D205 (Or.inr (hw _ (List.mem_of_getElem? (i := 51) rfl))) (ty := .long) (by decide)
    refine OFin.of (S' := T205.setTop (mkF m 254 #[.val (.int p0), .val (.long q1), .second, .val (.long q2), .second, .val (.long q3), .second, .val (.long q4), .second, .val (.int i9), .val (.int i10), .val (.int i11), .val (.int i12), .val (.int i13), .val (.ref s1), .val (.ref s2), .val (.int b16), .val (.long j17), .second, .val (.long l1), .second, .val (.long u1), .second, .val (.long j23), .second, .val (.long j25), .second, .val (.long (own_lmin j23 j25)), .second, .val (.long (own_lmax j23 j25)), .second, .unset, .unset, .unset, .unset] [(.ref b205)])) (fun t ht => st205 t ht) ?_
    refine OFin.of (S' := T205.setTop (mkF m 261 #[.val (.int p0), .val (.long q1), .second, .val (.long q2), .second, .val (.long q3), .second, .val (.long q4), .second, .val (.int i9), .val (.int i10), .val (.int i11), .val (.int i12), .val (.int i13), .val (.ref s1), .val (.ref s2), .val (.int b16), .val (.long j17), .second, .val (.long l1), .second, .val (.long u1), .second, .val (.long j23), .second, .val (.long j25), .second, .val (.long (own_lmin j23 j25)), .second, .val (.long (own_lmax j23 j25)), .second, .unset, .unset, .unset, .unset] [(.long u1), (.long l1), (.ref s1), (.ref b205), (.ref b205)])) (fun t ht => ?_) ?_
    · refine XS.dup X205.here hx rfl (hb hby at_254) rfl rfl ?_
      show Steps p.tables e below (T205.setTop (mkF m 255 _ [(.ref b205), (.ref b205)])) _
      refine XS.aload X205.here hx rfl (hb hby at_255) rfl rfl ?_
      show Steps p.tables e below (T205.setTop (mkF m 257 _ [(.ref s1), (.ref b205), (.ref b205)])) _
      refine XS.lload X205.here hx rfl (hb hby at_257) rfl ?_
      show Steps p.tables e below (T205.setTop (mkF m 259 _ [(.long l1), (.ref s1), (.ref b205), (.ref b205)])) _
      refine XS.lload X205.here hx rfl (hb hby at_259) rfl ?_
      exact ht
    obtain ⟨_, _, ⟨T224, L224, k224, n224⟩, -, X224, ⟨Lc224, hQ224, l224, y224, z224⟩, st224⟩ := X205.specialBack hx (y := (⟨"com/example/greylag/greylag/model/Bundle", "<init>", "(Ljava/lang/String;JJ)V"⟩ : MethodName)) rfl hown (mvT hZ (hw _ (List.mem_of_getElem? (i := 42) rfl))) (mvT hZ (hw _ (List.mem_of_getElem? (i := 43) rfl))) (mvT hZ (hw _ (List.mem_of_getElem? (i := 44) rfl))) (by decide) (backOf (W := 1) (rmIni l Z _ hw [] b205 s1 l1 u1 h205 n0 Z220 A205 f221 f222 f223 g206) hZ (hw _ (List.mem_of_getElem? (i := 44) rfl)) (hw _ (List.mem_of_getElem? (i := 41) rfl)) (by decide) (by decide)) (g := (mkF m 261 #[.val (.int p0), .val (.long q1), .second, .val (.long q2), .second, .val (.long q3), .second, .val (.long q4), .second, .val (.int i9), .val (.int i10), .val (.int i11), .val (.int i12), .val (.int i13), .val (.ref s1), .val (.ref s2), .val (.int b16), .val (.long j17), .second, .val (.long l1), .second, .val (.long u1), .second, .val (.long j23), .second, .val (.long j25), .second, .val (.long (own_lmin j23 j25)), .second, .val (.long (own_lmax j23 j25)), .second, .unset, .unset, .unset, .unset] [(.long u1), (.long l1), (.ref s1), (.ref b205), (.ref b205)])) rfl (by rw [hml]; rfl) (Steps.refl _) (a := b205) (argsL := [(.ref s1), (.long l1), (.long u1)]) (rest := [(.ref b205)]) (lenOf pd_7 rfl) rfl (by show 2 * 0 + _ ≤ _; exact Nat.le_of_eq rfl) (hb hby at_261) (fun _ _ => ⟨rfl, e205, (by decide : 8 + 0 ≤ _), (by decide : 25 + 0 ≤ _)⟩)
    dsimp only [Pt.U, Pt.locs, Pt.cells, Pt.slots] at X224 l224 y224 z224 st224 hQ224
    subst l224 y224 z224
    obtain ⟨rfl, Nq224, Kq224, f225, f226, f227⟩ := hQ224
    have N228 := Fr.app N203 Nq224
    have f229 := (own_staKeep f211 Kq224 (own_snS A205 own_sn0))
    have f230 := (f212.keep Kq224)
    have f231 := (f213.keep Kq224 (ninS ne207 nin0))
    have f232 := (f214.keep Kq224 (ninS ne207 nin0))
    have f233 := (f215.keep Kq224 (ninS ne208 nin0))
    have f234 := (f216.keep Kq224)
    have f235 := (f217.keep Kq224 (ninS ne209 nin0))
    have f236 := (f218.keep Kq224 (ninS ne209 nin0))
    have f237 := (f219.keep Kq224 (ninS ne210 nin0))
    have f238 := (A205.keep Kq224)
    have Z239 : n0 ≤ T224.heap.size := (Nat.le_trans Z220 Kq224.1)
    refine OFin.to (S' := T224.setTop (mkF m 264 #[.val (.int p0), .val (.long q1), .second, .val (.long q2), .second, .val (.long q3), .second, .val (.long q4), .second, .val (.int i9), .val (.int i10), .val (.int i11), .val (.int i12), .val (.int i13), .val (.ref s1), .val (.ref s2), .val (.int b16), .val (.long j17), .second, .val (.long l1), .second, .val (.long u1), .second, .val (.long j23), .second, .val (.long j25), .second, .val (.long (own_lmin j23 j25)), .second, .val (.long (own_lmax j23 j25)), .second, .unset, .unset, .unset, .unset] [(.ref b205)])) st224 ?_
    refine OFin.of (S' := T224.setTop (mkF m 266 #[.val (.int p0), .val (.long q1), .second, .val (.long q2), .second, .val (.long q3), .second, .val (.long q4), .second, .val (.int i9), .val (.int i10), .val (.int i11), .val (.int i12), .val (.int i13), .val (.ref s1), .val (.ref s2), .val (.int b16), .val (.long j17), .second, .val (.long l1), .second, .val (.long u1), .second, .val (.long j23), .second, .val (.long j25), .second, .val (.long (own_lmin j23 j25)), .second, .val (.long (own_lmax j23 j25)), .second, .val (.ref b205), .unset, .unset, .unset] [])) (fun t ht => ?_) ?_
    · refine XS.astore X224.here hx rfl (hb hby at_264) rfl rfl (l' := #[.val (.int p0), .val (.long q1), .second, .val (.long q2), .second, .val (.long q3), .second, .val (.long q4), .second, .val (.int i9), .val (.int i10), .val (.int i11), .val (.int i12), .val (.int i13), .val (.ref s1), .val (.ref s2), .val (.int b16), .val (.long j17), .second, .val (.long l1), .second, .val (.long u1), .second, .val (.long j23), .second, .val (.long j25), .second, .val (.long (own_lmin j23 j25)), .second, .val (.long (own_lmax j23 j25)), .second, .val (.ref b205), .unset, .unset, .unset]) rfl ?_
      exact ht
    obtain ⟨T240, h240, X240, e240, E240, A240, D240, -, st240⟩ := newO X224 hx hZ hown (hw _ (List.mem_of_getElem? (i := 39) rfl)) (hw _ (List.mem_of_getElem? (i := 40) rfl)) (hw _ (List.mem_of_getElem? (i := 41) rfl)) (rfl : T224.heap = T224.heap) (g := (mkF m 266 #[.val (.int p0), .val (.long q1), .second, .val (.long q2), .second, .val (.long q3), .second, .val (.long q4), .second, .val (.int i9), .val (.int i10), .val (.int i11), .val (.int i12), .val (.int i13), .val (.ref s1), .val (.ref s2), .val (.int b16), .val (.long j17), .second, .val (.long l1), .second, .val (.long u1), .second, .val (.long j23), .second, .val (.long j25), .second, .val (.long (own_lmin j23 j25)), .second, .val (.long (own_lmax j23 j25)), .second, .val (.ref b205), .unset, .unset, .unset] [])) rfl (hb hby at_266) (by decide) (by decide)
    obtain ⟨b240, gq240⟩ : ∃ z, z = T224.heap.size := ⟨_, rfl⟩
    rw [← gq240] at A240 D240 st240
    have g241 : n0 ≤ b240 := (Nat.le_trans Z239 (Nat.le_of_eq gq240.symm))
    have ne242 : s1 ≠ b240 := (Nat.ne_of_lt (Nat.lt_of_lt_of_le f230.lt (Nat.le_of_eq gq240.symm)))
    have ne243 : t1 ≠ b240 := (Nat.ne_of_lt (Nat.lt_of_lt_of_le f233.lt (Nat.le_of_eq gq240.symm)))
    have ne244 : s2 ≠ b240 := (Nat.ne_of_lt (Nat.lt_of_lt_of_le f234.lt (Nat.le_of_eq gq240.symm)))
    have ne245 : t2 ≠ b240 := (Nat.ne_of_lt (Nat.lt_of_lt_of_le f237.lt (Nat.le_of_eq gq240.symm)))
    have ne246 : b205 ≠ b240 := (Nat.ne_of_lt (Nat.lt_of_lt_of_le f238.lt (Nat.le_of_eq gq240.symm)))
    have f247 := f229.ext E240
    have f248 := f230.ext E240
    have f249 := f231.ext E240
    have f250 := f232.ext E240
    have f251 := f233.ext E240
    have f252 := f234.ext E240
    have f253 := f235.ext E240
    have f254 := f236.ext E240
    have f255 := f237.ext E240
    have f256 := f238.ext E240
    have f257 := f225.ext E240
    have f258 := f226.ext E240
    have f259 := f227.ext E240
    have Z260 : n0 ≤ h240.size := (Nat.le_trans Z239 E240.1)
    have f261 : Fld Z h240 b240 "com/example/greylag/greylag/model/Bundle" "namespace" "Ljava/lang/String;" .null := D240 (Or.inr (hw _ (List.mem_of_getElem? (i := 47) rfl))) (ty := (.object "java/lang/String")) (by decide)
    have f262 : Fld Z h240 b240 "com/example/greylag/greylag/model/Bundle" "lower" "J" (.long (0 : Int64)) := D240 (Or.inr (hw _ (List.mem_of_getElem? (i := 49) rfl))) (ty := .long) (by decide)
    have f263 : Fld Z h240 b240 "com/example/greylag/greylag/model/Bundle" "upper" "J" (.long (0 : Int64)) := D240 (Or.inr (hw _ (List.mem_of_getElem? (i := 51) rfl))) (ty := .long) (by decide)
    refine OFin.of (S' := T240.setTop (mkF m 269 #[.val (.int p0), .val (.long q1), .second, .val (.long q2), .second, .val (.long q3), .second, .val (.long q4), .second, .val (.int i9), .val (.int i10), .val (.int i11), .val (.int i12), .val (.int i13), .val (.ref s1), .val (.ref s2), .val (.int b16), .val (.long j17), .second, .val (.long l1), .second, .val (.long u1), .second, .val (.long j23), .second, .val (.long j25), .second, .val (.long (own_lmin j23 j25)), .second, .val (.long (own_lmax j23 j25)), .second, .val (.ref b205), .unset, .unset, .unset] [(.ref b240)])) (fun t ht => st240 t ht) ?_
    refine OFin.of (S' := T240.setTop (mkF m 276 #[.val (.int p0), .val (.long q1), .second, .val (.long q2), .second, .val (.long q3), .second, .val (.long q4), .second, .val (.int i9), .val (.int i10), .val (.int i11), .val (.int i12), .val (.int i13), .val (.ref s1), .val (.ref s2), .val (.int b16), .val (.long j17), .second, .val (.long l1), .second, .val (.long u1), .second, .val (.long j23), .second, .val (.long j25), .second, .val (.long (own_lmin j23 j25)), .second, .val (.long (own_lmax j23 j25)), .second, .val (.ref b205), .unset, .unset, .unset] [(.long (own_lmax j23 j25)), (.long (own_lmin j23 j25)), (.ref s2), (.ref b240), (.ref b240)])) (fun t ht => ?_) ?_
    · refine XS.dup X240.here hx rfl (hb hby at_269) rfl rfl ?_
      show Steps p.tables e below (T240.setTop (mkF m 270 _ [(.ref b240), (.ref b240)])) _
      refine XS.aload X240.here hx rfl (hb hby at_270) rfl rfl ?_
      show Steps p.tables e below (T240.setTop (mkF m 272 _ [(.ref s2), (.ref b240), (.ref b240)])) _
      refine XS.lload X240.here hx rfl (hb hby at_272) rfl ?_
      show Steps p.tables e below (T240.setTop (mkF m 274 _ [(.long (own_lmin j23 j25)), (.ref s2), (.ref b240), (.ref b240)])) _
      refine XS.lload X240.here hx rfl (hb hby at_274) rfl ?_
      exact ht
    obtain ⟨_, _, ⟨T264, L264, k264, n264⟩, -, X264, ⟨Lc264, hQ264, l264, y264, z264⟩, st264⟩ := X240.specialBack hx (y := (⟨"com/example/greylag/greylag/model/Bundle", "<init>", "(Ljava/lang/String;JJ)V"⟩ : MethodName)) rfl hown (mvT hZ (hw _ (List.mem_of_getElem? (i := 42) rfl))) (mvT hZ (hw _ (List.mem_of_getElem? (i := 43) rfl))) (mvT hZ (hw _ (List.mem_of_getElem? (i := 44) rfl))) (by decide) (backOf (W := 1) (rmIni l Z _ hw [] b240 s2 (own_lmin j23 j25) (own_lmax j23 j25) h240 n0 Z260 A240 f261 f262 f263 g241) hZ (hw _ (List.mem_of_getElem? (i := 44) rfl)) (hw _ (List.mem_of_getElem? (i := 41) rfl)) (by decide) (by decide)) (g := (mkF m 276 #[.val (.int p0), .val (.long q1), .second, .val (.long q2), .second, .val (.long q3), .second, .val (.long q4), .second, .val (.int i9), .val (.int i10), .val (.int i11), .val (.int i12), .val (.int i13), .val (.ref s1), .val (.ref s2), .val (.int b16), .val (.long j17), .second, .val (.long l1), .second, .val (.long u1), .second, .val (.long j23), .second, .val (.long j25), .second, .val (.long (own_lmin j23 j25)), .second, .val (.long (own_lmax j23 j25)), .second, .val (.ref b205), .unset, .unset, .unset] [(.long (own_lmax j23 j25)), (.long (own_lmin j23 j25)), (.ref s2), (.ref b240), (.ref b240)])) rfl (by rw [hml]; rfl) (Steps.refl _) (a := b240) (argsL := [(.ref s2), (.long (own_lmin j23 j25)), (.long (own_lmax j23 j25))]) (rest := [(.ref b240)]) (lenOf pd_7 rfl) rfl (by show 2 * 0 + _ ≤ _; exact Nat.le_of_eq rfl) (hb hby at_276) (fun _ _ => ⟨rfl, e240, (by decide : 9 + 0 ≤ _), (by decide : 28 + 0 ≤ _)⟩)
    dsimp only [Pt.U, Pt.locs, Pt.cells, Pt.slots] at X264 l264 y264 z264 st264 hQ264
    subst l264 y264 z264
    obtain ⟨rfl, Nq264, Kq264, f265, f266, f267⟩ := hQ264
    have N268 := Fr.app N228 Nq264
    have f269 := (own_staKeep f247 Kq264 (own_snS A240 own_sn0))
    have f270 := (f248.keep Kq264)
    have f271 := (f249.keep Kq264 (ninS ne242 nin0))
    have f272 := (f250.keep Kq264 (ninS ne242 nin0))
    have f273 := (f251.keep Kq264 (ninS ne243 nin0))
    have f274 := (f252.keep Kq264)
    have f275 := (f253.keep Kq264 (ninS ne244 nin0))
    have f276 := (f254.keep Kq264 (ninS ne244 nin0))
    have f277 := (f255.keep Kq264 (ninS ne245 nin0))
    have f278 := (f256.keep Kq264)
    have f279 := (f257.keep Kq264 (ninS ne246 nin0))
    have f280 := (f258.keep Kq264 (ninS ne246 nin0))
    have f281 := (f259.keep Kq264 (ninS ne246 nin0))
    have f282 := (A240.keep Kq264)
    have Z283 : n0 ≤ T264.heap.size := (Nat.le_trans Z260 Kq264.1)
    refine OFin.to (S' := T264.setTop (mkF m 279 #[.val (.int p0), .val (.long q1), .second, .val (.long q2), .second, .val (.long q3), .second, .val (.long q4), .second, .val (.int i9), .val (.int i10), .val (.int i11), .val (.int i12), .val (.int i13), .val (.ref s1), .val (.ref s2), .val (.int b16), .val (.long j17), .second, .val (.long l1), .second, .val (.long u1), .second, .val (.long j23), .second, .val (.long j25), .second, .val (.long (own_lmin j23 j25)), .second, .val (.long (own_lmax j23 j25)), .second, .val (.ref b205), .unset, .unset, .unset] [(.ref b240)])) st264 ?_
    refine OFin.of (S' := T264.setTop (mkF m 283 #[.val (.int p0), .val (.long q1), .second, .val (.long q2), .second, .val (.long q3), .second, .val (.long q4), .second, .val (.int i9), .val (.int i10), .val (.int i11), .val (.int i12), .val (.int i13), .val (.ref s1), .val (.ref s2), .val (.int b16), .val (.long j17), .second, .val (.long l1), .second, .val (.long u1), .second, .val (.long j23), .second, .val (.long j25), .second, .val (.long (own_lmin j23 j25)), .second, .val (.long (own_lmax j23 j25)), .second, .val (.ref b205), .val (.ref b240), .unset, .unset] [(.int b16)])) (fun t ht => ?_) ?_
    · refine XS.astore X264.here hx rfl (hb hby at_279) rfl rfl (l' := #[.val (.int p0), .val (.long q1), .second, .val (.long q2), .second, .val (.long q3), .second, .val (.long q4), .second, .val (.int i9), .val (.int i10), .val (.int i11), .val (.int i12), .val (.int i13), .val (.ref s1), .val (.ref s2), .val (.int b16), .val (.long j17), .second, .val (.long l1), .second, .val (.long u1), .second, .val (.long j23), .second, .val (.long j25), .second, .val (.long (own_lmin j23 j25)), .second, .val (.long (own_lmax j23 j25)), .second, .val (.ref b205), .val (.ref b240), .unset, .unset]) rfl ?_
      show Steps p.tables e below (T264.setTop (mkF m 281 #[.val (.int p0), .val (.long q1), .second, .val (.long q2), .second, .val (.long q3), .second, .val (.long q4), .second, .val (.int i9), .val (.int i10), .val (.int i11), .val (.int i12), .val (.int i13), .val (.ref s1), .val (.ref s2), .val (.int b16), .val (.long j17), .second, .val (.long l1), .second, .val (.long u1), .second, .val (.long j23), .second, .val (.long j25), .second, .val (.long (own_lmin j23 j25)), .second, .val (.long (own_lmax j23 j25)), .second, .val (.ref b205), .val (.ref b240), .unset, .unset] [])) _
      refine XS.iload X264.here hx rfl (hb hby at_281) rfl ?_
      exact ht
    by_cases hc284 : b16 = (0 : Int32)
    · refine OFin.of (S' := T264.setTop (mkF m 361 #[.val (.int p0), .val (.long q1), .second, .val (.long q2), .second, .val (.long q3), .second, .val (.long q4), .second, .val (.int i9), .val (.int i10), .val (.int i11), .val (.int i12), .val (.int i13), .val (.ref s1), .val (.ref s2), .val (.int b16), .val (.long j17), .second, .val (.long l1), .second, .val (.long u1), .second, .val (.long j23), .second, .val (.long j25), .second, .val (.long (own_lmin j23 j25)), .second, .val (.long (own_lmax j23 j25)), .second, .val (.ref b205), .val (.ref b240), .val (.int (0 : Int32)), .val (.int (0 : Int32))] [(.ref b240), (.ref b205)])) (fun t ht => ?_) ?_
      · refine XS.ifYes X264.here hx rfl (pc0 := 283) (pc' := 316) rfl (hb hby at_283) rfl ((if0 _ _).trans (teq (hc284 : b16 = (0 : Int32))).1) (by decide) (by decide) ?_
        show Steps p.tables e below (T264.setTop (mkF m 316 _ [])) _
        refine XS.iconst X264.here hx rfl (hb hby at_316) ?_
        show Steps p.tables e below (T264.setTop (mkF m 317 _ [(.int (0 : Int32))])) _
        refine XS.istore X264.here hx rfl (hb hby at_317) rfl (l' := #[.val (.int p0), .val (.long q1), .second, .val (.long q2), .second, .val (.long q3), .second, .val (.long q4), .second, .val (.int i9), .val (.int i10), .val (.int i11), .val (.int i12), .val (.int i13), .val (.ref s1), .val (.ref s2), .val (.int b16), .val (.long j17), .second, .val (.long l1), .second, .val (.long u1), .second, .val (.long j23), .second, .val (.long j25), .second, .val (.long (own_lmin j23 j25)), .second, .val (.long (own_lmax j23 j25)), .second, .val (.ref b205), .val (.ref b240), .val (.int (0 : Int32)), .unset]) rfl ?_
        show Steps p.tables e below (T264.setTop (mkF m 319 #[.val (.int p0), .val (.long q1), .second, .val (.long q2), .second, .val (.long q3), .second, .val (.long q4), .second, .val (.int i9), .val (.int i10), .val (.int i11), .val (.int i12), .val (.int i13), .val (.ref s1), .val (.ref s2), .val (.int b16), .val (.long j17), .second, .val (.long l1), .second, .val (.long u1), .second, .val (.long j23), .second, .val (.long j25), .second, .val (.long (own_lmin j23 j25)), .second, .val (.long (own_lmax j23 j25)), .second, .val (.ref b205), .val (.ref b240), .val (.int (0 : Int32)), .unset] [])) _
        refine XS.iload X264.here hx rfl (hb hby at_319) rfl ?_
        show Steps p.tables e below (T264.setTop (mkF m 321 _ [(.int b16)])) _
        refine XS.ifYes X264.here hx rfl (pc0 := 321) (pc' := 354) rfl (hb hby at_321) rfl ((if0 _ _).trans (teq (hc284 : b16 = (0 : Int32))).1) (by decide) (by decide) ?_
        show Steps p.tables e below (T264.setTop (mkF m 354 _ [])) _
        refine XS.iconst X264.here hx rfl (hb hby at_354) ?_
        show Steps p.tables e below (T264.setTop (mkF m 355 _ [(.int (0 : Int32))])) _
        refine XS.istore X264.here hx rfl (hb hby at_355) rfl (l' := #[.val (.int p0), .val (.long q1), .second, .val (.long q2), .second, .val (.long q3), .second, .val (.long q4), .second, .val (.int i9), .val (.int i10), .val (.int i11), .val (.int i12), .val (.int i13), .val (.ref s1), .val (.ref s2), .val (.int b16), .val (.long j17), .second, .val (.long l1), .second, .val (.long u1), .second, .val (.long j23), .second, .val (.long j25), .second, .val (.long (own_lmin j23 j25)), .second, .val (.long (own_lmax j23 j25)), .second, .val (.ref b205), .val (.ref b240), .val (.int (0 : Int32)), .val (.int (0 : Int32))]) rfl ?_
        show Steps p.tables e below (T264.setTop (mkF m 357 #[.val (.int p0), .val (.long q1), .second, .val (.long q2), .second, .val (.long q3), .second, .val (.long q4), .second, .val (.int i9), .val (.int i10), .val (.int i11), .val (.int i12), .val (.int i13), .val (.ref s1), .val (.ref s2), .val (.int b16), .val (.long j17), .second, .val (.long l1), .second, .val (.long u1), .second, .val (.long j23), .second, .val (.long j25), .second, .val (.long (own_lmin j23 j25)), .second, .val (.long (own_lmax j23 j25)), .second, .val (.ref b205), .val (.ref b240), .val (.int (0 : Int32)), .val (.int (0 : Int32))] [])) _
        refine XS.aload X264.here hx rfl (hb hby at_357) rfl rfl ?_
        show Steps p.tables e below (T264.setTop (mkF m 359 _ [(.ref b205)])) _
        refine XS.aload X264.here hx rfl (hb hby at_359) rfl rfl ?_
        exact ht
      obtain ⟨cq286, kq286, q286a, q286b, q286c⟩ := isOf hZ (rfl : T264.heap = T264.heap) f278
      obtain ⟨_, _, ⟨T285, L285, k285, n285⟩, -, X285, ⟨Lc285, hQ285, l285, y285, z285⟩, st285⟩ := X264.virtualBack hx (y := (⟨"com/example/greylag/greylag/model/Bundle", "contains", "(Lcom/example/greylag/greylag/model/Bundle;)Z"⟩ : MethodName)) (z := (⟨"com/example/greylag/greylag/model/Bundle", "contains", "(Lcom/example/greylag/greylag/model/Bundle;)Z"⟩ : MethodName)) hown (mvT hZ (hw _ (List.mem_of_getElem? (i := 52) rfl))) (mvT hZ (hw _ (List.mem_of_getElem? (i := 53) rfl))) (notFace_of_selects (args := #[]) (mvT hZ (hw _ (List.mem_of_getElem? (i := 55) rfl)))) (mvT hZ (hw _ (List.mem_of_getElem? (i := 55) rfl))) (mvT hZ (hw _ (List.mem_of_getElem? (i := 54) rfl))) (by decide) (backOf (W := 0) (rmCo22 l Z _ hw [] b205 b240 s1 s2 l1 u1 (own_lmin j23 j25) (own_lmax j23 j25) (own_leq2 x0 x1 y0 y1) T264.heap n0 Z283 f279 f265 f280 f266 f281 f267 f270 (rmEq22 l Z _ hw [] s1 s2 t1 t2 k1 k2 cs x0 x1 y0 y1 T264.heap n0 Z283 f274 f271 f275 f272 f276 f273 f277 f269 hcs na0)) hZ (hw _ (List.mem_of_getElem? (i := 56) rfl)) (hw _ (List.mem_of_getElem? (i := 41) rfl)) (by decide) (by decide)) q286a q286c (g := (mkF m 361 #[.val (.int p0), .val (.long q1), .second, .val (.long q2), .second, .val (.long q3), .second, .val (.long q4), .second, .val (.int i9), .val (.int i10), .val (.int i11), .val (.int i12), .val (.int i13), .val (.ref s1), .val (.ref s2), .val (.int b16), .val (.long j17), .second, .val (.long l1), .second, .val (.long u1), .second, .val (.long j23), .second, .val (.long j25), .second, .val (.long (own_lmin j23 j25)), .second, .val (.long (own_lmax j23 j25)), .second, .val (.ref b205), .val (.ref b240), .val (.int (0 : Int32)), .val (.int (0 : Int32))] [(.ref b240), (.ref b205)])) rfl (by rw [hml]; rfl) (Steps.refl _) (argsL := [(.ref b240)]) (rest := []) (lenOf pd_8 rfl) rfl (by show 2 * 0 + _ ≤ _; exact Nat.le_of_eq rfl) (hb hby at_361) (fun _ _ => ⟨rfl, (rfl : T264.heap = T264.heap), (by decide : 9 + 0 ≤ _), (by decide : 28 + 0 ≤ _)⟩)
      dsimp only [Pt.U, Pt.locs, Pt.cells, Pt.slots] at X285 l285 y285 z285 st285 hQ285
      subst l285 y285 z285
      obtain ⟨rfl, Nq285, hs285⟩ := hQ285
      have N287 := Fr.app N268 Nq285
      refine OFin.to (S' := T285.setTop (mkF m 364 #[.val (.int p0), .val (.long q1), .second, .val (.long q2), .second, .val (.long q3), .second, .val (.long q4), .second, .val (.int i9), .val (.int i10), .val (.int i11), .val (.int i12), .val (.int i13), .val (.ref s1), .val (.ref s2), .val (.int b16), .val (.long j17), .second, .val (.long l1), .second, .val (.long u1), .second, .val (.long j23), .second, .val (.long j25), .second, .val (.long (own_lmin j23 j25)), .second, .val (.long (own_lmax j23 j25)), .second, .val (.ref b205), .val (.ref b240), .val (.int (0 : Int32)), .val (.int (0 : Int32))] [(.int (own_cont (own_leq2 x0 x1 y0 y1) l1 u1 (own_lmin j23 j25) (own_lmax j23 j25)))])) st285 ?_
      refine OFin.of (S' := T285.setTop (mkF m 373 #[.val (.int p0), .val (.long q1), .second, .val (.long q2), .second, .val (.long q3), .second, .val (.long q4), .second, .val (.int i9), .val (.int i10), .val (.int i11), .val (.int i12), .val (.int i13), .val (.ref s1), .val (.ref s2), .val (.int b16), .val (.long j17), .second, .val (.long l1), .second, .val (.long u1), .second, .val (.long j23), .second, .val (.long j25), .second, .val (.long (own_lmin j23 j25)), .second, .val (.long (own_lmax j23 j25)), .second, .val (.ref b205), .val (.ref b240), .val (.int (0 : Int32)), .val (.int (0 : Int32))] [(.ref b205), (.ref b240)])) (fun t ht => ?_) ?_
      · refine XS.iload X285.here hx rfl (hb hby at_364) rfl ?_
        show Steps p.tables e below (T285.setTop (mkF m 366 _ [(.int (0 : Int32)), (.int (own_cont (own_leq2 x0 x1 y0 y1) l1 u1 (own_lmin j23 j25) (own_lmax j23 j25)))])) _
        refine XS.icmpNo X285.here hx rfl (hb hby at_366) rfl (teq (own_t0 hE hc284 : (own_cont (own_leq2 x0 x1 y0 y1) l1 u1 (own_lmin j23 j25) (own_lmax j23 j25)) = (0 : Int32))).2 ?_
        show Steps p.tables e below (T285.setTop (mkF m 369 _ [])) _
        refine XS.aload X285.here hx rfl (hb hby at_369) rfl rfl ?_
        show Steps p.tables e below (T285.setTop (mkF m 371 _ [(.ref b240)])) _
        refine XS.aload X285.here hx rfl (hb hby at_371) rfl rfl ?_
        exact ht
      obtain ⟨cq289, kq289, q289a, q289b, q289c⟩ := isOf hZ hs285 f282
      obtain ⟨_, _, ⟨T288, L288, k288, n288⟩, -, X288, ⟨Lc288, hQ288, l288, y288, z288⟩, st288⟩ := X285.virtualBack hx (y := (⟨"com/example/greylag/greylag/model/Bundle", "contains", "(Lcom/example/greylag/greylag/model/Bundle;)Z"⟩ : MethodName)) (z := (⟨"com/example/greylag/greylag/model/Bundle", "contains", "(Lcom/example/greylag/greylag/model/Bundle;)Z"⟩ : MethodName)) hown (mvT hZ (hw _ (List.mem_of_getElem? (i := 52) rfl))) (mvT hZ (hw _ (List.mem_of_getElem? (i := 53) rfl))) (notFace_of_selects (args := #[]) (mvT hZ (hw _ (List.mem_of_getElem? (i := 55) rfl)))) (mvT hZ (hw _ (List.mem_of_getElem? (i := 55) rfl))) (mvT hZ (hw _ (List.mem_of_getElem? (i := 54) rfl))) (by decide) (backOf (W := 0) (rmCo22 l Z _ hw [] b240 b205 s2 s1 (own_lmin j23 j25) (own_lmax j23 j25) l1 u1 (own_leq2 y0 y1 x0 x1) T264.heap n0 Z283 f265 f279 f266 f280 f267 f281 f274 (rmEq22 l Z _ hw [] s2 s1 t2 t1 k2 k1 cs y0 y1 x0 x1 T264.heap n0 Z283 f270 f275 f271 f276 f272 f277 f273 f269 hcs (Ne.symm na0))) hZ (hw _ (List.mem_of_getElem? (i := 56) rfl)) (hw _ (List.mem_of_getElem? (i := 41) rfl)) (by decide) (by decide)) q289a q289c (g := (mkF m 373 #[.val (.int p0), .val (.long q1), .second, .val (.long q2), .second, .val (.long q3), .second, .val (.long q4), .second, .val (.int i9), .val (.int i10), .val (.int i11), .val (.int i12), .val (.int i13), .val (.ref s1), .val (.ref s2), .val (.int b16), .val (.long j17), .second, .val (.long l1), .second, .val (.long u1), .second, .val (.long j23), .second, .val (.long j25), .second, .val (.long (own_lmin j23 j25)), .second, .val (.long (own_lmax j23 j25)), .second, .val (.ref b205), .val (.ref b240), .val (.int (0 : Int32)), .val (.int (0 : Int32))] [(.ref b205), (.ref b240)])) rfl (by rw [hml]; rfl) (Steps.refl _) (argsL := [(.ref b205)]) (rest := []) (lenOf pd_8 rfl) rfl (by show 2 * 0 + _ ≤ _; exact Nat.le_of_eq rfl) (hb hby at_373) (fun _ _ => ⟨rfl, hs285, (by decide : 9 + 0 ≤ _), (by decide : 28 + 0 ≤ _)⟩)
      dsimp only [Pt.U, Pt.locs, Pt.cells, Pt.slots] at X288 l288 y288 z288 st288 hQ288
      subst l288 y288 z288
      obtain ⟨rfl, Nq288, hs288⟩ := hQ288
      have N290 := Fr.app N287 Nq288
      refine OFin.to (S' := T288.setTop (mkF m 376 #[.val (.int p0), .val (.long q1), .second, .val (.long q2), .second, .val (.long q3), .second, .val (.long q4), .second, .val (.int i9), .val (.int i10), .val (.int i11), .val (.int i12), .val (.int i13), .val (.ref s1), .val (.ref s2), .val (.int b16), .val (.long j17), .second, .val (.long l1), .second, .val (.long u1), .second, .val (.long j23), .second, .val (.long j25), .second, .val (.long (own_lmin j23 j25)), .second, .val (.long (own_lmax j23 j25)), .second, .val (.ref b205), .val (.ref b240), .val (.int (0 : Int32)), .val (.int (0 : Int32))] [(.int (own_cont (own_leq2 y0 y1 x0 x1) (own_lmin j23 j25) (own_lmax j23 j25) l1 u1))])) st288 ?_
      refine OFin.of (S' := T288.setTop (mkF m 385 #[.val (.int p0), .val (.long q1), .second, .val (.long q2), .second, .val (.long q3), .second, .val (.long q4), .second, .val (.int i9), .val (.int i10), .val (.int i11), .val (.int i12), .val (.int i13), .val (.ref s1), .val (.ref s2), .val (.int b16), .val (.long j17), .second, .val (.long l1), .second, .val (.long u1), .second, .val (.long j23), .second, .val (.long j25), .second, .val (.long (own_lmin j23 j25)), .second, .val (.long (own_lmax j23 j25)), .second, .val (.ref b205), .val (.ref b240), .val (.int (0 : Int32)), .val (.int (0 : Int32))] [(.ref b240), (.ref b240)])) (fun t ht => ?_) ?_
      · refine XS.iload X288.here hx rfl (hb hby at_376) rfl ?_
        show Steps p.tables e below (T288.setTop (mkF m 378 _ [(.int (0 : Int32)), (.int (own_cont (own_leq2 y0 y1 x0 x1) (own_lmin j23 j25) (own_lmax j23 j25) l1 u1))])) _
        refine XS.icmpNo X288.here hx rfl (hb hby at_378) rfl (teq (own_v0 hE hE2 hc284 : (own_cont (own_leq2 y0 y1 x0 x1) (own_lmin j23 j25) (own_lmax j23 j25) l1 u1) = (0 : Int32))).2 ?_
        show Steps p.tables e below (T288.setTop (mkF m 381 _ [])) _
        refine XS.aload X288.here hx rfl (hb hby at_381) rfl rfl ?_
        show Steps p.tables e below (T288.setTop (mkF m 383 _ [(.ref b240)])) _
        refine XS.aload X288.here hx rfl (hb hby at_383) rfl rfl ?_
        exact ht
      obtain ⟨cq292, kq292, q292a, q292b, q292c⟩ := isOf hZ hs288 f282
      obtain ⟨_, _, ⟨T291, L291, k291, n291⟩, -, X291, ⟨Lc291, hQ291, l291, y291, z291⟩, st291⟩ := X288.virtualBack hx (y := (⟨"com/example/greylag/greylag/model/Bundle", "contains", "(Lcom/example/greylag/greylag/model/Bundle;)Z"⟩ : MethodName)) (z := (⟨"com/example/greylag/greylag/model/Bundle", "contains", "(Lcom/example/greylag/greylag/model/Bundle;)Z"⟩ : MethodName)) hown (mvT hZ (hw _ (List.mem_of_getElem? (i := 52) rfl))) (mvT hZ (hw _ (List.mem_of_getElem? (i := 53) rfl))) (notFace_of_selects (args := #[]) (mvT hZ (hw _ (List.mem_of_getElem? (i := 55) rfl)))) (mvT hZ (hw _ (List.mem_of_getElem? (i := 55) rfl))) (mvT hZ (hw _ (List.mem_of_getElem? (i := 54) rfl))) (by decide) (backOf (W := 0) (rmCos l Z _ hw [] b240 b240 s2 (own_lmin j23 j25) (own_lmax j23 j25) (own_lmin j23 j25) (own_lmax j23 j25) (1 : Int32) T264.heap n0 Z283 f265 f265 f266 f266 f267 f267 f274 (rmEs l Z _ hw [] s2 T264.heap n0 Z283)) hZ (hw _ (List.mem_of_getElem? (i := 56) rfl)) (hw _ (List.mem_of_getElem? (i := 41) rfl)) (by decide) (by decide)) q292a q292c (g := (mkF m 385 #[.val (.int p0), .val (.long q1), .second, .val (.long q2), .second, .val (.long q3), .second, .val (.long q4), .second, .val (.int i9), .val (.int i10), .val (.int i11), .val (.int i12), .val (.int i13), .val (.ref s1), .val (.ref s2), .val (.int b16), .val (.long j17), .second, .val (.long l1), .second, .val (.long u1), .second, .val (.long j23), .second, .val (.long j25), .second, .val (.long (own_lmin j23 j25)), .second, .val (.long (own_lmax j23 j25)), .second, .val (.ref b205), .val (.ref b240), .val (.int (0 : Int32)), .val (.int (0 : Int32))] [(.ref b240), (.ref b240)])) rfl (by rw [hml]; rfl) (Steps.refl _) (argsL := [(.ref b240)]) (rest := []) (lenOf pd_8 rfl) rfl (by show 2 * 0 + _ ≤ _; exact Nat.le_of_eq rfl) (hb hby at_385) (fun _ _ => ⟨rfl, hs288, (by decide : 9 + 0 ≤ _), (by decide : 28 + 0 ≤ _)⟩)
      dsimp only [Pt.U, Pt.locs, Pt.cells, Pt.slots] at X291 l291 y291 z291 st291 hQ291
      subst l291 y291 z291
      obtain ⟨rfl, Nq291, hs291⟩ := hQ291
      have N293 := Fr.app N290 Nq291
      refine OFin.to (S' := T291.setTop (mkF m 388 #[.val (.int p0), .val (.long q1), .second, .val (.long q2), .second, .val (.long q3), .second, .val (.long q4), .second, .val (.int i9), .val (.int i10), .val (.int i11), .val (.int i12), .val (.int i13), .val (.ref s1), .val (.ref s2), .val (.int b16), .val (.long j17), .second, .val (.long l1), .second, .val (.long u1), .second, .val (.long j23), .second, .val (.long j25), .second, .val (.long (own_lmin j23 j25)), .second, .val (.long (own_lmax j23 j25)), .second, .val (.ref b205), .val (.ref b240), .val (.int (0 : Int32)), .val (.int (0 : Int32))] [(.int (own_cont (1 : Int32) (own_lmin j23 j25) (own_lmax j23 j25) (own_lmin j23 j25) (own_lmax j23 j25)))])) st291 ?_
      refine OFin.of (S' := T291.setTop (mkF m 396 #[.val (.int p0), .val (.long q1), .second, .val (.long q2), .second, .val (.long q3), .second, .val (.long q4), .second, .val (.int i9), .val (.int i10), .val (.int i11), .val (.int i12), .val (.int i13), .val (.ref s1), .val (.ref s2), .val (.int b16), .val (.long j17), .second, .val (.long l1), .second, .val (.long u1), .second, .val (.long j23), .second, .val (.long j25), .second, .val (.long (own_lmin j23 j25)), .second, .val (.long (own_lmax j23 j25)), .second, .val (.ref b205), .val (.ref b240), .val (.int (0 : Int32)), .val (.int (0 : Int32))] [(.int (1 : Int32))])) (fun t ht => ?_) ?_
      · refine XS.ifNo X291.here hx rfl (hb hby at_388) rfl ((if0 _ _).trans (feq (own_r3 _ _ : ¬ ((own_cont (1 : Int32) (own_lmin j23 j25) (own_lmax j23 j25) (own_lmin j23 j25) (own_lmax j23 j25)) = (0 : Int32)))).1) ?_
        show Steps p.tables e below (T291.setTop (mkF m 391 _ [])) _
        refine XS.iconst X291.here hx rfl (hb hby at_391) ?_
        show Steps p.tables e below (T291.setTop (mkF m 392 _ [(.int (1 : Int32))])) _
        refine XS.goto X291.here hx rfl (pc0 := 392) (pc' := 396) rfl (hb hby at_392) (by decide) (by decide) ?_
        exact ht
      exact OFin.retB X291 hx hlk (t := .boolean) (by simp) hret (hb hby at_396) (by decide) (by decide) (by rw [hs291]; exact hQ _ _ N293)
    · refine OFin.of (S' := T264.setTop (mkF m 290 #[.val (.int p0), .val (.long q1), .second, .val (.long q2), .second, .val (.long q3), .second, .val (.long q4), .second, .val (.int i9), .val (.int i10), .val (.int i11), .val (.int i12), .val (.int i13), .val (.ref s1), .val (.ref s2), .val (.int b16), .val (.long j17), .second, .val (.long l1), .second, .val (.long u1), .second, .val (.long j23), .second, .val (.long j25), .second, .val (.long (own_lmin j23 j25)), .second, .val (.long (own_lmax j23 j25)), .second, .val (.ref b205), .val (.ref b240), .unset, .unset] [(.long (own_lmin j23 j25)), (.long l1)])) (fun t ht => ?_) ?_
      · refine XS.ifNo X264.here hx rfl (hb hby at_283) rfl ((if0 _ _).trans (feq (hc284 : ¬ (b16 = (0 : Int32)))).1) ?_
        show Steps p.tables e below (T264.setTop (mkF m 286 _ [])) _
        refine XS.lload X264.here hx rfl (hb hby at_286) rfl ?_
        show Steps p.tables e below (T264.setTop (mkF m 288 _ [(.long l1)])) _
        refine XS.lload X264.here hx rfl (hb hby at_288) rfl ?_
        exact ht
      obtain ⟨_, _, ⟨T294, L294, k294, n294⟩, -, X294, ⟨Lc294, hQ294, l294, y294, z294⟩, st294⟩ := Jvm.LawKit.callS X264 hx (y := (⟨"java/lang/Math", "min", "(JJ)J"⟩ : MethodName)) hown (mvT hZ (hw _ (List.mem_of_getElem? (i := 32) rfl))) (mvT hZ (hw _ (List.mem_of_getElem? (i := 33) rfl))) (mvT hZ (hw _ (List.mem_of_getElem? (i := 34) rfl))) (mvT hZ (hw _ (List.mem_of_getElem? (i := 35) rfl))) (by decide) (backOf (W := 0) (rmMn l Z _ hw [] l1 (own_lmin j23 j25) T264.heap n0 Z283 ) hZ (hw _ (List.mem_of_getElem? (i := 35) rfl)) (hw _ (List.mem_of_getElem? (i := 34) rfl)) (by decide) (by decide)) (g := (mkF m 290 #[.val (.int p0), .val (.long q1), .second, .val (.long q2), .second, .val (.long q3), .second, .val (.long q4), .second, .val (.int i9), .val (.int i10), .val (.int i11), .val (.int i12), .val (.int i13), .val (.ref s1), .val (.ref s2), .val (.int b16), .val (.long j17), .second, .val (.long l1), .second, .val (.long u1), .second, .val (.long j23), .second, .val (.long j25), .second, .val (.long (own_lmin j23 j25)), .second, .val (.long (own_lmax j23 j25)), .second, .val (.ref b205), .val (.ref b240), .unset, .unset] [(.long (own_lmin j23 j25)), (.long l1)])) rfl (by rw [hml]; rfl) (argsL := [(.long l1), (.long (own_lmin j23 j25))]) (rest := []) (lenOf pd_6 rfl) rfl (by show 2 * 0 + _ ≤ _; exact Nat.le_of_eq rfl) (hb hby at_290) (fun _ _ => ⟨rfl, (rfl : T264.heap = T264.heap), (by decide : 9 + 0 ≤ _), (by decide : 28 + 0 ≤ _)⟩)
      dsimp only [Pt.U, Pt.locs, Pt.cells, Pt.slots] at X294 l294 y294 z294 st294 hQ294
      subst l294 y294 z294
      obtain ⟨rfl, Nq294, hs294⟩ := hQ294
      have N295 := Fr.app N268 Nq294
      refine OFin.of (S' := T294.setTop (mkF m 293 #[.val (.int p0), .val (.long q1), .second, .val (.long q2), .second, .val (.long q3), .second, .val (.long q4), .second, .val (.int i9), .val (.int i10), .val (.int i11), .val (.int i12), .val (.int i13), .val (.ref s1), .val (.ref s2), .val (.int b16), .val (.long j17), .second, .val (.long l1), .second, .val (.long u1), .second, .val (.long j23), .second, .val (.long j25), .second, .val (.long (own_lmin j23 j25)), .second, .val (.long (own_lmax j23 j25)), .second, .val (.ref b205), .val (.ref b240), .unset, .unset] [(.long (own_lmin l1 (own_lmin j23 j25)))])) (fun t ht => st294 t ht) ?_
      refine OFin.of (S' := T294.setTop (mkF m 296 #[.val (.int p0), .val (.long q1), .second, .val (.long q2), .second, .val (.long q3), .second, .val (.long q4), .second, .val (.int i9), .val (.int i10), .val (.int i11), .val (.int i12), .val (.int i13), .val (.ref s1), .val (.ref s2), .val (.int b16), .val (.long j17), .second, .val (.long l1), .second, .val (.long u1), .second, .val (.long j23), .second, .val (.long j25), .second, .val (.long (own_lmin j23 j25)), .second, .val (.long (own_lmax j23 j25)), .second, .val (.ref b205), .val (.ref b240), .unset, .unset] [(.int (lcmpW (own_lmin l1 (own_lmin j23 j25)) l1))])) (fun t ht => ?_) ?_
      · refine XS.lload X294.here hx rfl (hb hby at_293) rfl ?_
        show Steps p.tables e below (T294.setTop (mkF m 295 _ [(.long l1), (.long (own_lmin l1 (own_lmin j23 j25)))])) _
        refine XS.lcmp X294.here hx rfl (hb hby at_295) rfl ?_
        exact ht
      by_cases hc296 : (lcmpW (own_lmin l1 (own_lmin j23 j25)) l1) = (0 : Int32)
      · refine OFin.of (S' := T294.setTop (mkF m 303 #[.val (.int p0), .val (.long q1), .second, .val (.long q2), .second, .val (.long q3), .second, .val (.long q4), .second, .val (.int i9), .val (.int i10), .val (.int i11), .val (.int i12), .val (.int i13), .val (.ref s1), .val (.ref s2), .val (.int b16), .val (.long j17), .second, .val (.long l1), .second, .val (.long u1), .second, .val (.long j23), .second, .val (.long j25), .second, .val (.long (own_lmin j23 j25)), .second, .val (.long (own_lmax j23 j25)), .second, .val (.ref b205), .val (.ref b240), .unset, .unset] [(.long (own_lmax j23 j25)), (.long u1)])) (fun t ht => ?_) ?_
        · refine XS.ifNo X294.here hx rfl (hb hby at_296) rfl ((if0 _ _).trans (teq (hc296 : (lcmpW (own_lmin l1 (own_lmin j23 j25)) l1) = (0 : Int32))).2) ?_
          show Steps p.tables e below (T294.setTop (mkF m 299 _ [])) _
          refine XS.lload X294.here hx rfl (hb hby at_299) rfl ?_
          show Steps p.tables e below (T294.setTop (mkF m 301 _ [(.long u1)])) _
          refine XS.lload X294.here hx rfl (hb hby at_301) rfl ?_
          exact ht
        obtain ⟨_, _, ⟨T297, L297, k297, n297⟩, -, X297, ⟨Lc297, hQ297, l297, y297, z297⟩, st297⟩ := Jvm.LawKit.callS X294 hx (y := (⟨"java/lang/Math", "max", "(JJ)J"⟩ : MethodName)) hown (mvT hZ (hw _ (List.mem_of_getElem? (i := 36) rfl))) (mvT hZ (hw _ (List.mem_of_getElem? (i := 37) rfl))) (mvT hZ (hw _ (List.mem_of_getElem? (i := 34) rfl))) (mvT hZ (hw _ (List.mem_of_getElem? (i := 38) rfl))) (by decide) (backOf (W := 0) (rmMx l Z _ hw [] u1 (own_lmax j23 j25) T264.heap n0 Z283 ) hZ (hw _ (List.mem_of_getElem? (i := 38) rfl)) (hw _ (List.mem_of_getElem? (i := 34) rfl)) (by decide) (by decide)) (g := (mkF m 303 #[.val (.int p0), .val (.long q1), .second, .val (.long q2), .second, .val (.long q3), .second, .val (.long q4), .second, .val (.int i9), .val (.int i10), .val (.int i11), .val (.int i12), .val (.int i13), .val (.ref s1), .val (.ref s2), .val (.int b16), .val (.long j17), .second, .val (.long l1), .second, .val (.long u1), .second, .val (.long j23), .second, .val (.long j25), .second, .val (.long (own_lmin j23 j25)), .second, .val (.long (own_lmax j23 j25)), .second, .val (.ref b205), .val (.ref b240), .unset, .unset] [(.long (own_lmax j23 j25)), (.long u1)])) rfl (by rw [hml]; rfl) (argsL := [(.long u1), (.long (own_lmax j23 j25))]) (rest := []) (lenOf pd_6 rfl) rfl (by show 2 * 0 + _ ≤ _; exact Nat.le_of_eq rfl) (hb hby at_303) (fun _ _ => ⟨rfl, hs294, (by decide : 9 + 0 ≤ _), (by decide : 28 + 0 ≤ _)⟩)
        dsimp only [Pt.U, Pt.locs, Pt.cells, Pt.slots] at X297 l297 y297 z297 st297 hQ297
        subst l297 y297 z297
        obtain ⟨rfl, Nq297, hs297⟩ := hQ297
        have N298 := Fr.app N295 Nq297
        refine OFin.of (S' := T297.setTop (mkF m 306 #[.val (.int p0), .val (.long q1), .second, .val (.long q2), .second, .val (.long q3), .second, .val (.long q4), .second, .val (.int i9), .val (.int i10), .val (.int i11), .val (.int i12), .val (.int i13), .val (.ref s1), .val (.ref s2), .val (.int b16), .val (.long j17), .second, .val (.long l1), .second, .val (.long u1), .second, .val (.long j23), .second, .val (.long j25), .second, .val (.long (own_lmin j23 j25)), .second, .val (.long (own_lmax j23 j25)), .second, .val (.ref b205), .val (.ref b240), .unset, .unset] [(.long (own_lmax u1 (own_lmax j23 j25)))])) (fun t ht => st297 t ht) ?_
        refine OFin.of (S' := T297.setTop (mkF m 309 #[.val (.int p0), .val (.long q1), .second, .val (.long q2), .second, .val (.long q3), .second, .val (.long q4), .second, .val (.int i9), .val (.int i10), .val (.int i11), .val (.int i12), .val (.int i13), .val (.ref s1), .val (.ref s2), .val (.int b16), .val (.long j17), .second, .val (.long l1), .second, .val (.long u1), .second, .val (.long j23), .second, .val (.long j25), .second, .val (.long (own_lmin j23 j25)), .second, .val (.long (own_lmax j23 j25)), .second, .val (.ref b205), .val (.ref b240), .unset, .unset] [(.int (lcmpW (own_lmax u1 (own_lmax j23 j25)) u1))])) (fun t ht => ?_) ?_
        · refine XS.lload X297.here hx rfl (hb hby at_306) rfl ?_
          show Steps p.tables e below (T297.setTop (mkF m 308 _ [(.long u1), (.long (own_lmax u1 (own_lmax j23 j25)))])) _
          refine XS.lcmp X297.here hx rfl (hb hby at_308) rfl ?_
          exact ht
        by_cases hc299 : (lcmpW (own_lmax u1 (own_lmax j23 j25)) u1) = (0 : Int32)
        · refine OFin.of (S' := T297.setTop (mkF m 328 #[.val (.int p0), .val (.long q1), .second, .val (.long q2), .second, .val (.long q3), .second, .val (.long q4), .second, .val (.int i9), .val (.int i10), .val (.int i11), .val (.int i12), .val (.int i13), .val (.ref s1), .val (.ref s2), .val (.int b16), .val (.long j17), .second, .val (.long l1), .second, .val (.long u1), .second, .val (.long j23), .second, .val (.long j25), .second, .val (.long (own_lmin j23 j25)), .second, .val (.long (own_lmax j23 j25)), .second, .val (.ref b205), .val (.ref b240), .val (.int (1 : Int32)), .unset] [(.long (own_lmin j23 j25)), (.long l1)])) (fun t ht => ?_) ?_
          · refine XS.ifNo X297.here hx rfl (hb hby at_309) rfl ((if0 _ _).trans (teq (hc299 : (lcmpW (own_lmax u1 (own_lmax j23 j25)) u1) = (0 : Int32))).2) ?_
            show Steps p.tables e below (T297.setTop (mkF m 312 _ [])) _
            refine XS.iconst X297.here hx rfl (hb hby at_312) ?_
            show Steps p.tables e below (T297.setTop (mkF m 313 _ [(.int (1 : Int32))])) _
            refine XS.goto X297.here hx rfl (pc0 := 313) (pc' := 317) rfl (hb hby at_313) (by decide) (by decide) ?_
            show Steps p.tables e below (T297.setTop (mkF m 317 _ [(.int (1 : Int32))])) _
            refine XS.istore X297.here hx rfl (hb hby at_317) rfl (l' := #[.val (.int p0), .val (.long q1), .second, .val (.long q2), .second, .val (.long q3), .second, .val (.long q4), .second, .val (.int i9), .val (.int i10), .val (.int i11), .val (.int i12), .val (.int i13), .val (.ref s1), .val (.ref s2), .val (.int b16), .val (.long j17), .second, .val (.long l1), .second, .val (.long u1), .second, .val (.long j23), .second, .val (.long j25), .second, .val (.long (own_lmin j23 j25)), .second, .val (.long (own_lmax j23 j25)), .second, .val (.ref b205), .val (.ref b240), .val (.int (1 : Int32)), .unset]) rfl ?_
            show Steps p.tables e below (T297.setTop (mkF m 319 #[.val (.int p0), .val (.long q1), .second, .val (.long q2), .second, .val (.long q3), .second, .val (.long q4), .second, .val (.int i9), .val (.int i10), .val (.int i11), .val (.int i12), .val (.int i13), .val (.ref s1), .val (.ref s2), .val (.int b16), .val (.long j17), .second, .val (.long l1), .second, .val (.long u1), .second, .val (.long j23), .second, .val (.long j25), .second, .val (.long (own_lmin j23 j25)), .second, .val (.long (own_lmax j23 j25)), .second, .val (.ref b205), .val (.ref b240), .val (.int (1 : Int32)), .unset] [])) _
            refine XS.iload X297.here hx rfl (hb hby at_319) rfl ?_
            show Steps p.tables e below (T297.setTop (mkF m 321 _ [(.int b16)])) _
            refine XS.ifNo X297.here hx rfl (hb hby at_321) rfl ((if0 _ _).trans (feq (hc284 : ¬ (b16 = (0 : Int32)))).1) ?_
            show Steps p.tables e below (T297.setTop (mkF m 324 _ [])) _
            refine XS.lload X297.here hx rfl (hb hby at_324) rfl ?_
            show Steps p.tables e below (T297.setTop (mkF m 326 _ [(.long l1)])) _
            refine XS.lload X297.here hx rfl (hb hby at_326) rfl ?_
            exact ht
          obtain ⟨_, _, ⟨T300, L300, k300, n300⟩, -, X300, ⟨Lc300, hQ300, l300, y300, z300⟩, st300⟩ := Jvm.LawKit.callS X297 hx (y := (⟨"java/lang/Math", "min", "(JJ)J"⟩ : MethodName)) hown (mvT hZ (hw _ (List.mem_of_getElem? (i := 32) rfl))) (mvT hZ (hw _ (List.mem_of_getElem? (i := 33) rfl))) (mvT hZ (hw _ (List.mem_of_getElem? (i := 34) rfl))) (mvT hZ (hw _ (List.mem_of_getElem? (i := 35) rfl))) (by decide) (backOf (W := 0) (rmMn l Z _ hw [] l1 (own_lmin j23 j25) T264.heap n0 Z283 ) hZ (hw _ (List.mem_of_getElem? (i := 35) rfl)) (hw _ (List.mem_of_getElem? (i := 34) rfl)) (by decide) (by decide)) (g := (mkF m 328 #[.val (.int p0), .val (.long q1), .second, .val (.long q2), .second, .val (.long q3), .second, .val (.long q4), .second, .val (.int i9), .val (.int i10), .val (.int i11), .val (.int i12), .val (.int i13), .val (.ref s1), .val (.ref s2), .val (.int b16), .val (.long j17), .second, .val (.long l1), .second, .val (.long u1), .second, .val (.long j23), .second, .val (.long j25), .second, .val (.long (own_lmin j23 j25)), .second, .val (.long (own_lmax j23 j25)), .second, .val (.ref b205), .val (.ref b240), .val (.int (1 : Int32)), .unset] [(.long (own_lmin j23 j25)), (.long l1)])) rfl (by rw [hml]; rfl) (argsL := [(.long l1), (.long (own_lmin j23 j25))]) (rest := []) (lenOf pd_6 rfl) rfl (by show 2 * 0 + _ ≤ _; exact Nat.le_of_eq rfl) (hb hby at_328) (fun _ _ => ⟨rfl, hs297, (by decide : 9 + 0 ≤ _), (by decide : 28 + 0 ≤ _)⟩)
          dsimp only [Pt.U, Pt.locs, Pt.cells, Pt.slots] at X300 l300 y300 z300 st300 hQ300
          subst l300 y300 z300
          obtain ⟨rfl, Nq300, hs300⟩ := hQ300
          have N301 := Fr.app N298 Nq300
          refine OFin.of (S' := T300.setTop (mkF m 331 #[.val (.int p0), .val (.long q1), .second, .val (.long q2), .second, .val (.long q3), .second, .val (.long q4), .second, .val (.int i9), .val (.int i10), .val (.int i11), .val (.int i12), .val (.int i13), .val (.ref s1), .val (.ref s2), .val (.int b16), .val (.long j17), .second, .val (.long l1), .second, .val (.long u1), .second, .val (.long j23), .second, .val (.long j25), .second, .val (.long (own_lmin j23 j25)), .second, .val (.long (own_lmax j23 j25)), .second, .val (.ref b205), .val (.ref b240), .val (.int (1 : Int32)), .unset] [(.long (own_lmin l1 (own_lmin j23 j25)))])) (fun t ht => st300 t ht) ?_
          refine OFin.of (S' := T300.setTop (mkF m 334 #[.val (.int p0), .val (.long q1), .second, .val (.long q2), .second, .val (.long q3), .second, .val (.long q4), .second, .val (.int i9), .val (.int i10), .val (.int i11), .val (.int i12), .val (.int i13), .val (.ref s1), .val (.ref s2), .val (.int b16), .val (.long j17), .second, .val (.long l1), .second, .val (.long u1), .second, .val (.long j23), .second, .val (.long j25), .second, .val (.long (own_lmin j23 j25)), .second, .val (.long (own_lmax j23 j25)), .second, .val (.ref b205), .val (.ref b240), .val (.int (1 : Int32)), .unset] [(.int (lcmpW (own_lmin l1 (own_lmin j23 j25)) (own_lmin j23 j25)))])) (fun t ht => ?_) ?_
          · refine XS.lload X300.here hx rfl (hb hby at_331) rfl ?_
            show Steps p.tables e below (T300.setTop (mkF m 333 _ [(.long (own_lmin j23 j25)), (.long (own_lmin l1 (own_lmin j23 j25)))])) _
            refine XS.lcmp X300.here hx rfl (hb hby at_333) rfl ?_
            exact ht
          by_cases hc302 : (lcmpW (own_lmin l1 (own_lmin j23 j25)) (own_lmin j23 j25)) = (0 : Int32)
          · refine OFin.of (S' := T300.setTop (mkF m 341 #[.val (.int p0), .val (.long q1), .second, .val (.long q2), .second, .val (.long q3), .second, .val (.long q4), .second, .val (.int i9), .val (.int i10), .val (.int i11), .val (.int i12), .val (.int i13), .val (.ref s1), .val (.ref s2), .val (.int b16), .val (.long j17), .second, .val (.long l1), .second, .val (.long u1), .second, .val (.long j23), .second, .val (.long j25), .second, .val (.long (own_lmin j23 j25)), .second, .val (.long (own_lmax j23 j25)), .second, .val (.ref b205), .val (.ref b240), .val (.int (1 : Int32)), .unset] [(.long (own_lmax j23 j25)), (.long u1)])) (fun t ht => ?_) ?_
            · refine XS.ifNo X300.here hx rfl (hb hby at_334) rfl ((if0 _ _).trans (teq (hc302 : (lcmpW (own_lmin l1 (own_lmin j23 j25)) (own_lmin j23 j25)) = (0 : Int32))).2) ?_
              show Steps p.tables e below (T300.setTop (mkF m 337 _ [])) _
              refine XS.lload X300.here hx rfl (hb hby at_337) rfl ?_
              show Steps p.tables e below (T300.setTop (mkF m 339 _ [(.long u1)])) _
              refine XS.lload X300.here hx rfl (hb hby at_339) rfl ?_
              exact ht
            obtain ⟨_, _, ⟨T303, L303, k303, n303⟩, -, X303, ⟨Lc303, hQ303, l303, y303, z303⟩, st303⟩ := Jvm.LawKit.callS X300 hx (y := (⟨"java/lang/Math", "max", "(JJ)J"⟩ : MethodName)) hown (mvT hZ (hw _ (List.mem_of_getElem? (i := 36) rfl))) (mvT hZ (hw _ (List.mem_of_getElem? (i := 37) rfl))) (mvT hZ (hw _ (List.mem_of_getElem? (i := 34) rfl))) (mvT hZ (hw _ (List.mem_of_getElem? (i := 38) rfl))) (by decide) (backOf (W := 0) (rmMx l Z _ hw [] u1 (own_lmax j23 j25) T264.heap n0 Z283 ) hZ (hw _ (List.mem_of_getElem? (i := 38) rfl)) (hw _ (List.mem_of_getElem? (i := 34) rfl)) (by decide) (by decide)) (g := (mkF m 341 #[.val (.int p0), .val (.long q1), .second, .val (.long q2), .second, .val (.long q3), .second, .val (.long q4), .second, .val (.int i9), .val (.int i10), .val (.int i11), .val (.int i12), .val (.int i13), .val (.ref s1), .val (.ref s2), .val (.int b16), .val (.long j17), .second, .val (.long l1), .second, .val (.long u1), .second, .val (.long j23), .second, .val (.long j25), .second, .val (.long (own_lmin j23 j25)), .second, .val (.long (own_lmax j23 j25)), .second, .val (.ref b205), .val (.ref b240), .val (.int (1 : Int32)), .unset] [(.long (own_lmax j23 j25)), (.long u1)])) rfl (by rw [hml]; rfl) (argsL := [(.long u1), (.long (own_lmax j23 j25))]) (rest := []) (lenOf pd_6 rfl) rfl (by show 2 * 0 + _ ≤ _; exact Nat.le_of_eq rfl) (hb hby at_341) (fun _ _ => ⟨rfl, hs300, (by decide : 9 + 0 ≤ _), (by decide : 28 + 0 ≤ _)⟩)
            dsimp only [Pt.U, Pt.locs, Pt.cells, Pt.slots] at X303 l303 y303 z303 st303 hQ303
            subst l303 y303 z303
            obtain ⟨rfl, Nq303, hs303⟩ := hQ303
            have N304 := Fr.app N301 Nq303
            refine OFin.of (S' := T303.setTop (mkF m 344 #[.val (.int p0), .val (.long q1), .second, .val (.long q2), .second, .val (.long q3), .second, .val (.long q4), .second, .val (.int i9), .val (.int i10), .val (.int i11), .val (.int i12), .val (.int i13), .val (.ref s1), .val (.ref s2), .val (.int b16), .val (.long j17), .second, .val (.long l1), .second, .val (.long u1), .second, .val (.long j23), .second, .val (.long j25), .second, .val (.long (own_lmin j23 j25)), .second, .val (.long (own_lmax j23 j25)), .second, .val (.ref b205), .val (.ref b240), .val (.int (1 : Int32)), .unset] [(.long (own_lmax u1 (own_lmax j23 j25)))])) (fun t ht => st303 t ht) ?_
            refine OFin.of (S' := T303.setTop (mkF m 347 #[.val (.int p0), .val (.long q1), .second, .val (.long q2), .second, .val (.long q3), .second, .val (.long q4), .second, .val (.int i9), .val (.int i10), .val (.int i11), .val (.int i12), .val (.int i13), .val (.ref s1), .val (.ref s2), .val (.int b16), .val (.long j17), .second, .val (.long l1), .second, .val (.long u1), .second, .val (.long j23), .second, .val (.long j25), .second, .val (.long (own_lmin j23 j25)), .second, .val (.long (own_lmax j23 j25)), .second, .val (.ref b205), .val (.ref b240), .val (.int (1 : Int32)), .unset] [(.int (lcmpW (own_lmax u1 (own_lmax j23 j25)) (own_lmax j23 j25)))])) (fun t ht => ?_) ?_
            · refine XS.lload X303.here hx rfl (hb hby at_344) rfl ?_
              show Steps p.tables e below (T303.setTop (mkF m 346 _ [(.long (own_lmax j23 j25)), (.long (own_lmax u1 (own_lmax j23 j25)))])) _
              refine XS.lcmp X303.here hx rfl (hb hby at_346) rfl ?_
              exact ht
            by_cases hc305 : (lcmpW (own_lmax u1 (own_lmax j23 j25)) (own_lmax j23 j25)) = (0 : Int32)
            · refine OFin.of (S' := T303.setTop (mkF m 361 #[.val (.int p0), .val (.long q1), .second, .val (.long q2), .second, .val (.long q3), .second, .val (.long q4), .second, .val (.int i9), .val (.int i10), .val (.int i11), .val (.int i12), .val (.int i13), .val (.ref s1), .val (.ref s2), .val (.int b16), .val (.long j17), .second, .val (.long l1), .second, .val (.long u1), .second, .val (.long j23), .second, .val (.long j25), .second, .val (.long (own_lmin j23 j25)), .second, .val (.long (own_lmax j23 j25)), .second, .val (.ref b205), .val (.ref b240), .val (.int (1 : Int32)), .val (.int (1 : Int32))] [(.ref b240), (.ref b205)])) (fun t ht => ?_) ?_
              · refine XS.ifNo X303.here hx rfl (hb hby at_347) rfl ((if0 _ _).trans (teq (hc305 : (lcmpW (own_lmax u1 (own_lmax j23 j25)) (own_lmax j23 j25)) = (0 : Int32))).2) ?_
                show Steps p.tables e below (T303.setTop (mkF m 350 _ [])) _
                refine XS.iconst X303.here hx rfl (hb hby at_350) ?_
                show Steps p.tables e below (T303.setTop (mkF m 351 _ [(.int (1 : Int32))])) _
                refine XS.goto X303.here hx rfl (pc0 := 351) (pc' := 355) rfl (hb hby at_351) (by decide) (by decide) ?_
                show Steps p.tables e below (T303.setTop (mkF m 355 _ [(.int (1 : Int32))])) _
                refine XS.istore X303.here hx rfl (hb hby at_355) rfl (l' := #[.val (.int p0), .val (.long q1), .second, .val (.long q2), .second, .val (.long q3), .second, .val (.long q4), .second, .val (.int i9), .val (.int i10), .val (.int i11), .val (.int i12), .val (.int i13), .val (.ref s1), .val (.ref s2), .val (.int b16), .val (.long j17), .second, .val (.long l1), .second, .val (.long u1), .second, .val (.long j23), .second, .val (.long j25), .second, .val (.long (own_lmin j23 j25)), .second, .val (.long (own_lmax j23 j25)), .second, .val (.ref b205), .val (.ref b240), .val (.int (1 : Int32)), .val (.int (1 : Int32))]) rfl ?_
                show Steps p.tables e below (T303.setTop (mkF m 357 #[.val (.int p0), .val (.long q1), .second, .val (.long q2), .second, .val (.long q3), .second, .val (.long q4), .second, .val (.int i9), .val (.int i10), .val (.int i11), .val (.int i12), .val (.int i13), .val (.ref s1), .val (.ref s2), .val (.int b16), .val (.long j17), .second, .val (.long l1), .second, .val (.long u1), .second, .val (.long j23), .second, .val (.long j25), .second, .val (.long (own_lmin j23 j25)), .second, .val (.long (own_lmax j23 j25)), .second, .val (.ref b205), .val (.ref b240), .val (.int (1 : Int32)), .val (.int (1 : Int32))] [])) _
                refine XS.aload X303.here hx rfl (hb hby at_357) rfl rfl ?_
                show Steps p.tables e below (T303.setTop (mkF m 359 _ [(.ref b205)])) _
                refine XS.aload X303.here hx rfl (hb hby at_359) rfl rfl ?_
                exact ht
              obtain ⟨cq307, kq307, q307a, q307b, q307c⟩ := isOf hZ hs303 f278
              obtain ⟨_, _, ⟨T306, L306, k306, n306⟩, -, X306, ⟨Lc306, hQ306, l306, y306, z306⟩, st306⟩ := X303.virtualBack hx (y := (⟨"com/example/greylag/greylag/model/Bundle", "contains", "(Lcom/example/greylag/greylag/model/Bundle;)Z"⟩ : MethodName)) (z := (⟨"com/example/greylag/greylag/model/Bundle", "contains", "(Lcom/example/greylag/greylag/model/Bundle;)Z"⟩ : MethodName)) hown (mvT hZ (hw _ (List.mem_of_getElem? (i := 52) rfl))) (mvT hZ (hw _ (List.mem_of_getElem? (i := 53) rfl))) (notFace_of_selects (args := #[]) (mvT hZ (hw _ (List.mem_of_getElem? (i := 55) rfl)))) (mvT hZ (hw _ (List.mem_of_getElem? (i := 55) rfl))) (mvT hZ (hw _ (List.mem_of_getElem? (i := 54) rfl))) (by decide) (backOf (W := 0) (rmCo22 l Z _ hw [] b205 b240 s1 s2 l1 u1 (own_lmin j23 j25) (own_lmax j23 j25) (own_leq2 x0 x1 y0 y1) T264.heap n0 Z283 f279 f265 f280 f266 f281 f267 f270 (rmEq22 l Z _ hw [] s1 s2 t1 t2 k1 k2 cs x0 x1 y0 y1 T264.heap n0 Z283 f274 f271 f275 f272 f276 f273 f277 f269 hcs na0)) hZ (hw _ (List.mem_of_getElem? (i := 56) rfl)) (hw _ (List.mem_of_getElem? (i := 41) rfl)) (by decide) (by decide)) q307a q307c (g := (mkF m 361 #[.val (.int p0), .val (.long q1), .second, .val (.long q2), .second, .val (.long q3), .second, .val (.long q4), .second, .val (.int i9), .val (.int i10), .val (.int i11), .val (.int i12), .val (.int i13), .val (.ref s1), .val (.ref s2), .val (.int b16), .val (.long j17), .second, .val (.long l1), .second, .val (.long u1), .second, .val (.long j23), .second, .val (.long j25), .second, .val (.long (own_lmin j23 j25)), .second, .val (.long (own_lmax j23 j25)), .second, .val (.ref b205), .val (.ref b240), .val (.int (1 : Int32)), .val (.int (1 : Int32))] [(.ref b240), (.ref b205)])) rfl (by rw [hml]; rfl) (Steps.refl _) (argsL := [(.ref b240)]) (rest := []) (lenOf pd_8 rfl) rfl (by show 2 * 0 + _ ≤ _; exact Nat.le_of_eq rfl) (hb hby at_361) (fun _ _ => ⟨rfl, hs303, (by decide : 9 + 0 ≤ _), (by decide : 28 + 0 ≤ _)⟩)
              dsimp only [Pt.U, Pt.locs, Pt.cells, Pt.slots] at X306 l306 y306 z306 st306 hQ306
              subst l306 y306 z306
              obtain ⟨rfl, Nq306, hs306⟩ := hQ306
              have N308 := Fr.app N304 Nq306
              refine OFin.to (S' := T306.setTop (mkF m 364 #[.val (.int p0), .val (.long q1), .second, .val (.long q2), .second, .val (.long q3), .second, .val (.long q4), .second, .val (.int i9), .val (.int i10), .val (.int i11), .val (.int i12), .val (.int i13), .val (.ref s1), .val (.ref s2), .val (.int b16), .val (.long j17), .second, .val (.long l1), .second, .val (.long u1), .second, .val (.long j23), .second, .val (.long j25), .second, .val (.long (own_lmin j23 j25)), .second, .val (.long (own_lmax j23 j25)), .second, .val (.ref b205), .val (.ref b240), .val (.int (1 : Int32)), .val (.int (1 : Int32))] [(.int (own_cont (own_leq2 x0 x1 y0 y1) l1 u1 (own_lmin j23 j25) (own_lmax j23 j25)))])) st306 ?_
              refine OFin.of (S' := T306.setTop (mkF m 373 #[.val (.int p0), .val (.long q1), .second, .val (.long q2), .second, .val (.long q3), .second, .val (.long q4), .second, .val (.int i9), .val (.int i10), .val (.int i11), .val (.int i12), .val (.int i13), .val (.ref s1), .val (.ref s2), .val (.int b16), .val (.long j17), .second, .val (.long l1), .second, .val (.long u1), .second, .val (.long j23), .second, .val (.long j25), .second, .val (.long (own_lmin j23 j25)), .second, .val (.long (own_lmax j23 j25)), .second, .val (.ref b205), .val (.ref b240), .val (.int (1 : Int32)), .val (.int (1 : Int32))] [(.ref b205), (.ref b240)])) (fun t ht => ?_) ?_
              · refine XS.iload X306.here hx rfl (hb hby at_364) rfl ?_
                show Steps p.tables e below (T306.setTop (mkF m 366 _ [(.int (1 : Int32)), (.int (own_cont (own_leq2 x0 x1 y0 y1) l1 u1 (own_lmin j23 j25) (own_lmax j23 j25)))])) _
                refine XS.icmpNo X306.here hx rfl (hb hby at_366) rfl (teq (own_t3 hE hc284 hc296 hc299 : (own_cont (own_leq2 x0 x1 y0 y1) l1 u1 (own_lmin j23 j25) (own_lmax j23 j25)) = (1 : Int32))).2 ?_
                show Steps p.tables e below (T306.setTop (mkF m 369 _ [])) _
                refine XS.aload X306.here hx rfl (hb hby at_369) rfl rfl ?_
                show Steps p.tables e below (T306.setTop (mkF m 371 _ [(.ref b240)])) _
                refine XS.aload X306.here hx rfl (hb hby at_371) rfl rfl ?_
                exact ht
              obtain ⟨cq310, kq310, q310a, q310b, q310c⟩ := isOf hZ hs306 f282
              obtain ⟨_, _, ⟨T309, L309, k309, n309⟩, -, X309, ⟨Lc309, hQ309, l309, y309, z309⟩, st309⟩ := X306.virtualBack hx (y := (⟨"com/example/greylag/greylag/model/Bundle", "contains", "(Lcom/example/greylag/greylag/model/Bundle;)Z"⟩ : MethodName)) (z := (⟨"com/example/greylag/greylag/model/Bundle", "contains", "(Lcom/example/greylag/greylag/model/Bundle;)Z"⟩ : MethodName)) hown (mvT hZ (hw _ (List.mem_of_getElem? (i := 52) rfl))) (mvT hZ (hw _ (List.mem_of_getElem? (i := 53) rfl))) (notFace_of_selects (args := #[]) (mvT hZ (hw _ (List.mem_of_getElem? (i := 55) rfl)))) (mvT hZ (hw _ (List.mem_of_getElem? (i := 55) rfl))) (mvT hZ (hw _ (List.mem_of_getElem? (i := 54) rfl))) (by decide) (backOf (W := 0) (rmCo22 l Z _ hw [] b240 b205 s2 s1 (own_lmin j23 j25) (own_lmax j23 j25) l1 u1 (own_leq2 y0 y1 x0 x1) T264.heap n0 Z283 f265 f279 f266 f280 f267 f281 f274 (rmEq22 l Z _ hw [] s2 s1 t2 t1 k2 k1 cs y0 y1 x0 x1 T264.heap n0 Z283 f270 f275 f271 f276 f272 f277 f273 f269 hcs (Ne.symm na0))) hZ (hw _ (List.mem_of_getElem? (i := 56) rfl)) (hw _ (List.mem_of_getElem? (i := 41) rfl)) (by decide) (by decide)) q310a q310c (g := (mkF m 373 #[.val (.int p0), .val (.long q1), .second, .val (.long q2), .second, .val (.long q3), .second, .val (.long q4), .second, .val (.int i9), .val (.int i10), .val (.int i11), .val (.int i12), .val (.int i13), .val (.ref s1), .val (.ref s2), .val (.int b16), .val (.long j17), .second, .val (.long l1), .second, .val (.long u1), .second, .val (.long j23), .second, .val (.long j25), .second, .val (.long (own_lmin j23 j25)), .second, .val (.long (own_lmax j23 j25)), .second, .val (.ref b205), .val (.ref b240), .val (.int (1 : Int32)), .val (.int (1 : Int32))] [(.ref b205), (.ref b240)])) rfl (by rw [hml]; rfl) (Steps.refl _) (argsL := [(.ref b205)]) (rest := []) (lenOf pd_8 rfl) rfl (by show 2 * 0 + _ ≤ _; exact Nat.le_of_eq rfl) (hb hby at_373) (fun _ _ => ⟨rfl, hs306, (by decide : 9 + 0 ≤ _), (by decide : 28 + 0 ≤ _)⟩)
              dsimp only [Pt.U, Pt.locs, Pt.cells, Pt.slots] at X309 l309 y309 z309 st309 hQ309
              subst l309 y309 z309
              obtain ⟨rfl, Nq309, hs309⟩ := hQ309
              have N311 := Fr.app N308 Nq309
              refine OFin.to (S' := T309.setTop (mkF m 376 #[.val (.int p0), .val (.long q1), .second, .val (.long q2), .second, .val (.long q3), .second, .val (.long q4), .second, .val (.int i9), .val (.int i10), .val (.int i11), .val (.int i12), .val (.int i13), .val (.ref s1), .val (.ref s2), .val (.int b16), .val (.long j17), .second, .val (.long l1), .second, .val (.long u1), .second, .val (.long j23), .second, .val (.long j25), .second, .val (.long (own_lmin j23 j25)), .second, .val (.long (own_lmax j23 j25)), .second, .val (.ref b205), .val (.ref b240), .val (.int (1 : Int32)), .val (.int (1 : Int32))] [(.int (own_cont (own_leq2 y0 y1 x0 x1) (own_lmin j23 j25) (own_lmax j23 j25) l1 u1))])) st309 ?_
              refine OFin.of (S' := T309.setTop (mkF m 385 #[.val (.int p0), .val (.long q1), .second, .val (.long q2), .second, .val (.long q3), .second, .val (.long q4), .second, .val (.int i9), .val (.int i10), .val (.int i11), .val (.int i12), .val (.int i13), .val (.ref s1), .val (.ref s2), .val (.int b16), .val (.long j17), .second, .val (.long l1), .second, .val (.long u1), .second, .val (.long j23), .second, .val (.long j25), .second, .val (.long (own_lmin j23 j25)), .second, .val (.long (own_lmax j23 j25)), .second, .val (.ref b205), .val (.ref b240), .val (.int (1 : Int32)), .val (.int (1 : Int32))] [(.ref b240), (.ref b240)])) (fun t ht => ?_) ?_
              · refine XS.iload X309.here hx rfl (hb hby at_376) rfl ?_
                show Steps p.tables e below (T309.setTop (mkF m 378 _ [(.int (1 : Int32)), (.int (own_cont (own_leq2 y0 y1 x0 x1) (own_lmin j23 j25) (own_lmax j23 j25) l1 u1))])) _
                refine XS.icmpNo X309.here hx rfl (hb hby at_378) rfl (teq (own_v3 hE hE2 hc284 hc302 hc305 : (own_cont (own_leq2 y0 y1 x0 x1) (own_lmin j23 j25) (own_lmax j23 j25) l1 u1) = (1 : Int32))).2 ?_
                show Steps p.tables e below (T309.setTop (mkF m 381 _ [])) _
                refine XS.aload X309.here hx rfl (hb hby at_381) rfl rfl ?_
                show Steps p.tables e below (T309.setTop (mkF m 383 _ [(.ref b240)])) _
                refine XS.aload X309.here hx rfl (hb hby at_383) rfl rfl ?_
                exact ht
              obtain ⟨cq313, kq313, q313a, q313b, q313c⟩ := isOf hZ hs309 f282
              obtain ⟨_, _, ⟨T312, L312, k312, n312⟩, -, X312, ⟨Lc312, hQ312, l312, y312, z312⟩, st312⟩ := X309.virtualBack hx (y := (⟨"com/example/greylag/greylag/model/Bundle", "contains", "(Lcom/example/greylag/greylag/model/Bundle;)Z"⟩ : MethodName)) (z := (⟨"com/example/greylag/greylag/model/Bundle", "contains", "(Lcom/example/greylag/greylag/model/Bundle;)Z"⟩ : MethodName)) hown (mvT hZ (hw _ (List.mem_of_getElem? (i := 52) rfl))) (mvT hZ (hw _ (List.mem_of_getElem? (i := 53) rfl))) (notFace_of_selects (args := #[]) (mvT hZ (hw _ (List.mem_of_getElem? (i := 55) rfl)))) (mvT hZ (hw _ (List.mem_of_getElem? (i := 55) rfl))) (mvT hZ (hw _ (List.mem_of_getElem? (i := 54) rfl))) (by decide) (backOf (W := 0) (rmCos l Z _ hw [] b240 b240 s2 (own_lmin j23 j25) (own_lmax j23 j25) (own_lmin j23 j25) (own_lmax j23 j25) (1 : Int32) T264.heap n0 Z283 f265 f265 f266 f266 f267 f267 f274 (rmEs l Z _ hw [] s2 T264.heap n0 Z283)) hZ (hw _ (List.mem_of_getElem? (i := 56) rfl)) (hw _ (List.mem_of_getElem? (i := 41) rfl)) (by decide) (by decide)) q313a q313c (g := (mkF m 385 #[.val (.int p0), .val (.long q1), .second, .val (.long q2), .second, .val (.long q3), .second, .val (.long q4), .second, .val (.int i9), .val (.int i10), .val (.int i11), .val (.int i12), .val (.int i13), .val (.ref s1), .val (.ref s2), .val (.int b16), .val (.long j17), .second, .val (.long l1), .second, .val (.long u1), .second, .val (.long j23), .second, .val (.long j25), .second, .val (.long (own_lmin j23 j25)), .second, .val (.long (own_lmax j23 j25)), .second, .val (.ref b205), .val (.ref b240), .val (.int (1 : Int32)), .val (.int (1 : Int32))] [(.ref b240), (.ref b240)])) rfl (by rw [hml]; rfl) (Steps.refl _) (argsL := [(.ref b240)]) (rest := []) (lenOf pd_8 rfl) rfl (by show 2 * 0 + _ ≤ _; exact Nat.le_of_eq rfl) (hb hby at_385) (fun _ _ => ⟨rfl, hs309, (by decide : 9 + 0 ≤ _), (by decide : 28 + 0 ≤ _)⟩)
              dsimp only [Pt.U, Pt.locs, Pt.cells, Pt.slots] at X312 l312 y312 z312 st312 hQ312
              subst l312 y312 z312
              obtain ⟨rfl, Nq312, hs312⟩ := hQ312
              have N314 := Fr.app N311 Nq312
              refine OFin.to (S' := T312.setTop (mkF m 388 #[.val (.int p0), .val (.long q1), .second, .val (.long q2), .second, .val (.long q3), .second, .val (.long q4), .second, .val (.int i9), .val (.int i10), .val (.int i11), .val (.int i12), .val (.int i13), .val (.ref s1), .val (.ref s2), .val (.int b16), .val (.long j17), .second, .val (.long l1), .second, .val (.long u1), .second, .val (.long j23), .second, .val (.long j25), .second, .val (.long (own_lmin j23 j25)), .second, .val (.long (own_lmax j23 j25)), .second, .val (.ref b205), .val (.ref b240), .val (.int (1 : Int32)), .val (.int (1 : Int32))] [(.int (own_cont (1 : Int32) (own_lmin j23 j25) (own_lmax j23 j25) (own_lmin j23 j25) (own_lmax j23 j25)))])) st312 ?_
              refine OFin.of (S' := T312.setTop (mkF m 396 #[.val (.int p0), .val (.long q1), .second, .val (.long q2), .second, .val (.long q3), .second, .val (.long q4), .second, .val (.int i9), .val (.int i10), .val (.int i11), .val (.int i12), .val (.int i13), .val (.ref s1), .val (.ref s2), .val (.int b16), .val (.long j17), .second, .val (.long l1), .second, .val (.long u1), .second, .val (.long j23), .second, .val (.long j25), .second, .val (.long (own_lmin j23 j25)), .second, .val (.long (own_lmax j23 j25)), .second, .val (.ref b205), .val (.ref b240), .val (.int (1 : Int32)), .val (.int (1 : Int32))] [(.int (1 : Int32))])) (fun t ht => ?_) ?_
              · refine XS.ifNo X312.here hx rfl (hb hby at_388) rfl ((if0 _ _).trans (feq (own_r3 _ _ : ¬ ((own_cont (1 : Int32) (own_lmin j23 j25) (own_lmax j23 j25) (own_lmin j23 j25) (own_lmax j23 j25)) = (0 : Int32)))).1) ?_
                show Steps p.tables e below (T312.setTop (mkF m 391 _ [])) _
                refine XS.iconst X312.here hx rfl (hb hby at_391) ?_
                show Steps p.tables e below (T312.setTop (mkF m 392 _ [(.int (1 : Int32))])) _
                refine XS.goto X312.here hx rfl (pc0 := 392) (pc' := 396) rfl (hb hby at_392) (by decide) (by decide) ?_
                exact ht
              exact OFin.retB X312 hx hlk (t := .boolean) (by simp) hret (hb hby at_396) (by decide) (by decide) (by rw [hs312]; exact hQ _ _ N314)
            · refine OFin.of (S' := T303.setTop (mkF m 361 #[.val (.int p0), .val (.long q1), .second, .val (.long q2), .second, .val (.long q3), .second, .val (.long q4), .second, .val (.int i9), .val (.int i10), .val (.int i11), .val (.int i12), .val (.int i13), .val (.ref s1), .val (.ref s2), .val (.int b16), .val (.long j17), .second, .val (.long l1), .second, .val (.long u1), .second, .val (.long j23), .second, .val (.long j25), .second, .val (.long (own_lmin j23 j25)), .second, .val (.long (own_lmax j23 j25)), .second, .val (.ref b205), .val (.ref b240), .val (.int (1 : Int32)), .val (.int (0 : Int32))] [(.ref b240), (.ref b205)])) (fun t ht => ?_) ?_
              · refine XS.ifYes X303.here hx rfl (pc0 := 347) (pc' := 354) rfl (hb hby at_347) rfl ((if0 _ _).trans (feq (hc305 : ¬ ((lcmpW (own_lmax u1 (own_lmax j23 j25)) (own_lmax j23 j25)) = (0 : Int32)))).2) (by decide) (by decide) ?_
                show Steps p.tables e below (T303.setTop (mkF m 354 _ [])) _
                refine XS.iconst X303.here hx rfl (hb hby at_354) ?_
                show Steps p.tables e below (T303.setTop (mkF m 355 _ [(.int (0 : Int32))])) _
                refine XS.istore X303.here hx rfl (hb hby at_355) rfl (l' := #[.val (.int p0), .val (.long q1), .second, .val (.long q2), .second, .val (.long q3), .second, .val (.long q4), .second, .val (.int i9), .val (.int i10), .val (.int i11), .val (.int i12), .val (.int i13), .val (.ref s1), .val (.ref s2), .val (.int b16), .val (.long j17), .second, .val (.long l1), .second, .val (.long u1), .second, .val (.long j23), .second, .val (.long j25), .second, .val (.long (own_lmin j23 j25)), .second, .val (.long (own_lmax j23 j25)), .second, .val (.ref b205), .val (.ref b240), .val (.int (1 : Int32)), .val (.int (0 : Int32))]) rfl ?_
                show Steps p.tables e below (T303.setTop (mkF m 357 #[.val (.int p0), .val (.long q1), .second, .val (.long q2), .second, .val (.long q3), .second, .val (.long q4), .second, .val (.int i9), .val (.int i10), .val (.int i11), .val (.int i12), .val (.int i13), .val (.ref s1), .val (.ref s2), .val (.int b16), .val (.long j17), .second, .val (.long l1), .second, .val (.long u1), .second, .val (.long j23), .second, .val (.long j25), .second, .val (.long (own_lmin j23 j25)), .second, .val (.long (own_lmax j23 j25)), .second, .val (.ref b205), .val (.ref b240), .val (.int (1 : Int32)), .val (.int (0 : Int32))] [])) _
                refine XS.aload X303.here hx rfl (hb hby at_357) rfl rfl ?_
                show Steps p.tables e below (T303.setTop (mkF m 359 _ [(.ref b205)])) _
                refine XS.aload X303.here hx rfl (hb hby at_359) rfl rfl ?_
                exact ht
              obtain ⟨cq316, kq316, q316a, q316b, q316c⟩ := isOf hZ hs303 f278
              obtain ⟨_, _, ⟨T315, L315, k315, n315⟩, -, X315, ⟨Lc315, hQ315, l315, y315, z315⟩, st315⟩ := X303.virtualBack hx (y := (⟨"com/example/greylag/greylag/model/Bundle", "contains", "(Lcom/example/greylag/greylag/model/Bundle;)Z"⟩ : MethodName)) (z := (⟨"com/example/greylag/greylag/model/Bundle", "contains", "(Lcom/example/greylag/greylag/model/Bundle;)Z"⟩ : MethodName)) hown (mvT hZ (hw _ (List.mem_of_getElem? (i := 52) rfl))) (mvT hZ (hw _ (List.mem_of_getElem? (i := 53) rfl))) (notFace_of_selects (args := #[]) (mvT hZ (hw _ (List.mem_of_getElem? (i := 55) rfl)))) (mvT hZ (hw _ (List.mem_of_getElem? (i := 55) rfl))) (mvT hZ (hw _ (List.mem_of_getElem? (i := 54) rfl))) (by decide) (backOf (W := 0) (rmCo22 l Z _ hw [] b205 b240 s1 s2 l1 u1 (own_lmin j23 j25) (own_lmax j23 j25) (own_leq2 x0 x1 y0 y1) T264.heap n0 Z283 f279 f265 f280 f266 f281 f267 f270 (rmEq22 l Z _ hw [] s1 s2 t1 t2 k1 k2 cs x0 x1 y0 y1 T264.heap n0 Z283 f274 f271 f275 f272 f276 f273 f277 f269 hcs na0)) hZ (hw _ (List.mem_of_getElem? (i := 56) rfl)) (hw _ (List.mem_of_getElem? (i := 41) rfl)) (by decide) (by decide)) q316a q316c (g := (mkF m 361 #[.val (.int p0), .val (.long q1), .second, .val (.long q2), .second, .val (.long q3), .second, .val (.long q4), .second, .val (.int i9), .val (.int i10), .val (.int i11), .val (.int i12), .val (.int i13), .val (.ref s1), .val (.ref s2), .val (.int b16), .val (.long j17), .second, .val (.long l1), .second, .val (.long u1), .second, .val (.long j23), .second, .val (.long j25), .second, .val (.long (own_lmin j23 j25)), .second, .val (.long (own_lmax j23 j25)), .second, .val (.ref b205), .val (.ref b240), .val (.int (1 : Int32)), .val (.int (0 : Int32))] [(.ref b240), (.ref b205)])) rfl (by rw [hml]; rfl) (Steps.refl _) (argsL := [(.ref b240)]) (rest := []) (lenOf pd_8 rfl) rfl (by show 2 * 0 + _ ≤ _; exact Nat.le_of_eq rfl) (hb hby at_361) (fun _ _ => ⟨rfl, hs303, (by decide : 9 + 0 ≤ _), (by decide : 28 + 0 ≤ _)⟩)
              dsimp only [Pt.U, Pt.locs, Pt.cells, Pt.slots] at X315 l315 y315 z315 st315 hQ315
              subst l315 y315 z315
              obtain ⟨rfl, Nq315, hs315⟩ := hQ315
              have N317 := Fr.app N304 Nq315
              refine OFin.to (S' := T315.setTop (mkF m 364 #[.val (.int p0), .val (.long q1), .second, .val (.long q2), .second, .val (.long q3), .second, .val (.long q4), .second, .val (.int i9), .val (.int i10), .val (.int i11), .val (.int i12), .val (.int i13), .val (.ref s1), .val (.ref s2), .val (.int b16), .val (.long j17), .second, .val (.long l1), .second, .val (.long u1), .second, .val (.long j23), .second, .val (.long j25), .second, .val (.long (own_lmin j23 j25)), .second, .val (.long (own_lmax j23 j25)), .second, .val (.ref b205), .val (.ref b240), .val (.int (1 : Int32)), .val (.int (0 : Int32))] [(.int (own_cont (own_leq2 x0 x1 y0 y1) l1 u1 (own_lmin j23 j25) (own_lmax j23 j25)))])) st315 ?_
              refine OFin.of (S' := T315.setTop (mkF m 373 #[.val (.int p0), .val (.long q1), .second, .val (.long q2), .second, .val (.long q3), .second, .val (.long q4), .second, .val (.int i9), .val (.int i10), .val (.int i11), .val (.int i12), .val (.int i13), .val (.ref s1), .val (.ref s2), .val (.int b16), .val (.long j17), .second, .val (.long l1), .second, .val (.long u1), .second, .val (.long j23), .second, .val (.long j25), .second, .val (.long (own_lmin j23 j25)), .second, .val (.long (own_lmax j23 j25)), .second, .val (.ref b205), .val (.ref b240), .val (.int (1 : Int32)), .val (.int (0 : Int32))] [(.ref b205), (.ref b240)])) (fun t ht => ?_) ?_
              · refine XS.iload X315.here hx rfl (hb hby at_364) rfl ?_
                show Steps p.tables e below (T315.setTop (mkF m 366 _ [(.int (1 : Int32)), (.int (own_cont (own_leq2 x0 x1 y0 y1) l1 u1 (own_lmin j23 j25) (own_lmax j23 j25)))])) _
                refine XS.icmpNo X315.here hx rfl (hb hby at_366) rfl (teq (own_t3 hE hc284 hc296 hc299 : (own_cont (own_leq2 x0 x1 y0 y1) l1 u1 (own_lmin j23 j25) (own_lmax j23 j25)) = (1 : Int32))).2 ?_
                show Steps p.tables e below (T315.setTop (mkF m 369 _ [])) _
                refine XS.aload X315.here hx rfl (hb hby at_369) rfl rfl ?_
                show Steps p.tables e below (T315.setTop (mkF m 371 _ [(.ref b240)])) _
                refine XS.aload X315.here hx rfl (hb hby at_371) rfl rfl ?_
                exact ht
              obtain ⟨cq319, kq319, q319a, q319b, q319c⟩ := isOf hZ hs315 f282
              obtain ⟨_, _, ⟨T318, L318, k318, n318⟩, -, X318, ⟨Lc318, hQ318, l318, y318, z318⟩, st318⟩ := X315.virtualBack hx (y := (⟨"com/example/greylag/greylag/model/Bundle", "contains", "(Lcom/example/greylag/greylag/model/Bundle;)Z"⟩ : MethodName)) (z := (⟨"com/example/greylag/greylag/model/Bundle", "contains", "(Lcom/example/greylag/greylag/model/Bundle;)Z"⟩ : MethodName)) hown (mvT hZ (hw _ (List.mem_of_getElem? (i := 52) rfl))) (mvT hZ (hw _ (List.mem_of_getElem? (i := 53) rfl))) (notFace_of_selects (args := #[]) (mvT hZ (hw _ (List.mem_of_getElem? (i := 55) rfl)))) (mvT hZ (hw _ (List.mem_of_getElem? (i := 55) rfl))) (mvT hZ (hw _ (List.mem_of_getElem? (i := 54) rfl))) (by decide) (backOf (W := 0) (rmCo22 l Z _ hw [] b240 b205 s2 s1 (own_lmin j23 j25) (own_lmax j23 j25) l1 u1 (own_leq2 y0 y1 x0 x1) T264.heap n0 Z283 f265 f279 f266 f280 f267 f281 f274 (rmEq22 l Z _ hw [] s2 s1 t2 t1 k2 k1 cs y0 y1 x0 x1 T264.heap n0 Z283 f270 f275 f271 f276 f272 f277 f273 f269 hcs (Ne.symm na0))) hZ (hw _ (List.mem_of_getElem? (i := 56) rfl)) (hw _ (List.mem_of_getElem? (i := 41) rfl)) (by decide) (by decide)) q319a q319c (g := (mkF m 373 #[.val (.int p0), .val (.long q1), .second, .val (.long q2), .second, .val (.long q3), .second, .val (.long q4), .second, .val (.int i9), .val (.int i10), .val (.int i11), .val (.int i12), .val (.int i13), .val (.ref s1), .val (.ref s2), .val (.int b16), .val (.long j17), .second, .val (.long l1), .second, .val (.long u1), .second, .val (.long j23), .second, .val (.long j25), .second, .val (.long (own_lmin j23 j25)), .second, .val (.long (own_lmax j23 j25)), .second, .val (.ref b205), .val (.ref b240), .val (.int (1 : Int32)), .val (.int (0 : Int32))] [(.ref b205), (.ref b240)])) rfl (by rw [hml]; rfl) (Steps.refl _) (argsL := [(.ref b205)]) (rest := []) (lenOf pd_8 rfl) rfl (by show 2 * 0 + _ ≤ _; exact Nat.le_of_eq rfl) (hb hby at_373) (fun _ _ => ⟨rfl, hs315, (by decide : 9 + 0 ≤ _), (by decide : 28 + 0 ≤ _)⟩)
              dsimp only [Pt.U, Pt.locs, Pt.cells, Pt.slots] at X318 l318 y318 z318 st318 hQ318
              subst l318 y318 z318
              obtain ⟨rfl, Nq318, hs318⟩ := hQ318
              have N320 := Fr.app N317 Nq318
              refine OFin.to (S' := T318.setTop (mkF m 376 #[.val (.int p0), .val (.long q1), .second, .val (.long q2), .second, .val (.long q3), .second, .val (.long q4), .second, .val (.int i9), .val (.int i10), .val (.int i11), .val (.int i12), .val (.int i13), .val (.ref s1), .val (.ref s2), .val (.int b16), .val (.long j17), .second, .val (.long l1), .second, .val (.long u1), .second, .val (.long j23), .second, .val (.long j25), .second, .val (.long (own_lmin j23 j25)), .second, .val (.long (own_lmax j23 j25)), .second, .val (.ref b205), .val (.ref b240), .val (.int (1 : Int32)), .val (.int (0 : Int32))] [(.int (own_cont (own_leq2 y0 y1 x0 x1) (own_lmin j23 j25) (own_lmax j23 j25) l1 u1))])) st318 ?_
              refine OFin.of (S' := T318.setTop (mkF m 385 #[.val (.int p0), .val (.long q1), .second, .val (.long q2), .second, .val (.long q3), .second, .val (.long q4), .second, .val (.int i9), .val (.int i10), .val (.int i11), .val (.int i12), .val (.int i13), .val (.ref s1), .val (.ref s2), .val (.int b16), .val (.long j17), .second, .val (.long l1), .second, .val (.long u1), .second, .val (.long j23), .second, .val (.long j25), .second, .val (.long (own_lmin j23 j25)), .second, .val (.long (own_lmax j23 j25)), .second, .val (.ref b205), .val (.ref b240), .val (.int (1 : Int32)), .val (.int (0 : Int32))] [(.ref b240), (.ref b240)])) (fun t ht => ?_) ?_
              · refine XS.iload X318.here hx rfl (hb hby at_376) rfl ?_
                show Steps p.tables e below (T318.setTop (mkF m 378 _ [(.int (0 : Int32)), (.int (own_cont (own_leq2 y0 y1 x0 x1) (own_lmin j23 j25) (own_lmax j23 j25) l1 u1))])) _
                refine XS.icmpNo X318.here hx rfl (hb hby at_378) rfl (teq (own_v2 hc305 : (own_cont (own_leq2 y0 y1 x0 x1) (own_lmin j23 j25) (own_lmax j23 j25) l1 u1) = (0 : Int32))).2 ?_
                show Steps p.tables e below (T318.setTop (mkF m 381 _ [])) _
                refine XS.aload X318.here hx rfl (hb hby at_381) rfl rfl ?_
                show Steps p.tables e below (T318.setTop (mkF m 383 _ [(.ref b240)])) _
                refine XS.aload X318.here hx rfl (hb hby at_383) rfl rfl ?_
                exact ht
              obtain ⟨cq322, kq322, q322a, q322b, q322c⟩ := isOf hZ hs318 f282
              obtain ⟨_, _, ⟨T321, L321, k321, n321⟩, -, X321, ⟨Lc321, hQ321, l321, y321, z321⟩, st321⟩ := X318.virtualBack hx (y := (⟨"com/example/greylag/greylag/model/Bundle", "contains", "(Lcom/example/greylag/greylag/model/Bundle;)Z"⟩ : MethodName)) (z := (⟨"com/example/greylag/greylag/model/Bundle", "contains", "(Lcom/example/greylag/greylag/model/Bundle;)Z"⟩ : MethodName)) hown (mvT hZ (hw _ (List.mem_of_getElem? (i := 52) rfl))) (mvT hZ (hw _ (List.mem_of_getElem? (i := 53) rfl))) (notFace_of_selects (args := #[]) (mvT hZ (hw _ (List.mem_of_getElem? (i := 55) rfl)))) (mvT hZ (hw _ (List.mem_of_getElem? (i := 55) rfl))) (mvT hZ (hw _ (List.mem_of_getElem? (i := 54) rfl))) (by decide) (backOf (W := 0) (rmCos l Z _ hw [] b240 b240 s2 (own_lmin j23 j25) (own_lmax j23 j25) (own_lmin j23 j25) (own_lmax j23 j25) (1 : Int32) T264.heap n0 Z283 f265 f265 f266 f266 f267 f267 f274 (rmEs l Z _ hw [] s2 T264.heap n0 Z283)) hZ (hw _ (List.mem_of_getElem? (i := 56) rfl)) (hw _ (List.mem_of_getElem? (i := 41) rfl)) (by decide) (by decide)) q322a q322c (g := (mkF m 385 #[.val (.int p0), .val (.long q1), .second, .val (.long q2), .second, .val (.long q3), .second, .val (.long q4), .second, .val (.int i9), .val (.int i10), .val (.int i11), .val (.int i12), .val (.int i13), .val (.ref s1), .val (.ref s2), .val (.int b16), .val (.long j17), .second, .val (.long l1), .second, .val (.long u1), .second, .val (.long j23), .second, .val (.long j25), .second, .val (.long (own_lmin j23 j25)), .second, .val (.long (own_lmax j23 j25)), .second, .val (.ref b205), .val (.ref b240), .val (.int (1 : Int32)), .val (.int (0 : Int32))] [(.ref b240), (.ref b240)])) rfl (by rw [hml]; rfl) (Steps.refl _) (argsL := [(.ref b240)]) (rest := []) (lenOf pd_8 rfl) rfl (by show 2 * 0 + _ ≤ _; exact Nat.le_of_eq rfl) (hb hby at_385) (fun _ _ => ⟨rfl, hs318, (by decide : 9 + 0 ≤ _), (by decide : 28 + 0 ≤ _)⟩)
              dsimp only [Pt.U, Pt.locs, Pt.cells, Pt.slots] at X321 l321 y321 z321 st321 hQ321
              subst l321 y321 z321
              obtain ⟨rfl, Nq321, hs321⟩ := hQ321
              have N323 := Fr.app N320 Nq321
              refine OFin.to (S' := T321.setTop (mkF m 388 #[.val (.int p0), .val (.long q1), .second, .val (.long q2), .second, .val (.long q3), .second, .val (.long q4), .second, .val (.int i9), .val (.int i10), .val (.int i11), .val (.int i12), .val (.int i13), .val (.ref s1), .val (.ref s2), .val (.int b16), .val (.long j17), .second, .val (.long l1), .second, .val (.long u1), .second, .val (.long j23), .second, .val (.long j25), .second, .val (.long (own_lmin j23 j25)), .second, .val (.long (own_lmax j23 j25)), .second, .val (.ref b205), .val (.ref b240), .val (.int (1 : Int32)), .val (.int (0 : Int32))] [(.int (own_cont (1 : Int32) (own_lmin j23 j25) (own_lmax j23 j25) (own_lmin j23 j25) (own_lmax j23 j25)))])) st321 ?_
              refine OFin.of (S' := T321.setTop (mkF m 396 #[.val (.int p0), .val (.long q1), .second, .val (.long q2), .second, .val (.long q3), .second, .val (.long q4), .second, .val (.int i9), .val (.int i10), .val (.int i11), .val (.int i12), .val (.int i13), .val (.ref s1), .val (.ref s2), .val (.int b16), .val (.long j17), .second, .val (.long l1), .second, .val (.long u1), .second, .val (.long j23), .second, .val (.long j25), .second, .val (.long (own_lmin j23 j25)), .second, .val (.long (own_lmax j23 j25)), .second, .val (.ref b205), .val (.ref b240), .val (.int (1 : Int32)), .val (.int (0 : Int32))] [(.int (1 : Int32))])) (fun t ht => ?_) ?_
              · refine XS.ifNo X321.here hx rfl (hb hby at_388) rfl ((if0 _ _).trans (feq (own_r3 _ _ : ¬ ((own_cont (1 : Int32) (own_lmin j23 j25) (own_lmax j23 j25) (own_lmin j23 j25) (own_lmax j23 j25)) = (0 : Int32)))).1) ?_
                show Steps p.tables e below (T321.setTop (mkF m 391 _ [])) _
                refine XS.iconst X321.here hx rfl (hb hby at_391) ?_
                show Steps p.tables e below (T321.setTop (mkF m 392 _ [(.int (1 : Int32))])) _
                refine XS.goto X321.here hx rfl (pc0 := 392) (pc' := 396) rfl (hb hby at_392) (by decide) (by decide) ?_
                exact ht
              exact OFin.retB X321 hx hlk (t := .boolean) (by simp) hret (hb hby at_396) (by decide) (by decide) (by rw [hs321]; exact hQ _ _ N323)
          · refine OFin.of (S' := T300.setTop (mkF m 361 #[.val (.int p0), .val (.long q1), .second, .val (.long q2), .second, .val (.long q3), .second, .val (.long q4), .second, .val (.int i9), .val (.int i10), .val (.int i11), .val (.int i12), .val (.int i13), .val (.ref s1), .val (.ref s2), .val (.int b16), .val (.long j17), .second, .val (.long l1), .second, .val (.long u1), .second, .val (.long j23), .second, .val (.long j25), .second, .val (.long (own_lmin j23 j25)), .second, .val (.long (own_lmax j23 j25)), .second, .val (.ref b205), .val (.ref b240), .val (.int (1 : Int32)), .val (.int (0 : Int32))] [(.ref b240), (.ref b205)])) (fun t ht => ?_) ?_
            · refine XS.ifYes X300.here hx rfl (pc0 := 334) (pc' := 354) rfl (hb hby at_334) rfl ((if0 _ _).trans (feq (hc302 : ¬ ((lcmpW (own_lmin l1 (own_lmin j23 j25)) (own_lmin j23 j25)) = (0 : Int32)))).2) (by decide) (by decide) ?_
              show Steps p.tables e below (T300.setTop (mkF m 354 _ [])) _
              refine XS.iconst X300.here hx rfl (hb hby at_354) ?_
              show Steps p.tables e below (T300.setTop (mkF m 355 _ [(.int (0 : Int32))])) _
              refine XS.istore X300.here hx rfl (hb hby at_355) rfl (l' := #[.val (.int p0), .val (.long q1), .second, .val (.long q2), .second, .val (.long q3), .second, .val (.long q4), .second, .val (.int i9), .val (.int i10), .val (.int i11), .val (.int i12), .val (.int i13), .val (.ref s1), .val (.ref s2), .val (.int b16), .val (.long j17), .second, .val (.long l1), .second, .val (.long u1), .second, .val (.long j23), .second, .val (.long j25), .second, .val (.long (own_lmin j23 j25)), .second, .val (.long (own_lmax j23 j25)), .second, .val (.ref b205), .val (.ref b240), .val (.int (1 : Int32)), .val (.int (0 : Int32))]) rfl ?_
              show Steps p.tables e below (T300.setTop (mkF m 357 #[.val (.int p0), .val (.long q1), .second, .val (.long q2), .second, .val (.long q3), .second, .val (.long q4), .second, .val (.int i9), .val (.int i10), .val (.int i11), .val (.int i12), .val (.int i13), .val (.ref s1), .val (.ref s2), .val (.int b16), .val (.long j17), .second, .val (.long l1), .second, .val (.long u1), .second, .val (.long j23), .second, .val (.long j25), .second, .val (.long (own_lmin j23 j25)), .second, .val (.long (own_lmax j23 j25)), .second, .val (.ref b205), .val (.ref b240), .val (.int (1 : Int32)), .val (.int (0 : Int32))] [])) _
              refine XS.aload X300.here hx rfl (hb hby at_357) rfl rfl ?_
              show Steps p.tables e below (T300.setTop (mkF m 359 _ [(.ref b205)])) _
              refine XS.aload X300.here hx rfl (hb hby at_359) rfl rfl ?_
              exact ht
            obtain ⟨cq325, kq325, q325a, q325b, q325c⟩ := isOf hZ hs300 f278
            obtain ⟨_, _, ⟨T324, L324, k324, n324⟩, -, X324, ⟨Lc324, hQ324, l324, y324, z324⟩, st324⟩ := X300.virtualBack hx (y := (⟨"com/example/greylag/greylag/model/Bundle", "contains", "(Lcom/example/greylag/greylag/model/Bundle;)Z"⟩ : MethodName)) (z := (⟨"com/example/greylag/greylag/model/Bundle", "contains", "(Lcom/example/greylag/greylag/model/Bundle;)Z"⟩ : MethodName)) hown (mvT hZ (hw _ (List.mem_of_getElem? (i := 52) rfl))) (mvT hZ (hw _ (List.mem_of_getElem? (i := 53) rfl))) (notFace_of_selects (args := #[]) (mvT hZ (hw _ (List.mem_of_getElem? (i := 55) rfl)))) (mvT hZ (hw _ (List.mem_of_getElem? (i := 55) rfl))) (mvT hZ (hw _ (List.mem_of_getElem? (i := 54) rfl))) (by decide) (backOf (W := 0) (rmCo22 l Z _ hw [] b205 b240 s1 s2 l1 u1 (own_lmin j23 j25) (own_lmax j23 j25) (own_leq2 x0 x1 y0 y1) T264.heap n0 Z283 f279 f265 f280 f266 f281 f267 f270 (rmEq22 l Z _ hw [] s1 s2 t1 t2 k1 k2 cs x0 x1 y0 y1 T264.heap n0 Z283 f274 f271 f275 f272 f276 f273 f277 f269 hcs na0)) hZ (hw _ (List.mem_of_getElem? (i := 56) rfl)) (hw _ (List.mem_of_getElem? (i := 41) rfl)) (by decide) (by decide)) q325a q325c (g := (mkF m 361 #[.val (.int p0), .val (.long q1), .second, .val (.long q2), .second, .val (.long q3), .second, .val (.long q4), .second, .val (.int i9), .val (.int i10), .val (.int i11), .val (.int i12), .val (.int i13), .val (.ref s1), .val (.ref s2), .val (.int b16), .val (.long j17), .second, .val (.long l1), .second, .val (.long u1), .second, .val (.long j23), .second, .val (.long j25), .second, .val (.long (own_lmin j23 j25)), .second, .val (.long (own_lmax j23 j25)), .second, .val (.ref b205), .val (.ref b240), .val (.int (1 : Int32)), .val (.int (0 : Int32))] [(.ref b240), (.ref b205)])) rfl (by rw [hml]; rfl) (Steps.refl _) (argsL := [(.ref b240)]) (rest := []) (lenOf pd_8 rfl) rfl (by show 2 * 0 + _ ≤ _; exact Nat.le_of_eq rfl) (hb hby at_361) (fun _ _ => ⟨rfl, hs300, (by decide : 9 + 0 ≤ _), (by decide : 28 + 0 ≤ _)⟩)
            dsimp only [Pt.U, Pt.locs, Pt.cells, Pt.slots] at X324 l324 y324 z324 st324 hQ324
            subst l324 y324 z324
            obtain ⟨rfl, Nq324, hs324⟩ := hQ324
            have N326 := Fr.app N301 Nq324
            refine OFin.to (S' := T324.setTop (mkF m 364 #[.val (.int p0), .val (.long q1), .second, .val (.long q2), .second, .val (.long q3), .second, .val (.long q4), .second, .val (.int i9), .val (.int i10), .val (.int i11), .val (.int i12), .val (.int i13), .val (.ref s1), .val (.ref s2), .val (.int b16), .val (.long j17), .second, .val (.long l1), .second, .val (.long u1), .second, .val (.long j23), .second, .val (.long j25), .second, .val (.long (own_lmin j23 j25)), .second, .val (.long (own_lmax j23 j25)), .second, .val (.ref b205), .val (.ref b240), .val (.int (1 : Int32)), .val (.int (0 : Int32))] [(.int (own_cont (own_leq2 x0 x1 y0 y1) l1 u1 (own_lmin j23 j25) (own_lmax j23 j25)))])) st324 ?_
            refine OFin.of (S' := T324.setTop (mkF m 373 #[.val (.int p0), .val (.long q1), .second, .val (.long q2), .second, .val (.long q3), .second, .val (.long q4), .second, .val (.int i9), .val (.int i10), .val (.int i11), .val (.int i12), .val (.int i13), .val (.ref s1), .val (.ref s2), .val (.int b16), .val (.long j17), .second, .val (.long l1), .second, .val (.long u1), .second, .val (.long j23), .second, .val (.long j25), .second, .val (.long (own_lmin j23 j25)), .second, .val (.long (own_lmax j23 j25)), .second, .val (.ref b205), .val (.ref b240), .val (.int (1 : Int32)), .val (.int (0 : Int32))] [(.ref b205), (.ref b240)])) (fun t ht => ?_) ?_
            · refine XS.iload X324.here hx rfl (hb hby at_364) rfl ?_
              show Steps p.tables e below (T324.setTop (mkF m 366 _ [(.int (1 : Int32)), (.int (own_cont (own_leq2 x0 x1 y0 y1) l1 u1 (own_lmin j23 j25) (own_lmax j23 j25)))])) _
              refine XS.icmpNo X324.here hx rfl (hb hby at_366) rfl (teq (own_t3 hE hc284 hc296 hc299 : (own_cont (own_leq2 x0 x1 y0 y1) l1 u1 (own_lmin j23 j25) (own_lmax j23 j25)) = (1 : Int32))).2 ?_
              show Steps p.tables e below (T324.setTop (mkF m 369 _ [])) _
              refine XS.aload X324.here hx rfl (hb hby at_369) rfl rfl ?_
              show Steps p.tables e below (T324.setTop (mkF m 371 _ [(.ref b240)])) _
              refine XS.aload X324.here hx rfl (hb hby at_371) rfl rfl ?_
              exact ht
            obtain ⟨cq328, kq328, q328a, q328b, q328c⟩ := isOf hZ hs324 f282
            obtain ⟨_, _, ⟨T327, L327, k327, n327⟩, -, X327, ⟨Lc327, hQ327, l327, y327, z327⟩, st327⟩ := X324.virtualBack hx (y := (⟨"com/example/greylag/greylag/model/Bundle", "contains", "(Lcom/example/greylag/greylag/model/Bundle;)Z"⟩ : MethodName)) (z := (⟨"com/example/greylag/greylag/model/Bundle", "contains", "(Lcom/example/greylag/greylag/model/Bundle;)Z"⟩ : MethodName)) hown (mvT hZ (hw _ (List.mem_of_getElem? (i := 52) rfl))) (mvT hZ (hw _ (List.mem_of_getElem? (i := 53) rfl))) (notFace_of_selects (args := #[]) (mvT hZ (hw _ (List.mem_of_getElem? (i := 55) rfl)))) (mvT hZ (hw _ (List.mem_of_getElem? (i := 55) rfl))) (mvT hZ (hw _ (List.mem_of_getElem? (i := 54) rfl))) (by decide) (backOf (W := 0) (rmCo22 l Z _ hw [] b240 b205 s2 s1 (own_lmin j23 j25) (own_lmax j23 j25) l1 u1 (own_leq2 y0 y1 x0 x1) T264.heap n0 Z283 f265 f279 f266 f280 f267 f281 f274 (rmEq22 l Z _ hw [] s2 s1 t2 t1 k2 k1 cs y0 y1 x0 x1 T264.heap n0 Z283 f270 f275 f271 f276 f272 f277 f273 f269 hcs (Ne.symm na0))) hZ (hw _ (List.mem_of_getElem? (i := 56) rfl)) (hw _ (List.mem_of_getElem? (i := 41) rfl)) (by decide) (by decide)) q328a q328c (g := (mkF m 373 #[.val (.int p0), .val (.long q1), .second, .val (.long q2), .second, .val (.long q3), .second, .val (.long q4), .second, .val (.int i9), .val (.int i10), .val (.int i11), .val (.int i12), .val (.int i13), .val (.ref s1), .val (.ref s2), .val (.int b16), .val (.long j17), .second, .val (.long l1), .second, .val (.long u1), .second, .val (.long j23), .second, .val (.long j25), .second, .val (.long (own_lmin j23 j25)), .second, .val (.long (own_lmax j23 j25)), .second, .val (.ref b205), .val (.ref b240), .val (.int (1 : Int32)), .val (.int (0 : Int32))] [(.ref b205), (.ref b240)])) rfl (by rw [hml]; rfl) (Steps.refl _) (argsL := [(.ref b205)]) (rest := []) (lenOf pd_8 rfl) rfl (by show 2 * 0 + _ ≤ _; exact Nat.le_of_eq rfl) (hb hby at_373) (fun _ _ => ⟨rfl, hs324, (by decide : 9 + 0 ≤ _), (by decide : 28 + 0 ≤ _)⟩)
            dsimp only [Pt.U, Pt.locs, Pt.cells, Pt.slots] at X327 l327 y327 z327 st327 hQ327
            subst l327 y327 z327
            obtain ⟨rfl, Nq327, hs327⟩ := hQ327
            have N329 := Fr.app N326 Nq327
            refine OFin.to (S' := T327.setTop (mkF m 376 #[.val (.int p0), .val (.long q1), .second, .val (.long q2), .second, .val (.long q3), .second, .val (.long q4), .second, .val (.int i9), .val (.int i10), .val (.int i11), .val (.int i12), .val (.int i13), .val (.ref s1), .val (.ref s2), .val (.int b16), .val (.long j17), .second, .val (.long l1), .second, .val (.long u1), .second, .val (.long j23), .second, .val (.long j25), .second, .val (.long (own_lmin j23 j25)), .second, .val (.long (own_lmax j23 j25)), .second, .val (.ref b205), .val (.ref b240), .val (.int (1 : Int32)), .val (.int (0 : Int32))] [(.int (own_cont (own_leq2 y0 y1 x0 x1) (own_lmin j23 j25) (own_lmax j23 j25) l1 u1))])) st327 ?_
            refine OFin.of (S' := T327.setTop (mkF m 385 #[.val (.int p0), .val (.long q1), .second, .val (.long q2), .second, .val (.long q3), .second, .val (.long q4), .second, .val (.int i9), .val (.int i10), .val (.int i11), .val (.int i12), .val (.int i13), .val (.ref s1), .val (.ref s2), .val (.int b16), .val (.long j17), .second, .val (.long l1), .second, .val (.long u1), .second, .val (.long j23), .second, .val (.long j25), .second, .val (.long (own_lmin j23 j25)), .second, .val (.long (own_lmax j23 j25)), .second, .val (.ref b205), .val (.ref b240), .val (.int (1 : Int32)), .val (.int (0 : Int32))] [(.ref b240), (.ref b240)])) (fun t ht => ?_) ?_
            · refine XS.iload X327.here hx rfl (hb hby at_376) rfl ?_
              show Steps p.tables e below (T327.setTop (mkF m 378 _ [(.int (0 : Int32)), (.int (own_cont (own_leq2 y0 y1 x0 x1) (own_lmin j23 j25) (own_lmax j23 j25) l1 u1))])) _
              refine XS.icmpNo X327.here hx rfl (hb hby at_378) rfl (teq (own_v1 hc302 : (own_cont (own_leq2 y0 y1 x0 x1) (own_lmin j23 j25) (own_lmax j23 j25) l1 u1) = (0 : Int32))).2 ?_
              show Steps p.tables e below (T327.setTop (mkF m 381 _ [])) _
              refine XS.aload X327.here hx rfl (hb hby at_381) rfl rfl ?_
              show Steps p.tables e below (T327.setTop (mkF m 383 _ [(.ref b240)])) _
              refine XS.aload X327.here hx rfl (hb hby at_383) rfl rfl ?_
              exact ht
            obtain ⟨cq331, kq331, q331a, q331b, q331c⟩ := isOf hZ hs327 f282
            obtain ⟨_, _, ⟨T330, L330, k330, n330⟩, -, X330, ⟨Lc330, hQ330, l330, y330, z330⟩, st330⟩ := X327.virtualBack hx (y := (⟨"com/example/greylag/greylag/model/Bundle", "contains", "(Lcom/example/greylag/greylag/model/Bundle;)Z"⟩ : MethodName)) (z := (⟨"com/example/greylag/greylag/model/Bundle", "contains", "(Lcom/example/greylag/greylag/model/Bundle;)Z"⟩ : MethodName)) hown (mvT hZ (hw _ (List.mem_of_getElem? (i := 52) rfl))) (mvT hZ (hw _ (List.mem_of_getElem? (i := 53) rfl))) (notFace_of_selects (args := #[]) (mvT hZ (hw _ (List.mem_of_getElem? (i := 55) rfl)))) (mvT hZ (hw _ (List.mem_of_getElem? (i := 55) rfl))) (mvT hZ (hw _ (List.mem_of_getElem? (i := 54) rfl))) (by decide) (backOf (W := 0) (rmCos l Z _ hw [] b240 b240 s2 (own_lmin j23 j25) (own_lmax j23 j25) (own_lmin j23 j25) (own_lmax j23 j25) (1 : Int32) T264.heap n0 Z283 f265 f265 f266 f266 f267 f267 f274 (rmEs l Z _ hw [] s2 T264.heap n0 Z283)) hZ (hw _ (List.mem_of_getElem? (i := 56) rfl)) (hw _ (List.mem_of_getElem? (i := 41) rfl)) (by decide) (by decide)) q331a q331c (g := (mkF m 385 #[.val (.int p0), .val (.long q1), .second, .val (.long q2), .second, .val (.long q3), .second, .val (.long q4), .second, .val (.int i9), .val (.int i10), .val (.int i11), .val (.int i12), .val (.int i13), .val (.ref s1), .val (.ref s2), .val (.int b16), .val (.long j17), .second, .val (.long l1), .second, .val (.long u1), .second, .val (.long j23), .second, .val (.long j25), .second, .val (.long (own_lmin j23 j25)), .second, .val (.long (own_lmax j23 j25)), .second, .val (.ref b205), .val (.ref b240), .val (.int (1 : Int32)), .val (.int (0 : Int32))] [(.ref b240), (.ref b240)])) rfl (by rw [hml]; rfl) (Steps.refl _) (argsL := [(.ref b240)]) (rest := []) (lenOf pd_8 rfl) rfl (by show 2 * 0 + _ ≤ _; exact Nat.le_of_eq rfl) (hb hby at_385) (fun _ _ => ⟨rfl, hs327, (by decide : 9 + 0 ≤ _), (by decide : 28 + 0 ≤ _)⟩)
            dsimp only [Pt.U, Pt.locs, Pt.cells, Pt.slots] at X330 l330 y330 z330 st330 hQ330
            subst l330 y330 z330
            obtain ⟨rfl, Nq330, hs330⟩ := hQ330
            have N332 := Fr.app N329 Nq330
            refine OFin.to (S' := T330.setTop (mkF m 388 #[.val (.int p0), .val (.long q1), .second, .val (.long q2), .second, .val (.long q3), .second, .val (.long q4), .second, .val (.int i9), .val (.int i10), .val (.int i11), .val (.int i12), .val (.int i13), .val (.ref s1), .val (.ref s2), .val (.int b16), .val (.long j17), .second, .val (.long l1), .second, .val (.long u1), .second, .val (.long j23), .second, .val (.long j25), .second, .val (.long (own_lmin j23 j25)), .second, .val (.long (own_lmax j23 j25)), .second, .val (.ref b205), .val (.ref b240), .val (.int (1 : Int32)), .val (.int (0 : Int32))] [(.int (own_cont (1 : Int32) (own_lmin j23 j25) (own_lmax j23 j25) (own_lmin j23 j25) (own_lmax j23 j25)))])) st330 ?_
            refine OFin.of (S' := T330.setTop (mkF m 396 #[.val (.int p0), .val (.long q1), .second, .val (.long q2), .second, .val (.long q3), .second, .val (.long q4), .second, .val (.int i9), .val (.int i10), .val (.int i11), .val (.int i12), .val (.int i13), .val (.ref s1), .val (.ref s2), .val (.int b16), .val (.long j17), .second, .val (.long l1), .second, .val (.long u1), .second, .val (.long j23), .second, .val (.long j25), .second, .val (.long (own_lmin j23 j25)), .second, .val (.long (own_lmax j23 j25)), .second, .val (.ref b205), .val (.ref b240), .val (.int (1 : Int32)), .val (.int (0 : Int32))] [(.int (1 : Int32))])) (fun t ht => ?_) ?_
            · refine XS.ifNo X330.here hx rfl (hb hby at_388) rfl ((if0 _ _).trans (feq (own_r3 _ _ : ¬ ((own_cont (1 : Int32) (own_lmin j23 j25) (own_lmax j23 j25) (own_lmin j23 j25) (own_lmax j23 j25)) = (0 : Int32)))).1) ?_
              show Steps p.tables e below (T330.setTop (mkF m 391 _ [])) _
              refine XS.iconst X330.here hx rfl (hb hby at_391) ?_
              show Steps p.tables e below (T330.setTop (mkF m 392 _ [(.int (1 : Int32))])) _
              refine XS.goto X330.here hx rfl (pc0 := 392) (pc' := 396) rfl (hb hby at_392) (by decide) (by decide) ?_
              exact ht
            exact OFin.retB X330 hx hlk (t := .boolean) (by simp) hret (hb hby at_396) (by decide) (by decide) (by rw [hs330]; exact hQ _ _ N332)
        · refine OFin.of (S' := T297.setTop (mkF m 328 #[.val (.int p0), .val (.long q1), .second, .val (.long q2), .second, .val (.long q3), .second, .val (.long q4), .second, .val (.int i9), .val (.int i10), .val (.int i11), .val (.int i12), .val (.int i13), .val (.ref s1), .val (.ref s2), .val (.int b16), .val (.long j17), .second, .val (.long l1), .second, .val (.long u1), .second, .val (.long j23), .second, .val (.long j25), .second, .val (.long (own_lmin j23 j25)), .second, .val (.long (own_lmax j23 j25)), .second, .val (.ref b205), .val (.ref b240), .val (.int (0 : Int32)), .unset] [(.long (own_lmin j23 j25)), (.long l1)])) (fun t ht => ?_) ?_
          · refine XS.ifYes X297.here hx rfl (pc0 := 309) (pc' := 316) rfl (hb hby at_309) rfl ((if0 _ _).trans (feq (hc299 : ¬ ((lcmpW (own_lmax u1 (own_lmax j23 j25)) u1) = (0 : Int32)))).2) (by decide) (by decide) ?_
            show Steps p.tables e below (T297.setTop (mkF m 316 _ [])) _
            refine XS.iconst X297.here hx rfl (hb hby at_316) ?_
            show Steps p.tables e below (T297.setTop (mkF m 317 _ [(.int (0 : Int32))])) _
            refine XS.istore X297.here hx rfl (hb hby at_317) rfl (l' := #[.val (.int p0), .val (.long q1), .second, .val (.long q2), .second, .val (.long q3), .second, .val (.long q4), .second, .val (.int i9), .val (.int i10), .val (.int i11), .val (.int i12), .val (.int i13), .val (.ref s1), .val (.ref s2), .val (.int b16), .val (.long j17), .second, .val (.long l1), .second, .val (.long u1), .second, .val (.long j23), .second, .val (.long j25), .second, .val (.long (own_lmin j23 j25)), .second, .val (.long (own_lmax j23 j25)), .second, .val (.ref b205), .val (.ref b240), .val (.int (0 : Int32)), .unset]) rfl ?_
            show Steps p.tables e below (T297.setTop (mkF m 319 #[.val (.int p0), .val (.long q1), .second, .val (.long q2), .second, .val (.long q3), .second, .val (.long q4), .second, .val (.int i9), .val (.int i10), .val (.int i11), .val (.int i12), .val (.int i13), .val (.ref s1), .val (.ref s2), .val (.int b16), .val (.long j17), .second, .val (.long l1), .second, .val (.long u1), .second, .val (.long j23), .second, .val (.long j25), .second, .val (.long (own_lmin j23 j25)), .second, .val (.long (own_lmax j23 j25)), .second, .val (.ref b205), .val (.ref b240), .val (.int (0 : Int32)), .unset] [])) _
            refine XS.iload X297.here hx rfl (hb hby at_319) rfl ?_
            show Steps p.tables e below (T297.setTop (mkF m 321 _ [(.int b16)])) _
            refine XS.ifNo X297.here hx rfl (hb hby at_321) rfl ((if0 _ _).trans (feq (hc284 : ¬ (b16 = (0 : Int32)))).1) ?_
            show Steps p.tables e below (T297.setTop (mkF m 324 _ [])) _
            refine XS.lload X297.here hx rfl (hb hby at_324) rfl ?_
            show Steps p.tables e below (T297.setTop (mkF m 326 _ [(.long l1)])) _
            refine XS.lload X297.here hx rfl (hb hby at_326) rfl ?_
            exact ht
          obtain ⟨_, _, ⟨T333, L333, k333, n333⟩, -, X333, ⟨Lc333, hQ333, l333, y333, z333⟩, st333⟩ := Jvm.LawKit.callS X297 hx (y := (⟨"java/lang/Math", "min", "(JJ)J"⟩ : MethodName)) hown (mvT hZ (hw _ (List.mem_of_getElem? (i := 32) rfl))) (mvT hZ (hw _ (List.mem_of_getElem? (i := 33) rfl))) (mvT hZ (hw _ (List.mem_of_getElem? (i := 34) rfl))) (mvT hZ (hw _ (List.mem_of_getElem? (i := 35) rfl))) (by decide) (backOf (W := 0) (rmMn l Z _ hw [] l1 (own_lmin j23 j25) T264.heap n0 Z283 ) hZ (hw _ (List.mem_of_getElem? (i := 35) rfl)) (hw _ (List.mem_of_getElem? (i := 34) rfl)) (by decide) (by decide)) (g := (mkF m 328 #[.val (.int p0), .val (.long q1), .second, .val (.long q2), .second, .val (.long q3), .second, .val (.long q4), .second, .val (.int i9), .val (.int i10), .val (.int i11), .val (.int i12), .val (.int i13), .val (.ref s1), .val (.ref s2), .val (.int b16), .val (.long j17), .second, .val (.long l1), .second, .val (.long u1), .second, .val (.long j23), .second, .val (.long j25), .second, .val (.long (own_lmin j23 j25)), .second, .val (.long (own_lmax j23 j25)), .second, .val (.ref b205), .val (.ref b240), .val (.int (0 : Int32)), .unset] [(.long (own_lmin j23 j25)), (.long l1)])) rfl (by rw [hml]; rfl) (argsL := [(.long l1), (.long (own_lmin j23 j25))]) (rest := []) (lenOf pd_6 rfl) rfl (by show 2 * 0 + _ ≤ _; exact Nat.le_of_eq rfl) (hb hby at_328) (fun _ _ => ⟨rfl, hs297, (by decide : 9 + 0 ≤ _), (by decide : 28 + 0 ≤ _)⟩)
          dsimp only [Pt.U, Pt.locs, Pt.cells, Pt.slots] at X333 l333 y333 z333 st333 hQ333
          subst l333 y333 z333
          obtain ⟨rfl, Nq333, hs333⟩ := hQ333
          have N334 := Fr.app N298 Nq333
          refine OFin.of (S' := T333.setTop (mkF m 331 #[.val (.int p0), .val (.long q1), .second, .val (.long q2), .second, .val (.long q3), .second, .val (.long q4), .second, .val (.int i9), .val (.int i10), .val (.int i11), .val (.int i12), .val (.int i13), .val (.ref s1), .val (.ref s2), .val (.int b16), .val (.long j17), .second, .val (.long l1), .second, .val (.long u1), .second, .val (.long j23), .second, .val (.long j25), .second, .val (.long (own_lmin j23 j25)), .second, .val (.long (own_lmax j23 j25)), .second, .val (.ref b205), .val (.ref b240), .val (.int (0 : Int32)), .unset] [(.long (own_lmin l1 (own_lmin j23 j25)))])) (fun t ht => st333 t ht) ?_
          refine OFin.of (S' := T333.setTop (mkF m 334 #[.val (.int p0), .val (.long q1), .second, .val (.long q2), .second, .val (.long q3), .second, .val (.long q4), .second, .val (.int i9), .val (.int i10), .val (.int i11), .val (.int i12), .val (.int i13), .val (.ref s1), .val (.ref s2), .val (.int b16), .val (.long j17), .second, .val (.long l1), .second, .val (.long u1), .second, .val (.long j23), .second, .val (.long j25), .second, .val (.long (own_lmin j23 j25)), .second, .val (.long (own_lmax j23 j25)), .second, .val (.ref b205), .val (.ref b240), .val (.int (0 : Int32)), .unset] [(.int (lcmpW (own_lmin l1 (own_lmin j23 j25)) (own_lmin j23 j25)))])) (fun t ht => ?_) ?_
          · refine XS.lload X333.here hx rfl (hb hby at_331) rfl ?_
            show Steps p.tables e below (T333.setTop (mkF m 333 _ [(.long (own_lmin j23 j25)), (.long (own_lmin l1 (own_lmin j23 j25)))])) _
            refine XS.lcmp X333.here hx rfl (hb hby at_333) rfl ?_
            exact ht
          by_cases hc335 : (lcmpW (own_lmin l1 (own_lmin j23 j25)) (own_lmin j23 j25)) = (0 : Int32)
          · refine OFin.of (S' := T333.setTop (mkF m 341 #[.val (.int p0), .val (.long q1), .second, .val (.long q2), .second, .val (.long q3), .second, .val (.long q4), .second, .val (.int i9), .val (.int i10), .val (.int i11), .val (.int i12), .val (.int i13), .val (.ref s1), .val (.ref s2), .val (.int b16), .val (.long j17), .second, .val (.long l1), .second, .val (.long u1), .second, .val (.long j23), .second, .val (.long j25), .second, .val (.long (own_lmin j23 j25)), .second, .val (.long (own_lmax j23 j25)), .second, .val (.ref b205), .val (.ref b240), .val (.int (0 : Int32)), .unset] [(.long (own_lmax j23 j25)), (.long u1)])) (fun t ht => ?_) ?_
            · refine XS.ifNo X333.here hx rfl (hb hby at_334) rfl ((if0 _ _).trans (teq (hc335 : (lcmpW (own_lmin l1 (own_lmin j23 j25)) (own_lmin j23 j25)) = (0 : Int32))).2) ?_
              show Steps p.tables e below (T333.setTop (mkF m 337 _ [])) _
              refine XS.lload X333.here hx rfl (hb hby at_337) rfl ?_
              show Steps p.tables e below (T333.setTop (mkF m 339 _ [(.long u1)])) _
              refine XS.lload X333.here hx rfl (hb hby at_339) rfl ?_
              exact ht
            obtain ⟨_, _, ⟨T336, L336, k336, n336⟩, -, X336, ⟨Lc336, hQ336, l336, y336, z336⟩, st336⟩ := Jvm.LawKit.callS X333 hx (y := (⟨"java/lang/Math", "max", "(JJ)J"⟩ : MethodName)) hown (mvT hZ (hw _ (List.mem_of_getElem? (i := 36) rfl))) (mvT hZ (hw _ (List.mem_of_getElem? (i := 37) rfl))) (mvT hZ (hw _ (List.mem_of_getElem? (i := 34) rfl))) (mvT hZ (hw _ (List.mem_of_getElem? (i := 38) rfl))) (by decide) (backOf (W := 0) (rmMx l Z _ hw [] u1 (own_lmax j23 j25) T264.heap n0 Z283 ) hZ (hw _ (List.mem_of_getElem? (i := 38) rfl)) (hw _ (List.mem_of_getElem? (i := 34) rfl)) (by decide) (by decide)) (g := (mkF m 341 #[.val (.int p0), .val (.long q1), .second, .val (.long q2), .second, .val (.long q3), .second, .val (.long q4), .second, .val (.int i9), .val (.int i10), .val (.int i11), .val (.int i12), .val (.int i13), .val (.ref s1), .val (.ref s2), .val (.int b16), .val (.long j17), .second, .val (.long l1), .second, .val (.long u1), .second, .val (.long j23), .second, .val (.long j25), .second, .val (.long (own_lmin j23 j25)), .second, .val (.long (own_lmax j23 j25)), .second, .val (.ref b205), .val (.ref b240), .val (.int (0 : Int32)), .unset] [(.long (own_lmax j23 j25)), (.long u1)])) rfl (by rw [hml]; rfl) (argsL := [(.long u1), (.long (own_lmax j23 j25))]) (rest := []) (lenOf pd_6 rfl) rfl (by show 2 * 0 + _ ≤ _; exact Nat.le_of_eq rfl) (hb hby at_341) (fun _ _ => ⟨rfl, hs333, (by decide : 9 + 0 ≤ _), (by decide : 28 + 0 ≤ _)⟩)
            dsimp only [Pt.U, Pt.locs, Pt.cells, Pt.slots] at X336 l336 y336 z336 st336 hQ336
            subst l336 y336 z336
            obtain ⟨rfl, Nq336, hs336⟩ := hQ336
            have N337 := Fr.app N334 Nq336
            refine OFin.of (S' := T336.setTop (mkF m 344 #[.val (.int p0), .val (.long q1), .second, .val (.long q2), .second, .val (.long q3), .second, .val (.long q4), .second, .val (.int i9), .val (.int i10), .val (.int i11), .val (.int i12), .val (.int i13), .val (.ref s1), .val (.ref s2), .val (.int b16), .val (.long j17), .second, .val (.long l1), .second, .val (.long u1), .second, .val (.long j23), .second, .val (.long j25), .second, .val (.long (own_lmin j23 j25)), .second, .val (.long (own_lmax j23 j25)), .second, .val (.ref b205), .val (.ref b240), .val (.int (0 : Int32)), .unset] [(.long (own_lmax u1 (own_lmax j23 j25)))])) (fun t ht => st336 t ht) ?_
            refine OFin.of (S' := T336.setTop (mkF m 347 #[.val (.int p0), .val (.long q1), .second, .val (.long q2), .second, .val (.long q3), .second, .val (.long q4), .second, .val (.int i9), .val (.int i10), .val (.int i11), .val (.int i12), .val (.int i13), .val (.ref s1), .val (.ref s2), .val (.int b16), .val (.long j17), .second, .val (.long l1), .second, .val (.long u1), .second, .val (.long j23), .second, .val (.long j25), .second, .val (.long (own_lmin j23 j25)), .second, .val (.long (own_lmax j23 j25)), .second, .val (.ref b205), .val (.ref b240), .val (.int (0 : Int32)), .unset] [(.int (lcmpW (own_lmax u1 (own_lmax j23 j25)) (own_lmax j23 j25)))])) (fun t ht => ?_) ?_
            · refine XS.lload X336.here hx rfl (hb hby at_344) rfl ?_
              show Steps p.tables e below (T336.setTop (mkF m 346 _ [(.long (own_lmax j23 j25)), (.long (own_lmax u1 (own_lmax j23 j25)))])) _
              refine XS.lcmp X336.here hx rfl (hb hby at_346) rfl ?_
              exact ht
            by_cases hc338 : (lcmpW (own_lmax u1 (own_lmax j23 j25)) (own_lmax j23 j25)) = (0 : Int32)
            · refine OFin.of (S' := T336.setTop (mkF m 361 #[.val (.int p0), .val (.long q1), .second, .val (.long q2), .second, .val (.long q3), .second, .val (.long q4), .second, .val (.int i9), .val (.int i10), .val (.int i11), .val (.int i12), .val (.int i13), .val (.ref s1), .val (.ref s2), .val (.int b16), .val (.long j17), .second, .val (.long l1), .second, .val (.long u1), .second, .val (.long j23), .second, .val (.long j25), .second, .val (.long (own_lmin j23 j25)), .second, .val (.long (own_lmax j23 j25)), .second, .val (.ref b205), .val (.ref b240), .val (.int (0 : Int32)), .val (.int (1 : Int32))] [(.ref b240), (.ref b205)])) (fun t ht => ?_) ?_
              · refine XS.ifNo X336.here hx rfl (hb hby at_347) rfl ((if0 _ _).trans (teq (hc338 : (lcmpW (own_lmax u1 (own_lmax j23 j25)) (own_lmax j23 j25)) = (0 : Int32))).2) ?_
                show Steps p.tables e below (T336.setTop (mkF m 350 _ [])) _
                refine XS.iconst X336.here hx rfl (hb hby at_350) ?_
                show Steps p.tables e below (T336.setTop (mkF m 351 _ [(.int (1 : Int32))])) _
                refine XS.goto X336.here hx rfl (pc0 := 351) (pc' := 355) rfl (hb hby at_351) (by decide) (by decide) ?_
                show Steps p.tables e below (T336.setTop (mkF m 355 _ [(.int (1 : Int32))])) _
                refine XS.istore X336.here hx rfl (hb hby at_355) rfl (l' := #[.val (.int p0), .val (.long q1), .second, .val (.long q2), .second, .val (.long q3), .second, .val (.long q4), .second, .val (.int i9), .val (.int i10), .val (.int i11), .val (.int i12), .val (.int i13), .val (.ref s1), .val (.ref s2), .val (.int b16), .val (.long j17), .second, .val (.long l1), .second, .val (.long u1), .second, .val (.long j23), .second, .val (.long j25), .second, .val (.long (own_lmin j23 j25)), .second, .val (.long (own_lmax j23 j25)), .second, .val (.ref b205), .val (.ref b240), .val (.int (0 : Int32)), .val (.int (1 : Int32))]) rfl ?_
                show Steps p.tables e below (T336.setTop (mkF m 357 #[.val (.int p0), .val (.long q1), .second, .val (.long q2), .second, .val (.long q3), .second, .val (.long q4), .second, .val (.int i9), .val (.int i10), .val (.int i11), .val (.int i12), .val (.int i13), .val (.ref s1), .val (.ref s2), .val (.int b16), .val (.long j17), .second, .val (.long l1), .second, .val (.long u1), .second, .val (.long j23), .second, .val (.long j25), .second, .val (.long (own_lmin j23 j25)), .second, .val (.long (own_lmax j23 j25)), .second, .val (.ref b205), .val (.ref b240), .val (.int (0 : Int32)), .val (.int (1 : Int32))] [])) _
                refine XS.aload X336.here hx rfl (hb hby at_357) rfl rfl ?_
                show Steps p.tables e below (T336.setTop (mkF m 359 _ [(.ref b205)])) _
                refine XS.aload X336.here hx rfl (hb hby at_359) rfl rfl ?_
                exact ht
              obtain ⟨cq340, kq340, q340a, q340b, q340c⟩ := isOf hZ hs336 f278
              obtain ⟨_, _, ⟨T339, L339, k339, n339⟩, -, X339, ⟨Lc339, hQ339, l339, y339, z339⟩, st339⟩ := X336.virtualBack hx (y := (⟨"com/example/greylag/greylag/model/Bundle", "contains", "(Lcom/example/greylag/greylag/model/Bundle;)Z"⟩ : MethodName)) (z := (⟨"com/example/greylag/greylag/model/Bundle", "contains", "(Lcom/example/greylag/greylag/model/Bundle;)Z"⟩ : MethodName)) hown (mvT hZ (hw _ (List.mem_of_getElem? (i := 52) rfl))) (mvT hZ (hw _ (List.mem_of_getElem? (i := 53) rfl))) (notFace_of_selects (args := #[]) (mvT hZ (hw _ (List.mem_of_getElem? (i := 55) rfl)))) (mvT hZ (hw _ (List.mem_of_getElem? (i := 55) rfl))) (mvT hZ (hw _ (List.mem_of_getElem? (i := 54) rfl))) (by decide) (backOf (W := 0) (rmCo22 l Z _ hw [] b205 b240 s1 s2 l1 u1 (own_lmin j23 j25) (own_lmax j23 j25) (own_leq2 x0 x1 y0 y1) T264.heap n0 Z283 f279 f265 f280 f266 f281 f267 f270 (rmEq22 l Z _ hw [] s1 s2 t1 t2 k1 k2 cs x0 x1 y0 y1 T264.heap n0 Z283 f274 f271 f275 f272 f276 f273 f277 f269 hcs na0)) hZ (hw _ (List.mem_of_getElem? (i := 56) rfl)) (hw _ (List.mem_of_getElem? (i := 41) rfl)) (by decide) (by decide)) q340a q340c (g := (mkF m 361 #[.val (.int p0), .val (.long q1), .second, .val (.long q2), .second, .val (.long q3), .second, .val (.long q4), .second, .val (.int i9), .val (.int i10), .val (.int i11), .val (.int i12), .val (.int i13), .val (.ref s1), .val (.ref s2), .val (.int b16), .val (.long j17), .second, .val (.long l1), .second, .val (.long u1), .second, .val (.long j23), .second, .val (.long j25), .second, .val (.long (own_lmin j23 j25)), .second, .val (.long (own_lmax j23 j25)), .second, .val (.ref b205), .val (.ref b240), .val (.int (0 : Int32)), .val (.int (1 : Int32))] [(.ref b240), (.ref b205)])) rfl (by rw [hml]; rfl) (Steps.refl _) (argsL := [(.ref b240)]) (rest := []) (lenOf pd_8 rfl) rfl (by show 2 * 0 + _ ≤ _; exact Nat.le_of_eq rfl) (hb hby at_361) (fun _ _ => ⟨rfl, hs336, (by decide : 9 + 0 ≤ _), (by decide : 28 + 0 ≤ _)⟩)
              dsimp only [Pt.U, Pt.locs, Pt.cells, Pt.slots] at X339 l339 y339 z339 st339 hQ339
              subst l339 y339 z339
              obtain ⟨rfl, Nq339, hs339⟩ := hQ339
              have N341 := Fr.app N337 Nq339
              refine OFin.to (S' := T339.setTop (mkF m 364 #[.val (.int p0), .val (.long q1), .second, .val (.long q2), .second, .val (.long q3), .second, .val (.long q4), .second, .val (.int i9), .val (.int i10), .val (.int i11), .val (.int i12), .val (.int i13), .val (.ref s1), .val (.ref s2), .val (.int b16), .val (.long j17), .second, .val (.long l1), .second, .val (.long u1), .second, .val (.long j23), .second, .val (.long j25), .second, .val (.long (own_lmin j23 j25)), .second, .val (.long (own_lmax j23 j25)), .second, .val (.ref b205), .val (.ref b240), .val (.int (0 : Int32)), .val (.int (1 : Int32))] [(.int (own_cont (own_leq2 x0 x1 y0 y1) l1 u1 (own_lmin j23 j25) (own_lmax j23 j25)))])) st339 ?_
              refine OFin.of (S' := T339.setTop (mkF m 373 #[.val (.int p0), .val (.long q1), .second, .val (.long q2), .second, .val (.long q3), .second, .val (.long q4), .second, .val (.int i9), .val (.int i10), .val (.int i11), .val (.int i12), .val (.int i13), .val (.ref s1), .val (.ref s2), .val (.int b16), .val (.long j17), .second, .val (.long l1), .second, .val (.long u1), .second, .val (.long j23), .second, .val (.long j25), .second, .val (.long (own_lmin j23 j25)), .second, .val (.long (own_lmax j23 j25)), .second, .val (.ref b205), .val (.ref b240), .val (.int (0 : Int32)), .val (.int (1 : Int32))] [(.ref b205), (.ref b240)])) (fun t ht => ?_) ?_
              · refine XS.iload X339.here hx rfl (hb hby at_364) rfl ?_
                show Steps p.tables e below (T339.setTop (mkF m 366 _ [(.int (0 : Int32)), (.int (own_cont (own_leq2 x0 x1 y0 y1) l1 u1 (own_lmin j23 j25) (own_lmax j23 j25)))])) _
                refine XS.icmpNo X339.here hx rfl (hb hby at_366) rfl (teq (own_t2 hc299 : (own_cont (own_leq2 x0 x1 y0 y1) l1 u1 (own_lmin j23 j25) (own_lmax j23 j25)) = (0 : Int32))).2 ?_
                show Steps p.tables e below (T339.setTop (mkF m 369 _ [])) _
                refine XS.aload X339.here hx rfl (hb hby at_369) rfl rfl ?_
                show Steps p.tables e below (T339.setTop (mkF m 371 _ [(.ref b240)])) _
                refine XS.aload X339.here hx rfl (hb hby at_371) rfl rfl ?_
                exact ht
              obtain ⟨cq343, kq343, q343a, q343b, q343c⟩ := isOf hZ hs339 f282
              obtain ⟨_, _, ⟨T342, L342, k342, n342⟩, -, X342, ⟨Lc342, hQ342, l342, y342, z342⟩, st342⟩ := X339.virtualBack hx (y := (⟨"com/example/greylag/greylag/model/Bundle", "contains", "(Lcom/example/greylag/greylag/model/Bundle;)Z"⟩ : MethodName)) (z := (⟨"com/example/greylag/greylag/model/Bundle", "contains", "(Lcom/example/greylag/greylag/model/Bundle;)Z"⟩ : MethodName)) hown (mvT hZ (hw _ (List.mem_of_getElem? (i := 52) rfl))) (mvT hZ (hw _ (List.mem_of_getElem? (i := 53) rfl))) (notFace_of_selects (args := #[]) (mvT hZ (hw _ (List.mem_of_getElem? (i := 55) rfl)))) (mvT hZ (hw _ (List.mem_of_getElem? (i := 55) rfl))) (mvT hZ (hw _ (List.mem_of_getElem? (i := 54) rfl))) (by decide) (backOf (W := 0) (rmCo22 l Z _ hw [] b240 b205 s2 s1 (own_lmin j23 j25) (own_lmax j23 j25) l1 u1 (own_leq2 y0 y1 x0 x1) T264.heap n0 Z283 f265 f279 f266 f280 f267 f281 f274 (rmEq22 l Z _ hw [] s2 s1 t2 t1 k2 k1 cs y0 y1 x0 x1 T264.heap n0 Z283 f270 f275 f271 f276 f272 f277 f273 f269 hcs (Ne.symm na0))) hZ (hw _ (List.mem_of_getElem? (i := 56) rfl)) (hw _ (List.mem_of_getElem? (i := 41) rfl)) (by decide) (by decide)) q343a q343c (g := (mkF m 373 #[.val (.int p0), .val (.long q1), .second, .val (.long q2), .second, .val (.long q3), .second, .val (.long q4), .second, .val (.int i9), .val (.int i10), .val (.int i11), .val (.int i12), .val (.int i13), .val (.ref s1), .val (.ref s2), .val (.int b16), .val (.long j17), .second, .val (.long l1), .second, .val (.long u1), .second, .val (.long j23), .second, .val (.long j25), .second, .val (.long (own_lmin j23 j25)), .second, .val (.long (own_lmax j23 j25)), .second, .val (.ref b205), .val (.ref b240), .val (.int (0 : Int32)), .val (.int (1 : Int32))] [(.ref b205), (.ref b240)])) rfl (by rw [hml]; rfl) (Steps.refl _) (argsL := [(.ref b205)]) (rest := []) (lenOf pd_8 rfl) rfl (by show 2 * 0 + _ ≤ _; exact Nat.le_of_eq rfl) (hb hby at_373) (fun _ _ => ⟨rfl, hs339, (by decide : 9 + 0 ≤ _), (by decide : 28 + 0 ≤ _)⟩)
              dsimp only [Pt.U, Pt.locs, Pt.cells, Pt.slots] at X342 l342 y342 z342 st342 hQ342
              subst l342 y342 z342
              obtain ⟨rfl, Nq342, hs342⟩ := hQ342
              have N344 := Fr.app N341 Nq342
              refine OFin.to (S' := T342.setTop (mkF m 376 #[.val (.int p0), .val (.long q1), .second, .val (.long q2), .second, .val (.long q3), .second, .val (.long q4), .second, .val (.int i9), .val (.int i10), .val (.int i11), .val (.int i12), .val (.int i13), .val (.ref s1), .val (.ref s2), .val (.int b16), .val (.long j17), .second, .val (.long l1), .second, .val (.long u1), .second, .val (.long j23), .second, .val (.long j25), .second, .val (.long (own_lmin j23 j25)), .second, .val (.long (own_lmax j23 j25)), .second, .val (.ref b205), .val (.ref b240), .val (.int (0 : Int32)), .val (.int (1 : Int32))] [(.int (own_cont (own_leq2 y0 y1 x0 x1) (own_lmin j23 j25) (own_lmax j23 j25) l1 u1))])) st342 ?_
              refine OFin.of (S' := T342.setTop (mkF m 385 #[.val (.int p0), .val (.long q1), .second, .val (.long q2), .second, .val (.long q3), .second, .val (.long q4), .second, .val (.int i9), .val (.int i10), .val (.int i11), .val (.int i12), .val (.int i13), .val (.ref s1), .val (.ref s2), .val (.int b16), .val (.long j17), .second, .val (.long l1), .second, .val (.long u1), .second, .val (.long j23), .second, .val (.long j25), .second, .val (.long (own_lmin j23 j25)), .second, .val (.long (own_lmax j23 j25)), .second, .val (.ref b205), .val (.ref b240), .val (.int (0 : Int32)), .val (.int (1 : Int32))] [(.ref b240), (.ref b240)])) (fun t ht => ?_) ?_
              · refine XS.iload X342.here hx rfl (hb hby at_376) rfl ?_
                show Steps p.tables e below (T342.setTop (mkF m 378 _ [(.int (1 : Int32)), (.int (own_cont (own_leq2 y0 y1 x0 x1) (own_lmin j23 j25) (own_lmax j23 j25) l1 u1))])) _
                refine XS.icmpNo X342.here hx rfl (hb hby at_378) rfl (teq (own_v3 hE hE2 hc284 hc335 hc338 : (own_cont (own_leq2 y0 y1 x0 x1) (own_lmin j23 j25) (own_lmax j23 j25) l1 u1) = (1 : Int32))).2 ?_
                show Steps p.tables e below (T342.setTop (mkF m 381 _ [])) _
                refine XS.aload X342.here hx rfl (hb hby at_381) rfl rfl ?_
                show Steps p.tables e below (T342.setTop (mkF m 383 _ [(.ref b240)])) _
                refine XS.aload X342.here hx rfl (hb hby at_383) rfl rfl ?_
                exact ht
              obtain ⟨cq346, kq346, q346a, q346b, q346c⟩ := isOf hZ hs342 f282
              obtain ⟨_, _, ⟨T345, L345, k345, n345⟩, -, X345, ⟨Lc345, hQ345, l345, y345, z345⟩, st345⟩ := X342.virtualBack hx (y := (⟨"com/example/greylag/greylag/model/Bundle", "contains", "(Lcom/example/greylag/greylag/model/Bundle;)Z"⟩ : MethodName)) (z := (⟨"com/example/greylag/greylag/model/Bundle", "contains", "(Lcom/example/greylag/greylag/model/Bundle;)Z"⟩ : MethodName)) hown (mvT hZ (hw _ (List.mem_of_getElem? (i := 52) rfl))) (mvT hZ (hw _ (List.mem_of_getElem? (i := 53) rfl))) (notFace_of_selects (args := #[]) (mvT hZ (hw _ (List.mem_of_getElem? (i := 55) rfl)))) (mvT hZ (hw _ (List.mem_of_getElem? (i := 55) rfl))) (mvT hZ (hw _ (List.mem_of_getElem? (i := 54) rfl))) (by decide) (backOf (W := 0) (rmCos l Z _ hw [] b240 b240 s2 (own_lmin j23 j25) (own_lmax j23 j25) (own_lmin j23 j25) (own_lmax j23 j25) (1 : Int32) T264.heap n0 Z283 f265 f265 f266 f266 f267 f267 f274 (rmEs l Z _ hw [] s2 T264.heap n0 Z283)) hZ (hw _ (List.mem_of_getElem? (i := 56) rfl)) (hw _ (List.mem_of_getElem? (i := 41) rfl)) (by decide) (by decide)) q346a q346c (g := (mkF m 385 #[.val (.int p0), .val (.long q1), .second, .val (.long q2), .second, .val (.long q3), .second, .val (.long q4), .second, .val (.int i9), .val (.int i10), .val (.int i11), .val (.int i12), .val (.int i13), .val (.ref s1), .val (.ref s2), .val (.int b16), .val (.long j17), .second, .val (.long l1), .second, .val (.long u1), .second, .val (.long j23), .second, .val (.long j25), .second, .val (.long (own_lmin j23 j25)), .second, .val (.long (own_lmax j23 j25)), .second, .val (.ref b205), .val (.ref b240), .val (.int (0 : Int32)), .val (.int (1 : Int32))] [(.ref b240), (.ref b240)])) rfl (by rw [hml]; rfl) (Steps.refl _) (argsL := [(.ref b240)]) (rest := []) (lenOf pd_8 rfl) rfl (by show 2 * 0 + _ ≤ _; exact Nat.le_of_eq rfl) (hb hby at_385) (fun _ _ => ⟨rfl, hs342, (by decide : 9 + 0 ≤ _), (by decide : 28 + 0 ≤ _)⟩)
              dsimp only [Pt.U, Pt.locs, Pt.cells, Pt.slots] at X345 l345 y345 z345 st345 hQ345
              subst l345 y345 z345
              obtain ⟨rfl, Nq345, hs345⟩ := hQ345
              have N347 := Fr.app N344 Nq345
              refine OFin.to (S' := T345.setTop (mkF m 388 #[.val (.int p0), .val (.long q1), .second, .val (.long q2), .second, .val (.long q3), .second, .val (.long q4), .second, .val (.int i9), .val (.int i10), .val (.int i11), .val (.int i12), .val (.int i13), .val (.ref s1), .val (.ref s2), .val (.int b16), .val (.long j17), .second, .val (.long l1), .second, .val (.long u1), .second, .val (.long j23), .second, .val (.long j25), .second, .val (.long (own_lmin j23 j25)), .second, .val (.long (own_lmax j23 j25)), .second, .val (.ref b205), .val (.ref b240), .val (.int (0 : Int32)), .val (.int (1 : Int32))] [(.int (own_cont (1 : Int32) (own_lmin j23 j25) (own_lmax j23 j25) (own_lmin j23 j25) (own_lmax j23 j25)))])) st345 ?_
              refine OFin.of (S' := T345.setTop (mkF m 396 #[.val (.int p0), .val (.long q1), .second, .val (.long q2), .second, .val (.long q3), .second, .val (.long q4), .second, .val (.int i9), .val (.int i10), .val (.int i11), .val (.int i12), .val (.int i13), .val (.ref s1), .val (.ref s2), .val (.int b16), .val (.long j17), .second, .val (.long l1), .second, .val (.long u1), .second, .val (.long j23), .second, .val (.long j25), .second, .val (.long (own_lmin j23 j25)), .second, .val (.long (own_lmax j23 j25)), .second, .val (.ref b205), .val (.ref b240), .val (.int (0 : Int32)), .val (.int (1 : Int32))] [(.int (1 : Int32))])) (fun t ht => ?_) ?_
              · refine XS.ifNo X345.here hx rfl (hb hby at_388) rfl ((if0 _ _).trans (feq (own_r3 _ _ : ¬ ((own_cont (1 : Int32) (own_lmin j23 j25) (own_lmax j23 j25) (own_lmin j23 j25) (own_lmax j23 j25)) = (0 : Int32)))).1) ?_
                show Steps p.tables e below (T345.setTop (mkF m 391 _ [])) _
                refine XS.iconst X345.here hx rfl (hb hby at_391) ?_
                show Steps p.tables e below (T345.setTop (mkF m 392 _ [(.int (1 : Int32))])) _
                refine XS.goto X345.here hx rfl (pc0 := 392) (pc' := 396) rfl (hb hby at_392) (by decide) (by decide) ?_
                exact ht
              exact OFin.retB X345 hx hlk (t := .boolean) (by simp) hret (hb hby at_396) (by decide) (by decide) (by rw [hs345]; exact hQ _ _ N347)
            · refine OFin.of (S' := T336.setTop (mkF m 361 #[.val (.int p0), .val (.long q1), .second, .val (.long q2), .second, .val (.long q3), .second, .val (.long q4), .second, .val (.int i9), .val (.int i10), .val (.int i11), .val (.int i12), .val (.int i13), .val (.ref s1), .val (.ref s2), .val (.int b16), .val (.long j17), .second, .val (.long l1), .second, .val (.long u1), .second, .val (.long j23), .second, .val (.long j25), .second, .val (.long (own_lmin j23 j25)), .second, .val (.long (own_lmax j23 j25)), .second, .val (.ref b205), .val (.ref b240), .val (.int (0 : Int32)), .val (.int (0 : Int32))] [(.ref b240), (.ref b205)])) (fun t ht => ?_) ?_
              · refine XS.ifYes X336.here hx rfl (pc0 := 347) (pc' := 354) rfl (hb hby at_347) rfl ((if0 _ _).trans (feq (hc338 : ¬ ((lcmpW (own_lmax u1 (own_lmax j23 j25)) (own_lmax j23 j25)) = (0 : Int32)))).2) (by decide) (by decide) ?_
                show Steps p.tables e below (T336.setTop (mkF m 354 _ [])) _
                refine XS.iconst X336.here hx rfl (hb hby at_354) ?_
                show Steps p.tables e below (T336.setTop (mkF m 355 _ [(.int (0 : Int32))])) _
                refine XS.istore X336.here hx rfl (hb hby at_355) rfl (l' := #[.val (.int p0), .val (.long q1), .second, .val (.long q2), .second, .val (.long q3), .second, .val (.long q4), .second, .val (.int i9), .val (.int i10), .val (.int i11), .val (.int i12), .val (.int i13), .val (.ref s1), .val (.ref s2), .val (.int b16), .val (.long j17), .second, .val (.long l1), .second, .val (.long u1), .second, .val (.long j23), .second, .val (.long j25), .second, .val (.long (own_lmin j23 j25)), .second, .val (.long (own_lmax j23 j25)), .second, .val (.ref b205), .val (.ref b240), .val (.int (0 : Int32)), .val (.int (0 : Int32))]) rfl ?_
                show Steps p.tables e below (T336.setTop (mkF m 357 #[.val (.int p0), .val (.long q1), .second, .val (.long q2), .second, .val (.long q3), .second, .val (.long q4), .second, .val (.int i9), .val (.int i10), .val (.int i11), .val (.int i12), .val (.int i13), .val (.ref s1), .val (.ref s2), .val (.int b16), .val (.long j17), .second, .val (.long l1), .second, .val (.long u1), .second, .val (.long j23), .second, .val (.long j25), .second, .val (.long (own_lmin j23 j25)), .second, .val (.long (own_lmax j23 j25)), .second, .val (.ref b205), .val (.ref b240), .val (.int (0 : Int32)), .val (.int (0 : Int32))] [])) _
                refine XS.aload X336.here hx rfl (hb hby at_357) rfl rfl ?_
                show Steps p.tables e below (T336.setTop (mkF m 359 _ [(.ref b205)])) _
                refine XS.aload X336.here hx rfl (hb hby at_359) rfl rfl ?_
                exact ht
              obtain ⟨cq349, kq349, q349a, q349b, q349c⟩ := isOf hZ hs336 f278
              obtain ⟨_, _, ⟨T348, L348, k348, n348⟩, -, X348, ⟨Lc348, hQ348, l348, y348, z348⟩, st348⟩ := X336.virtualBack hx (y := (⟨"com/example/greylag/greylag/model/Bundle", "contains", "(Lcom/example/greylag/greylag/model/Bundle;)Z"⟩ : MethodName)) (z := (⟨"com/example/greylag/greylag/model/Bundle", "contains", "(Lcom/example/greylag/greylag/model/Bundle;)Z"⟩ : MethodName)) hown (mvT hZ (hw _ (List.mem_of_getElem? (i := 52) rfl))) (mvT hZ (hw _ (List.mem_of_getElem? (i := 53) rfl))) (notFace_of_selects (args := #[]) (mvT hZ (hw _ (List.mem_of_getElem? (i := 55) rfl)))) (mvT hZ (hw _ (List.mem_of_getElem? (i := 55) rfl))) (mvT hZ (hw _ (List.mem_of_getElem? (i := 54) rfl))) (by decide) (backOf (W := 0) (rmCo22 l Z _ hw [] b205 b240 s1 s2 l1 u1 (own_lmin j23 j25) (own_lmax j23 j25) (own_leq2 x0 x1 y0 y1) T264.heap n0 Z283 f279 f265 f280 f266 f281 f267 f270 (rmEq22 l Z _ hw [] s1 s2 t1 t2 k1 k2 cs x0 x1 y0 y1 T264.heap n0 Z283 f274 f271 f275 f272 f276 f273 f277 f269 hcs na0)) hZ (hw _ (List.mem_of_getElem? (i := 56) rfl)) (hw _ (List.mem_of_getElem? (i := 41) rfl)) (by decide) (by decide)) q349a q349c (g := (mkF m 361 #[.val (.int p0), .val (.long q1), .second, .val (.long q2), .second, .val (.long q3), .second, .val (.long q4), .second, .val (.int i9), .val (.int i10), .val (.int i11), .val (.int i12), .val (.int i13), .val (.ref s1), .val (.ref s2), .val (.int b16), .val (.long j17), .second, .val (.long l1), .second, .val (.long u1), .second, .val (.long j23), .second, .val (.long j25), .second, .val (.long (own_lmin j23 j25)), .second, .val (.long (own_lmax j23 j25)), .second, .val (.ref b205), .val (.ref b240), .val (.int (0 : Int32)), .val (.int (0 : Int32))] [(.ref b240), (.ref b205)])) rfl (by rw [hml]; rfl) (Steps.refl _) (argsL := [(.ref b240)]) (rest := []) (lenOf pd_8 rfl) rfl (by show 2 * 0 + _ ≤ _; exact Nat.le_of_eq rfl) (hb hby at_361) (fun _ _ => ⟨rfl, hs336, (by decide : 9 + 0 ≤ _), (by decide : 28 + 0 ≤ _)⟩)
              dsimp only [Pt.U, Pt.locs, Pt.cells, Pt.slots] at X348 l348 y348 z348 st348 hQ348
              subst l348 y348 z348
              obtain ⟨rfl, Nq348, hs348⟩ := hQ348
              have N350 := Fr.app N337 Nq348
              refine OFin.to (S' := T348.setTop (mkF m 364 #[.val (.int p0), .val (.long q1), .second, .val (.long q2), .second, .val (.long q3), .second, .val (.long q4), .second, .val (.int i9), .val (.int i10), .val (.int i11), .val (.int i12), .val (.int i13), .val (.ref s1), .val (.ref s2), .val (.int b16), .val (.long j17), .second, .val (.long l1), .second, .val (.long u1), .second, .val (.long j23), .second, .val (.long j25), .second, .val (.long (own_lmin j23 j25)), .second, .val (.long (own_lmax j23 j25)), .second, .val (.ref b205), .val (.ref b240), .val (.int (0 : Int32)), .val (.int (0 : Int32))] [(.int (own_cont (own_leq2 x0 x1 y0 y1) l1 u1 (own_lmin j23 j25) (own_lmax j23 j25)))])) st348 ?_
              refine OFin.of (S' := T348.setTop (mkF m 373 #[.val (.int p0), .val (.long q1), .second, .val (.long q2), .second, .val (.long q3), .second, .val (.long q4), .second, .val (.int i9), .val (.int i10), .val (.int i11), .val (.int i12), .val (.int i13), .val (.ref s1), .val (.ref s2), .val (.int b16), .val (.long j17), .second, .val (.long l1), .second, .val (.long u1), .second, .val (.long j23), .second, .val (.long j25), .second, .val (.long (own_lmin j23 j25)), .second, .val (.long (own_lmax j23 j25)), .second, .val (.ref b205), .val (.ref b240), .val (.int (0 : Int32)), .val (.int (0 : Int32))] [(.ref b205), (.ref b240)])) (fun t ht => ?_) ?_
              · refine XS.iload X348.here hx rfl (hb hby at_364) rfl ?_
                show Steps p.tables e below (T348.setTop (mkF m 366 _ [(.int (0 : Int32)), (.int (own_cont (own_leq2 x0 x1 y0 y1) l1 u1 (own_lmin j23 j25) (own_lmax j23 j25)))])) _
                refine XS.icmpNo X348.here hx rfl (hb hby at_366) rfl (teq (own_t2 hc299 : (own_cont (own_leq2 x0 x1 y0 y1) l1 u1 (own_lmin j23 j25) (own_lmax j23 j25)) = (0 : Int32))).2 ?_
                show Steps p.tables e below (T348.setTop (mkF m 369 _ [])) _
                refine XS.aload X348.here hx rfl (hb hby at_369) rfl rfl ?_
                show Steps p.tables e below (T348.setTop (mkF m 371 _ [(.ref b240)])) _
                refine XS.aload X348.here hx rfl (hb hby at_371) rfl rfl ?_
                exact ht
              obtain ⟨cq352, kq352, q352a, q352b, q352c⟩ := isOf hZ hs348 f282
              obtain ⟨_, _, ⟨T351, L351, k351, n351⟩, -, X351, ⟨Lc351, hQ351, l351, y351, z351⟩, st351⟩ := X348.virtualBack hx (y := (⟨"com/example/greylag/greylag/model/Bundle", "contains", "(Lcom/example/greylag/greylag/model/Bundle;)Z"⟩ : MethodName)) (z := (⟨"com/example/greylag/greylag/model/Bundle", "contains", "(Lcom/example/greylag/greylag/model/Bundle;)Z"⟩ : MethodName)) hown (mvT hZ (hw _ (List.mem_of_getElem? (i := 52) rfl))) (mvT hZ (hw _ (List.mem_of_getElem? (i := 53) rfl))) (notFace_of_selects (args := #[]) (mvT hZ (hw _ (List.mem_of_getElem? (i := 55) rfl)))) (mvT hZ (hw _ (List.mem_of_getElem? (i := 55) rfl))) (mvT hZ (hw _ (List.mem_of_getElem? (i := 54) rfl))) (by decide) (backOf (W := 0) (rmCo22 l Z _ hw [] b240 b205 s2 s1 (own_lmin j23 j25) (own_lmax j23 j25) l1 u1 (own_leq2 y0 y1 x0 x1) T264.heap n0 Z283 f265 f279 f266 f280 f267 f281 f274 (rmEq22 l Z _ hw [] s2 s1 t2 t1 k2 k1 cs y0 y1 x0 x1 T264.heap n0 Z283 f270 f275 f271 f276 f272 f277 f273 f269 hcs (Ne.symm na0))) hZ (hw _ (List.mem_of_getElem? (i := 56) rfl)) (hw _ (List.mem_of_getElem? (i := 41) rfl)) (by decide) (by decide)) q352a q352c (g := (mkF m 373 #[.val (.int p0), .val (.long q1), .second, .val (.long q2), .second, .val (.long q3), .second, .val (.long q4), .second, .val (.int i9), .val (.int i10), .val (.int i11), .val (.int i12), .val (.int i13), .val (.ref s1), .val (.ref s2), .val (.int b16), .val (.long j17), .second, .val (.long l1), .second, .val (.long u1), .second, .val (.long j23), .second, .val (.long j25), .second, .val (.long (own_lmin j23 j25)), .second, .val (.long (own_lmax j23 j25)), .second, .val (.ref b205), .val (.ref b240), .val (.int (0 : Int32)), .val (.int (0 : Int32))] [(.ref b205), (.ref b240)])) rfl (by rw [hml]; rfl) (Steps.refl _) (argsL := [(.ref b205)]) (rest := []) (lenOf pd_8 rfl) rfl (by show 2 * 0 + _ ≤ _; exact Nat.le_of_eq rfl) (hb hby at_373) (fun _ _ => ⟨rfl, hs348, (by decide : 9 + 0 ≤ _), (by decide : 28 + 0 ≤ _)⟩)
              dsimp only [Pt.U, Pt.locs, Pt.cells, Pt.slots] at X351 l351 y351 z351 st351 hQ351
              subst l351 y351 z351
              obtain ⟨rfl, Nq351, hs351⟩ := hQ351
              have N353 := Fr.app N350 Nq351
              refine OFin.to (S' := T351.setTop (mkF m 376 #[.val (.int p0), .val (.long q1), .second, .val (.long q2), .second, .val (.long q3), .second, .val (.long q4), .second, .val (.int i9), .val (.int i10), .val (.int i11), .val (.int i12), .val (.int i13), .val (.ref s1), .val (.ref s2), .val (.int b16), .val (.long j17), .second, .val (.long l1), .second, .val (.long u1), .second, .val (.long j23), .second, .val (.long j25), .second, .val (.long (own_lmin j23 j25)), .second, .val (.long (own_lmax j23 j25)), .second, .val (.ref b205), .val (.ref b240), .val (.int (0 : Int32)), .val (.int (0 : Int32))] [(.int (own_cont (own_leq2 y0 y1 x0 x1) (own_lmin j23 j25) (own_lmax j23 j25) l1 u1))])) st351 ?_
              refine OFin.of (S' := T351.setTop (mkF m 385 #[.val (.int p0), .val (.long q1), .second, .val (.long q2), .second, .val (.long q3), .second, .val (.long q4), .second, .val (.int i9), .val (.int i10), .val (.int i11), .val (.int i12), .val (.int i13), .val (.ref s1), .val (.ref s2), .val (.int b16), .val (.long j17), .second, .val (.long l1), .second, .val (.long u1), .second, .val (.long j23), .second, .val (.long j25), .second, .val (.long (own_lmin j23 j25)), .second, .val (.long (own_lmax j23 j25)), .second, .val (.ref b205), .val (.ref b240), .val (.int (0 : Int32)), .val (.int (0 : Int32))] [(.ref b240), (.ref b240)])) (fun t ht => ?_) ?_
              · refine XS.iload X351.here hx rfl (hb hby at_376) rfl ?_
                show Steps p.tables e below (T351.setTop (mkF m 378 _ [(.int (0 : Int32)), (.int (own_cont (own_leq2 y0 y1 x0 x1) (own_lmin j23 j25) (own_lmax j23 j25) l1 u1))])) _
                refine XS.icmpNo X351.here hx rfl (hb hby at_378) rfl (teq (own_v2 hc338 : (own_cont (own_leq2 y0 y1 x0 x1) (own_lmin j23 j25) (own_lmax j23 j25) l1 u1) = (0 : Int32))).2 ?_
                show Steps p.tables e below (T351.setTop (mkF m 381 _ [])) _
                refine XS.aload X351.here hx rfl (hb hby at_381) rfl rfl ?_
                show Steps p.tables e below (T351.setTop (mkF m 383 _ [(.ref b240)])) _
                refine XS.aload X351.here hx rfl (hb hby at_383) rfl rfl ?_
                exact ht
              obtain ⟨cq355, kq355, q355a, q355b, q355c⟩ := isOf hZ hs351 f282
              obtain ⟨_, _, ⟨T354, L354, k354, n354⟩, -, X354, ⟨Lc354, hQ354, l354, y354, z354⟩, st354⟩ := X351.virtualBack hx (y := (⟨"com/example/greylag/greylag/model/Bundle", "contains", "(Lcom/example/greylag/greylag/model/Bundle;)Z"⟩ : MethodName)) (z := (⟨"com/example/greylag/greylag/model/Bundle", "contains", "(Lcom/example/greylag/greylag/model/Bundle;)Z"⟩ : MethodName)) hown (mvT hZ (hw _ (List.mem_of_getElem? (i := 52) rfl))) (mvT hZ (hw _ (List.mem_of_getElem? (i := 53) rfl))) (notFace_of_selects (args := #[]) (mvT hZ (hw _ (List.mem_of_getElem? (i := 55) rfl)))) (mvT hZ (hw _ (List.mem_of_getElem? (i := 55) rfl))) (mvT hZ (hw _ (List.mem_of_getElem? (i := 54) rfl))) (by decide) (backOf (W := 0) (rmCos l Z _ hw [] b240 b240 s2 (own_lmin j23 j25) (own_lmax j23 j25) (own_lmin j23 j25) (own_lmax j23 j25) (1 : Int32) T264.heap n0 Z283 f265 f265 f266 f266 f267 f267 f274 (rmEs l Z _ hw [] s2 T264.heap n0 Z283)) hZ (hw _ (List.mem_of_getElem? (i := 56) rfl)) (hw _ (List.mem_of_getElem? (i := 41) rfl)) (by decide) (by decide)) q355a q355c (g := (mkF m 385 #[.val (.int p0), .val (.long q1), .second, .val (.long q2), .second, .val (.long q3), .second, .val (.long q4), .second, .val (.int i9), .val (.int i10), .val (.int i11), .val (.int i12), .val (.int i13), .val (.ref s1), .val (.ref s2), .val (.int b16), .val (.long j17), .second, .val (.long l1), .second, .val (.long u1), .second, .val (.long j23), .second, .val (.long j25), .second, .val (.long (own_lmin j23 j25)), .second, .val (.long (own_lmax j23 j25)), .second, .val (.ref b205), .val (.ref b240), .val (.int (0 : Int32)), .val (.int (0 : Int32))] [(.ref b240), (.ref b240)])) rfl (by rw [hml]; rfl) (Steps.refl _) (argsL := [(.ref b240)]) (rest := []) (lenOf pd_8 rfl) rfl (by show 2 * 0 + _ ≤ _; exact Nat.le_of_eq rfl) (hb hby at_385) (fun _ _ => ⟨rfl, hs351, (by decide : 9 + 0 ≤ _), (by decide : 28 + 0 ≤ _)⟩)
              dsimp only [Pt.U, Pt.locs, Pt.cells, Pt.slots] at X354 l354 y354 z354 st354 hQ354
              subst l354 y354 z354
              obtain ⟨rfl, Nq354, hs354⟩ := hQ354
              have N356 := Fr.app N353 Nq354
              refine OFin.to (S' := T354.setTop (mkF m 388 #[.val (.int p0), .val (.long q1), .second, .val (.long q2), .second, .val (.long q3), .second, .val (.long q4), .second, .val (.int i9), .val (.int i10), .val (.int i11), .val (.int i12), .val (.int i13), .val (.ref s1), .val (.ref s2), .val (.int b16), .val (.long j17), .second, .val (.long l1), .second, .val (.long u1), .second, .val (.long j23), .second, .val (.long j25), .second, .val (.long (own_lmin j23 j25)), .second, .val (.long (own_lmax j23 j25)), .second, .val (.ref b205), .val (.ref b240), .val (.int (0 : Int32)), .val (.int (0 : Int32))] [(.int (own_cont (1 : Int32) (own_lmin j23 j25) (own_lmax j23 j25) (own_lmin j23 j25) (own_lmax j23 j25)))])) st354 ?_
              refine OFin.of (S' := T354.setTop (mkF m 396 #[.val (.int p0), .val (.long q1), .second, .val (.long q2), .second, .val (.long q3), .second, .val (.long q4), .second, .val (.int i9), .val (.int i10), .val (.int i11), .val (.int i12), .val (.int i13), .val (.ref s1), .val (.ref s2), .val (.int b16), .val (.long j17), .second, .val (.long l1), .second, .val (.long u1), .second, .val (.long j23), .second, .val (.long j25), .second, .val (.long (own_lmin j23 j25)), .second, .val (.long (own_lmax j23 j25)), .second, .val (.ref b205), .val (.ref b240), .val (.int (0 : Int32)), .val (.int (0 : Int32))] [(.int (1 : Int32))])) (fun t ht => ?_) ?_
              · refine XS.ifNo X354.here hx rfl (hb hby at_388) rfl ((if0 _ _).trans (feq (own_r3 _ _ : ¬ ((own_cont (1 : Int32) (own_lmin j23 j25) (own_lmax j23 j25) (own_lmin j23 j25) (own_lmax j23 j25)) = (0 : Int32)))).1) ?_
                show Steps p.tables e below (T354.setTop (mkF m 391 _ [])) _
                refine XS.iconst X354.here hx rfl (hb hby at_391) ?_
                show Steps p.tables e below (T354.setTop (mkF m 392 _ [(.int (1 : Int32))])) _
                refine XS.goto X354.here hx rfl (pc0 := 392) (pc' := 396) rfl (hb hby at_392) (by decide) (by decide) ?_
                exact ht
              exact OFin.retB X354 hx hlk (t := .boolean) (by simp) hret (hb hby at_396) (by decide) (by decide) (by rw [hs354]; exact hQ _ _ N356)
          · refine OFin.of (S' := T333.setTop (mkF m 361 #[.val (.int p0), .val (.long q1), .second, .val (.long q2), .second, .val (.long q3), .second, .val (.long q4), .second, .val (.int i9), .val (.int i10), .val (.int i11), .val (.int i12), .val (.int i13), .val (.ref s1), .val (.ref s2), .val (.int b16), .val (.long j17), .second, .val (.long l1), .second, .val (.long u1), .second, .val (.long j23), .second, .val (.long j25), .second, .val (.long (own_lmin j23 j25)), .second, .val (.long (own_lmax j23 j25)), .second, .val (.ref b205), .val (.ref b240), .val (.int (0 : Int32)), .val (.int (0 : Int32))] [(.ref b240), (.ref b205)])) (fun t ht => ?_) ?_
            · refine XS.ifYes X333.here hx rfl (pc0 := 334) (pc' := 354) rfl (hb hby at_334) rfl ((if0 _ _).trans (feq (hc335 : ¬ ((lcmpW (own_lmin l1 (own_lmin j23 j25)) (own_lmin j23 j25)) = (0 : Int32)))).2) (by decide) (by decide) ?_
              show Steps p.tables e below (T333.setTop (mkF m 354 _ [])) _
              refine XS.iconst X333.here hx rfl (hb hby at_354) ?_
              show Steps p.tables e below (T333.setTop (mkF m 355 _ [(.int (0 : Int32))])) _
              refine XS.istore X333.here hx rfl (hb hby at_355) rfl (l' := #[.val (.int p0), .val (.long q1), .second, .val (.long q2), .second, .val (.long q3), .second, .val (.long q4), .second, .val (.int i9), .val (.int i10), .val (.int i11), .val (.int i12), .val (.int i13), .val (.ref s1), .val (.ref s2), .val (.int b16), .val (.long j17), .second, .val (.long l1), .second, .val (.long u1), .second, .val (.long j23), .second, .val (.long j25), .second, .val (.long (own_lmin j23 j25)), .second, .val (.long (own_lmax j23 j25)), .second, .val (.ref b205), .val (.ref b240), .val (.int (0 : Int32)), .val (.int (0 : Int32))]) rfl ?_
              show Steps p.tables e below (T333.setTop (mkF m 357 #[.val (.int p0), .val (.long q1), .second, .val (.long q2), .second, .val (.long q3), .second, .val (.long q4), .second, .val (.int i9), .val (.int i10), .val (.int i11), .val (.int i12), .val (.int i13), .val (.ref s1), .val (.ref s2), .val (.int b16), .val (.long j17), .second, .val (.long l1), .second, .val (.long u1), .second, .val (.long j23), .second, .val (.long j25), .second, .val (.long (own_lmin j23 j25)), .second, .val (.long (own_lmax j23 j25)), .second, .val (.ref b205), .val (.ref b240), .val (.int (0 : Int32)), .val (.int (0 : Int32))] [])) _
              refine XS.aload X333.here hx rfl (hb hby at_357) rfl rfl ?_
              show Steps p.tables e below (T333.setTop (mkF m 359 _ [(.ref b205)])) _
              refine XS.aload X333.here hx rfl (hb hby at_359) rfl rfl ?_
              exact ht
            obtain ⟨cq358, kq358, q358a, q358b, q358c⟩ := isOf hZ hs333 f278
            obtain ⟨_, _, ⟨T357, L357, k357, n357⟩, -, X357, ⟨Lc357, hQ357, l357, y357, z357⟩, st357⟩ := X333.virtualBack hx (y := (⟨"com/example/greylag/greylag/model/Bundle", "contains", "(Lcom/example/greylag/greylag/model/Bundle;)Z"⟩ : MethodName)) (z := (⟨"com/example/greylag/greylag/model/Bundle", "contains", "(Lcom/example/greylag/greylag/model/Bundle;)Z"⟩ : MethodName)) hown (mvT hZ (hw _ (List.mem_of_getElem? (i := 52) rfl))) (mvT hZ (hw _ (List.mem_of_getElem? (i := 53) rfl))) (notFace_of_selects (args := #[]) (mvT hZ (hw _ (List.mem_of_getElem? (i := 55) rfl)))) (mvT hZ (hw _ (List.mem_of_getElem? (i := 55) rfl))) (mvT hZ (hw _ (List.mem_of_getElem? (i := 54) rfl))) (by decide) (backOf (W := 0) (rmCo22 l Z _ hw [] b205 b240 s1 s2 l1 u1 (own_lmin j23 j25) (own_lmax j23 j25) (own_leq2 x0 x1 y0 y1) T264.heap n0 Z283 f279 f265 f280 f266 f281 f267 f270 (rmEq22 l Z _ hw [] s1 s2 t1 t2 k1 k2 cs x0 x1 y0 y1 T264.heap n0 Z283 f274 f271 f275 f272 f276 f273 f277 f269 hcs na0)) hZ (hw _ (List.mem_of_getElem? (i := 56) rfl)) (hw _ (List.mem_of_getElem? (i := 41) rfl)) (by decide) (by decide)) q358a q358c (g := (mkF m 361 #[.val (.int p0), .val (.long q1), .second, .val (.long q2), .second, .val (.long q3), .second, .val (.long q4), .second, .val (.int i9), .val (.int i10), .val (.int i11), .val (.int i12), .val (.int i13), .val (.ref s1), .val (.ref s2), .val (.int b16), .val (.long j17), .second, .val (.long l1), .second, .val (.long u1), .second, .val (.long j23), .second, .val (.long j25), .second, .val (.long (own_lmin j23 j25)), .second, .val (.long (own_lmax j23 j25)), .second, .val (.ref b205), .val (.ref b240), .val (.int (0 : Int32)), .val (.int (0 : Int32))] [(.ref b240), (.ref b205)])) rfl (by rw [hml]; rfl) (Steps.refl _) (argsL := [(.ref b240)]) (rest := []) (lenOf pd_8 rfl) rfl (by show 2 * 0 + _ ≤ _; exact Nat.le_of_eq rfl) (hb hby at_361) (fun _ _ => ⟨rfl, hs333, (by decide : 9 + 0 ≤ _), (by decide : 28 + 0 ≤ _)⟩)
            dsimp only [Pt.U, Pt.locs, Pt.cells, Pt.slots] at X357 l357 y357 z357 st357 hQ357
            subst l357 y357 z357
            obtain ⟨rfl, Nq357, hs357⟩ := hQ357
            have N359 := Fr.app N334 Nq357
            refine OFin.to (S' := T357.setTop (mkF m 364 #[.val (.int p0), .val (.long q1), .second, .val (.long q2), .second, .val (.long q3), .second, .val (.long q4), .second, .val (.int i9), .val (.int i10), .val (.int i11), .val (.int i12), .val (.int i13), .val (.ref s1), .val (.ref s2), .val (.int b16), .val (.long j17), .second, .val (.long l1), .second, .val (.long u1), .second, .val (.long j23), .second, .val (.long j25), .second, .val (.long (own_lmin j23 j25)), .second, .val (.long (own_lmax j23 j25)), .second, .val (.ref b205), .val (.ref b240), .val (.int (0 : Int32)), .val (.int (0 : Int32))] [(.int (own_cont (own_leq2 x0 x1 y0 y1) l1 u1 (own_lmin j23 j25) (own_lmax j23 j25)))])) st357 ?_
            refine OFin.of (S' := T357.setTop (mkF m 373 #[.val (.int p0), .val (.long q1), .second, .val (.long q2), .second, .val (.long q3), .second, .val (.long q4), .second, .val (.int i9), .val (.int i10), .val (.int i11), .val (.int i12), .val (.int i13), .val (.ref s1), .val (.ref s2), .val (.int b16), .val (.long j17), .second, .val (.long l1), .second, .val (.long u1), .second, .val (.long j23), .second, .val (.long j25), .second, .val (.long (own_lmin j23 j25)), .second, .val (.long (own_lmax j23 j25)), .second, .val (.ref b205), .val (.ref b240), .val (.int (0 : Int32)), .val (.int (0 : Int32))] [(.ref b205), (.ref b240)])) (fun t ht => ?_) ?_
            · refine XS.iload X357.here hx rfl (hb hby at_364) rfl ?_
              show Steps p.tables e below (T357.setTop (mkF m 366 _ [(.int (0 : Int32)), (.int (own_cont (own_leq2 x0 x1 y0 y1) l1 u1 (own_lmin j23 j25) (own_lmax j23 j25)))])) _
              refine XS.icmpNo X357.here hx rfl (hb hby at_366) rfl (teq (own_t2 hc299 : (own_cont (own_leq2 x0 x1 y0 y1) l1 u1 (own_lmin j23 j25) (own_lmax j23 j25)) = (0 : Int32))).2 ?_
              show Steps p.tables e below (T357.setTop (mkF m 369 _ [])) _
              refine XS.aload X357.here hx rfl (hb hby at_369) rfl rfl ?_
              show Steps p.tables e below (T357.setTop (mkF m 371 _ [(.ref b240)])) _
              refine XS.aload X357.here hx rfl (hb hby at_371) rfl rfl ?_
              exact ht
            obtain ⟨cq361, kq361, q361a, q361b, q361c⟩ := isOf hZ hs357 f282
            obtain ⟨_, _, ⟨T360, L360, k360, n360⟩, -, X360, ⟨Lc360, hQ360, l360, y360, z360⟩, st360⟩ := X357.virtualBack hx (y := (⟨"com/example/greylag/greylag/model/Bundle", "contains", "(Lcom/example/greylag/greylag/model/Bundle;)Z"⟩ : MethodName)) (z := (⟨"com/example/greylag/greylag/model/Bundle", "contains", "(Lcom/example/greylag/greylag/model/Bundle;)Z"⟩ : MethodName)) hown (mvT hZ (hw _ (List.mem_of_getElem? (i := 52) rfl))) (mvT hZ (hw _ (List.mem_of_getElem? (i := 53) rfl))) (notFace_of_selects (args := #[]) (mvT hZ (hw _ (List.mem_of_getElem? (i := 55) rfl)))) (mvT hZ (hw _ (List.mem_of_getElem? (i := 55) rfl))) (mvT hZ (hw _ (List.mem_of_getElem? (i := 54) rfl))) (by decide) (backOf (W := 0) (rmCo22 l Z _ hw [] b240 b205 s2 s1 (own_lmin j23 j25) (own_lmax j23 j25) l1 u1 (own_leq2 y0 y1 x0 x1) T264.heap n0 Z283 f265 f279 f266 f280 f267 f281 f274 (rmEq22 l Z _ hw [] s2 s1 t2 t1 k2 k1 cs y0 y1 x0 x1 T264.heap n0 Z283 f270 f275 f271 f276 f272 f277 f273 f269 hcs (Ne.symm na0))) hZ (hw _ (List.mem_of_getElem? (i := 56) rfl)) (hw _ (List.mem_of_getElem? (i := 41) rfl)) (by decide) (by decide)) q361a q361c (g := (mkF m 373 #[.val (.int p0), .val (.long q1), .second, .val (.long q2), .second, .val (.long q3), .second, .val (.long q4), .second, .val (.int i9), .val (.int i10), .val (.int i11), .val (.int i12), .val (.int i13), .val (.ref s1), .val (.ref s2), .val (.int b16), .val (.long j17), .second, .val (.long l1), .second, .val (.long u1), .second, .val (.long j23), .second, .val (.long j25), .second, .val (.long (own_lmin j23 j25)), .second, .val (.long (own_lmax j23 j25)), .second, .val (.ref b205), .val (.ref b240), .val (.int (0 : Int32)), .val (.int (0 : Int32))] [(.ref b205), (.ref b240)])) rfl (by rw [hml]; rfl) (Steps.refl _) (argsL := [(.ref b205)]) (rest := []) (lenOf pd_8 rfl) rfl (by show 2 * 0 + _ ≤ _; exact Nat.le_of_eq rfl) (hb hby at_373) (fun _ _ => ⟨rfl, hs357, (by decide : 9 + 0 ≤ _), (by decide : 28 + 0 ≤ _)⟩)
            dsimp only [Pt.U, Pt.locs, Pt.cells, Pt.slots] at X360 l360 y360 z360 st360 hQ360
            subst l360 y360 z360
            obtain ⟨rfl, Nq360, hs360⟩ := hQ360
            have N362 := Fr.app N359 Nq360
            refine OFin.to (S' := T360.setTop (mkF m 376 #[.val (.int p0), .val (.long q1), .second, .val (.long q2), .second, .val (.long q3), .second, .val (.long q4), .second, .val (.int i9), .val (.int i10), .val (.int i11), .val (.int i12), .val (.int i13), .val (.ref s1), .val (.ref s2), .val (.int b16), .val (.long j17), .second, .val (.long l1), .second, .val (.long u1), .second, .val (.long j23), .second, .val (.long j25), .second, .val (.long (own_lmin j23 j25)), .second, .val (.long (own_lmax j23 j25)), .second, .val (.ref b205), .val (.ref b240), .val (.int (0 : Int32)), .val (.int (0 : Int32))] [(.int (own_cont (own_leq2 y0 y1 x0 x1) (own_lmin j23 j25) (own_lmax j23 j25) l1 u1))])) st360 ?_
            refine OFin.of (S' := T360.setTop (mkF m 385 #[.val (.int p0), .val (.long q1), .second, .val (.long q2), .second, .val (.long q3), .second, .val (.long q4), .second, .val (.int i9), .val (.int i10), .val (.int i11), .val (.int i12), .val (.int i13), .val (.ref s1), .val (.ref s2), .val (.int b16), .val (.long j17), .second, .val (.long l1), .second, .val (.long u1), .second, .val (.long j23), .second, .val (.long j25), .second, .val (.long (own_lmin j23 j25)), .second, .val (.long (own_lmax j23 j25)), .second, .val (.ref b205), .val (.ref b240), .val (.int (0 : Int32)), .val (.int (0 : Int32))] [(.ref b240), (.ref b240)])) (fun t ht => ?_) ?_
            · refine XS.iload X360.here hx rfl (hb hby at_376) rfl ?_
              show Steps p.tables e below (T360.setTop (mkF m 378 _ [(.int (0 : Int32)), (.int (own_cont (own_leq2 y0 y1 x0 x1) (own_lmin j23 j25) (own_lmax j23 j25) l1 u1))])) _
              refine XS.icmpNo X360.here hx rfl (hb hby at_378) rfl (teq (own_v1 hc335 : (own_cont (own_leq2 y0 y1 x0 x1) (own_lmin j23 j25) (own_lmax j23 j25) l1 u1) = (0 : Int32))).2 ?_
              show Steps p.tables e below (T360.setTop (mkF m 381 _ [])) _
              refine XS.aload X360.here hx rfl (hb hby at_381) rfl rfl ?_
              show Steps p.tables e below (T360.setTop (mkF m 383 _ [(.ref b240)])) _
              refine XS.aload X360.here hx rfl (hb hby at_383) rfl rfl ?_
              exact ht
            obtain ⟨cq364, kq364, q364a, q364b, q364c⟩ := isOf hZ hs360 f282
            obtain ⟨_, _, ⟨T363, L363, k363, n363⟩, -, X363, ⟨Lc363, hQ363, l363, y363, z363⟩, st363⟩ := X360.virtualBack hx (y := (⟨"com/example/greylag/greylag/model/Bundle", "contains", "(Lcom/example/greylag/greylag/model/Bundle;)Z"⟩ : MethodName)) (z := (⟨"com/example/greylag/greylag/model/Bundle", "contains", "(Lcom/example/greylag/greylag/model/Bundle;)Z"⟩ : MethodName)) hown (mvT hZ (hw _ (List.mem_of_getElem? (i := 52) rfl))) (mvT hZ (hw _ (List.mem_of_getElem? (i := 53) rfl))) (notFace_of_selects (args := #[]) (mvT hZ (hw _ (List.mem_of_getElem? (i := 55) rfl)))) (mvT hZ (hw _ (List.mem_of_getElem? (i := 55) rfl))) (mvT hZ (hw _ (List.mem_of_getElem? (i := 54) rfl))) (by decide) (backOf (W := 0) (rmCos l Z _ hw [] b240 b240 s2 (own_lmin j23 j25) (own_lmax j23 j25) (own_lmin j23 j25) (own_lmax j23 j25) (1 : Int32) T264.heap n0 Z283 f265 f265 f266 f266 f267 f267 f274 (rmEs l Z _ hw [] s2 T264.heap n0 Z283)) hZ (hw _ (List.mem_of_getElem? (i := 56) rfl)) (hw _ (List.mem_of_getElem? (i := 41) rfl)) (by decide) (by decide)) q364a q364c (g := (mkF m 385 #[.val (.int p0), .val (.long q1), .second, .val (.long q2), .second, .val (.long q3), .second, .val (.long q4), .second, .val (.int i9), .val (.int i10), .val (.int i11), .val (.int i12), .val (.int i13), .val (.ref s1), .val (.ref s2), .val (.int b16), .val (.long j17), .second, .val (.long l1), .second, .val (.long u1), .second, .val (.long j23), .second, .val (.long j25), .second, .val (.long (own_lmin j23 j25)), .second, .val (.long (own_lmax j23 j25)), .second, .val (.ref b205), .val (.ref b240), .val (.int (0 : Int32)), .val (.int (0 : Int32))] [(.ref b240), (.ref b240)])) rfl (by rw [hml]; rfl) (Steps.refl _) (argsL := [(.ref b240)]) (rest := []) (lenOf pd_8 rfl) rfl (by show 2 * 0 + _ ≤ _; exact Nat.le_of_eq rfl) (hb hby at_385) (fun _ _ => ⟨rfl, hs360, (by decide : 9 + 0 ≤ _), (by decide : 28 + 0 ≤ _)⟩)
            dsimp only [Pt.U, Pt.locs, Pt.cells, Pt.slots] at X363 l363 y363 z363 st363 hQ363
            subst l363 y363 z363
            obtain ⟨rfl, Nq363, hs363⟩ := hQ363
            have N365 := Fr.app N362 Nq363
            refine OFin.to (S' := T363.setTop (mkF m 388 #[.val (.int p0), .val (.long q1), .second, .val (.long q2), .second, .val (.long q3), .second, .val (.long q4), .second, .val (.int i9), .val (.int i10), .val (.int i11), .val (.int i12), .val (.int i13), .val (.ref s1), .val (.ref s2), .val (.int b16), .val (.long j17), .second, .val (.long l1), .second, .val (.long u1), .second, .val (.long j23), .second, .val (.long j25), .second, .val (.long (own_lmin j23 j25)), .second, .val (.long (own_lmax j23 j25)), .second, .val (.ref b205), .val (.ref b240), .val (.int (0 : Int32)), .val (.int (0 : Int32))] [(.int (own_cont (1 : Int32) (own_lmin j23 j25) (own_lmax j23 j25) (own_lmin j23 j25) (own_lmax j23 j25)))])) st363 ?_
            refine OFin.of (S' := T363.setTop (mkF m 396 #[.val (.int p0), .val (.long q1), .second, .val (.long q2), .second, .val (.long q3), .second, .val (.long q4), .second, .val (.int i9), .val (.int i10), .val (.int i11), .val (.int i12), .val (.int i13), .val (.ref s1), .val (.ref s2), .val (.int b16), .val (.long j17), .second, .val (.long l1), .second, .val (.long u1), .second, .val (.long j23), .second, .val (.long j25), .second, .val (.long (own_lmin j23 j25)), .second, .val (.long (own_lmax j23 j25)), .second, .val (.ref b205), .val (.ref b240), .val (.int (0 : Int32)), .val (.int (0 : Int32))] [(.int (1 : Int32))])) (fun t ht => ?_) ?_
            · refine XS.ifNo X363.here hx rfl (hb hby at_388) rfl ((if0 _ _).trans (feq (own_r3 _ _ : ¬ ((own_cont (1 : Int32) (own_lmin j23 j25) (own_lmax j23 j25) (own_lmin j23 j25) (own_lmax j23 j25)) = (0 : Int32)))).1) ?_
              show Steps p.tables e below (T363.setTop (mkF m 391 _ [])) _
              refine XS.iconst X363.here hx rfl (hb hby at_391) ?_
              show Steps p.tables e below (T363.setTop (mkF m 392 _ [(.int (1 : Int32))])) _
              refine XS.goto X363.here hx rfl (pc0 := 392) (pc' := 396) rfl (hb hby at_392) (by decide) (by decide) ?_
              exact ht
            exact OFin.retB X363 hx hlk (t := .boolean) (by simp) hret (hb hby at_396) (by decide) (by decide) (by rw [hs363]; exact hQ _ _ N365)
      · refine OFin.of (S' := T294.setTop (mkF m 328 #[.val (.int p0), .val (.long q1), .second, .val (.long q2), .second, .val (.long q3), .second, .val (.long q4), .second, .val (.int i9), .val (.int i10), .val (.int i11), .val (.int i12), .val (.int i13), .val (.ref s1), .val (.ref s2), .val (.int b16), .val (.long j17), .second, .val (.long l1), .second, .val (.long u1), .second, .val (.long j23), .second, .val (.long j25), .second, .val (.long (own_lmin j23 j25)), .second, .val (.long (own_lmax j23 j25)), .second, .val (.ref b205), .val (.ref b240), .val (.int (0 : Int32)), .unset] [(.long (own_lmin j23 j25)), (.long l1)])) (fun t ht => ?_) ?_
        · refine XS.ifYes X294.here hx rfl (pc0 := 296) (pc' := 316) rfl (hb hby at_296) rfl ((if0 _ _).trans (feq (hc296 : ¬ ((lcmpW (own_lmin l1 (own_lmin j23 j25)) l1) = (0 : Int32)))).2) (by decide) (by decide) ?_
          show Steps p.tables e below (T294.setTop (mkF m 316 _ [])) _
          refine XS.iconst X294.here hx rfl (hb hby at_316) ?_
          show Steps p.tables e below (T294.setTop (mkF m 317 _ [(.int (0 : Int32))])) _
          refine XS.istore X294.here hx rfl (hb hby at_317) rfl (l' := #[.val (.int p0), .val (.long q1), .second, .val (.long q2), .second, .val (.long q3), .second, .val (.long q4), .second, .val (.int i9), .val (.int i10), .val (.int i11), .val (.int i12), .val (.int i13), .val (.ref s1), .val (.ref s2), .val (.int b16), .val (.long j17), .second, .val (.long l1), .second, .val (.long u1), .second, .val (.long j23), .second, .val (.long j25), .second, .val (.long (own_lmin j23 j25)), .second, .val (.long (own_lmax j23 j25)), .second, .val (.ref b205), .val (.ref b240), .val (.int (0 : Int32)), .unset]) rfl ?_
          show Steps p.tables e below (T294.setTop (mkF m 319 #[.val (.int p0), .val (.long q1), .second, .val (.long q2), .second, .val (.long q3), .second, .val (.long q4), .second, .val (.int i9), .val (.int i10), .val (.int i11), .val (.int i12), .val (.int i13), .val (.ref s1), .val (.ref s2), .val (.int b16), .val (.long j17), .second, .val (.long l1), .second, .val (.long u1), .second, .val (.long j23), .second, .val (.long j25), .second, .val (.long (own_lmin j23 j25)), .second, .val (.long (own_lmax j23 j25)), .second, .val (.ref b205), .val (.ref b240), .val (.int (0 : Int32)), .unset] [])) _
          refine XS.iload X294.here hx rfl (hb hby at_319) rfl ?_
          show Steps p.tables e below (T294.setTop (mkF m 321 _ [(.int b16)])) _
          refine XS.ifNo X294.here hx rfl (hb hby at_321) rfl ((if0 _ _).trans (feq (hc284 : ¬ (b16 = (0 : Int32)))).1) ?_
          show Steps p.tables e below (T294.setTop (mkF m 324 _ [])) _
          refine XS.lload X294.here hx rfl (hb hby at_324) rfl ?_
          show Steps p.tables e below (T294.setTop (mkF m 326 _ [(.long l1)])) _
          refine XS.lload X294.here hx rfl (hb hby at_326) rfl ?_
          exact ht
        obtain ⟨_, _, ⟨T366, L366, k366, n366⟩, -, X366, ⟨Lc366, hQ366, l366, y366, z366⟩, st366⟩ := Jvm.LawKit.callS X294 hx (y := (⟨"java/lang/Math", "min", "(JJ)J"⟩ : MethodName)) hown (mvT hZ (hw _ (List.mem_of_getElem? (i := 32) rfl))) (mvT hZ (hw _ (List.mem_of_getElem? (i := 33) rfl))) (mvT hZ (hw _ (List.mem_of_getElem? (i := 34) rfl))) (mvT hZ (hw _ (List.mem_of_getElem? (i := 35) rfl))) (by decide) (backOf (W := 0) (rmMn l Z _ hw [] l1 (own_lmin j23 j25) T264.heap n0 Z283 ) hZ (hw _ (List.mem_of_getElem? (i := 35) rfl)) (hw _ (List.mem_of_getElem? (i := 34) rfl)) (by decide) (by decide)) (g := (mkF m 328 #[.val (.int p0), .val (.long q1), .second, .val (.long q2), .second, .val (.long q3), .second, .val (.long q4), .second, .val (.int i9), .val (.int i10), .val (.int i11), .val (.int i12), .val (.int i13), .val (.ref s1), .val (.ref s2), .val (.int b16), .val (.long j17), .second, .val (.long l1), .second, .val (.long u1), .second, .val (.long j23), .second, .val (.long j25), .second, .val (.long (own_lmin j23 j25)), .second, .val (.long (own_lmax j23 j25)), .second, .val (.ref b205), .val (.ref b240), .val (.int (0 : Int32)), .unset] [(.long (own_lmin j23 j25)), (.long l1)])) rfl (by rw [hml]; rfl) (argsL := [(.long l1), (.long (own_lmin j23 j25))]) (rest := []) (lenOf pd_6 rfl) rfl (by show 2 * 0 + _ ≤ _; exact Nat.le_of_eq rfl) (hb hby at_328) (fun _ _ => ⟨rfl, hs294, (by decide : 9 + 0 ≤ _), (by decide : 28 + 0 ≤ _)⟩)
        dsimp only [Pt.U, Pt.locs, Pt.cells, Pt.slots] at X366 l366 y366 z366 st366 hQ366
        subst l366 y366 z366
        obtain ⟨rfl, Nq366, hs366⟩ := hQ366
        have N367 := Fr.app N295 Nq366
        refine OFin.of (S' := T366.setTop (mkF m 331 #[.val (.int p0), .val (.long q1), .second, .val (.long q2), .second, .val (.long q3), .second, .val (.long q4), .second, .val (.int i9), .val (.int i10), .val (.int i11), .val (.int i12), .val (.int i13), .val (.ref s1), .val (.ref s2), .val (.int b16), .val (.long j17), .second, .val (.long l1), .second, .val (.long u1), .second, .val (.long j23), .second, .val (.long j25), .second, .val (.long (own_lmin j23 j25)), .second, .val (.long (own_lmax j23 j25)), .second, .val (.ref b205), .val (.ref b240), .val (.int (0 : Int32)), .unset] [(.long (own_lmin l1 (own_lmin j23 j25)))])) (fun t ht => st366 t ht) ?_
        refine OFin.of (S' := T366.setTop (mkF m 334 #[.val (.int p0), .val (.long q1), .second, .val (.long q2), .second, .val (.long q3), .second, .val (.long q4), .second, .val (.int i9), .val (.int i10), .val (.int i11), .val (.int i12), .val (.int i13), .val (.ref s1), .val (.ref s2), .val (.int b16), .val (.long j17), .second, .val (.long l1), .second, .val (.long u1), .second, .val (.long j23), .second, .val (.long j25), .second, .val (.long (own_lmin j23 j25)), .second, .val (.long (own_lmax j23 j25)), .second, .val (.ref b205), .val (.ref b240), .val (.int (0 : Int32)), .unset] [(.int (lcmpW (own_lmin l1 (own_lmin j23 j25)) (own_lmin j23 j25)))])) (fun t ht => ?_) ?_
        · refine XS.lload X366.here hx rfl (hb hby at_331) rfl ?_
          show Steps p.tables e below (T366.setTop (mkF m 333 _ [(.long (own_lmin j23 j25)), (.long (own_lmin l1 (own_lmin j23 j25)))])) _
          refine XS.lcmp X366.here hx rfl (hb hby at_333) rfl ?_
          exact ht
        by_cases hc368 : (lcmpW (own_lmin l1 (own_lmin j23 j25)) (own_lmin j23 j25)) = (0 : Int32)
        · refine OFin.of (S' := T366.setTop (mkF m 341 #[.val (.int p0), .val (.long q1), .second, .val (.long q2), .second, .val (.long q3), .second, .val (.long q4), .second, .val (.int i9), .val (.int i10), .val (.int i11), .val (.int i12), .val (.int i13), .val (.ref s1), .val (.ref s2), .val (.int b16), .val (.long j17), .second, .val (.long l1), .second, .val (.long u1), .second, .val (.long j23), .second, .val (.long j25), .second, .val (.long (own_lmin j23 j25)), .second, .val (.long (own_lmax j23 j25)), .second, .val (.ref b205), .val (.ref b240), .val (.int (0 : Int32)), .unset] [(.long (own_lmax j23 j25)), (.long u1)])) (fun t ht => ?_) ?_
          · refine XS.ifNo X366.here hx rfl (hb hby at_334) rfl ((if0 _ _).trans (teq (hc368 : (lcmpW (own_lmin l1 (own_lmin j23 j25)) (own_lmin j23 j25)) = (0 : Int32))).2) ?_
            show Steps p.tables e below (T366.setTop (mkF m 337 _ [])) _
            refine XS.lload X366.here hx rfl (hb hby at_337) rfl ?_
            show Steps p.tables e below (T366.setTop (mkF m 339 _ [(.long u1)])) _
            refine XS.lload X366.here hx rfl (hb hby at_339) rfl ?_
            exact ht
          obtain ⟨_, _, ⟨T369, L369, k369, n369⟩, -, X369, ⟨Lc369, hQ369, l369, y369, z369⟩, st369⟩ := Jvm.LawKit.callS X366 hx (y := (⟨"java/lang/Math", "max", "(JJ)J"⟩ : MethodName)) hown (mvT hZ (hw _ (List.mem_of_getElem? (i := 36) rfl))) (mvT hZ (hw _ (List.mem_of_getElem? (i := 37) rfl))) (mvT hZ (hw _ (List.mem_of_getElem? (i := 34) rfl))) (mvT hZ (hw _ (List.mem_of_getElem? (i := 38) rfl))) (by decide) (backOf (W := 0) (rmMx l Z _ hw [] u1 (own_lmax j23 j25) T264.heap n0 Z283 ) hZ (hw _ (List.mem_of_getElem? (i := 38) rfl)) (hw _ (List.mem_of_getElem? (i := 34) rfl)) (by decide) (by decide)) (g := (mkF m 341 #[.val (.int p0), .val (.long q1), .second, .val (.long q2), .second, .val (.long q3), .second, .val (.long q4), .second, .val (.int i9), .val (.int i10), .val (.int i11), .val (.int i12), .val (.int i13), .val (.ref s1), .val (.ref s2), .val (.int b16), .val (.long j17), .second, .val (.long l1), .second, .val (.long u1), .second, .val (.long j23), .second, .val (.long j25), .second, .val (.long (own_lmin j23 j25)), .second, .val (.long (own_lmax j23 j25)), .second, .val (.ref b205), .val (.ref b240), .val (.int (0 : Int32)), .unset] [(.long (own_lmax j23 j25)), (.long u1)])) rfl (by rw [hml]; rfl) (argsL := [(.long u1), (.long (own_lmax j23 j25))]) (rest := []) (lenOf pd_6 rfl) rfl (by show 2 * 0 + _ ≤ _; exact Nat.le_of_eq rfl) (hb hby at_341) (fun _ _ => ⟨rfl, hs366, (by decide : 9 + 0 ≤ _), (by decide : 28 + 0 ≤ _)⟩)
          dsimp only [Pt.U, Pt.locs, Pt.cells, Pt.slots] at X369 l369 y369 z369 st369 hQ369
          subst l369 y369 z369
          obtain ⟨rfl, Nq369, hs369⟩ := hQ369
          have N370 := Fr.app N367 Nq369
          refine OFin.of (S' := T369.setTop (mkF m 344 #[.val (.int p0), .val (.long q1), .second, .val (.long q2), .second, .val (.long q3), .second, .val (.long q4), .second, .val (.int i9), .val (.int i10), .val (.int i11), .val (.int i12), .val (.int i13), .val (.ref s1), .val (.ref s2), .val (.int b16), .val (.long j17), .second, .val (.long l1), .second, .val (.long u1), .second, .val (.long j23), .second, .val (.long j25), .second, .val (.long (own_lmin j23 j25)), .second, .val (.long (own_lmax j23 j25)), .second, .val (.ref b205), .val (.ref b240), .val (.int (0 : Int32)), .unset] [(.long (own_lmax u1 (own_lmax j23 j25)))])) (fun t ht => st369 t ht) ?_
          refine OFin.of (S' := T369.setTop (mkF m 347 #[.val (.int p0), .val (.long q1), .second, .val (.long q2), .second, .val (.long q3), .second, .val (.long q4), .second, .val (.int i9), .val (.int i10), .val (.int i11), .val (.int i12), .val (.int i13), .val (.ref s1), .val (.ref s2), .val (.int b16), .val (.long j17), .second, .val (.long l1), .second, .val (.long u1), .second, .val (.long j23), .second, .val (.long j25), .second, .val (.long (own_lmin j23 j25)), .second, .val (.long (own_lmax j23 j25)), .second, .val (.ref b205), .val (.ref b240), .val (.int (0 : Int32)), .unset] [(.int (lcmpW (own_lmax u1 (own_lmax j23 j25)) (own_lmax j23 j25)))])) (fun t ht => ?_) ?_
          · refine XS.lload X369.here hx rfl (hb hby at_344) rfl ?_
            show Steps p.tables e below (T369.setTop (mkF m 346 _ [(.long (own_lmax j23 j25)), (.long (own_lmax u1 (own_lmax j23 j25)))])) _
            refine XS.lcmp X369.here hx rfl (hb hby at_346) rfl ?_
            exact ht
          by_cases hc371 : (lcmpW (own_lmax u1 (own_lmax j23 j25)) (own_lmax j23 j25)) = (0 : Int32)
          · refine OFin.of (S' := T369.setTop (mkF m 361 #[.val (.int p0), .val (.long q1), .second, .val (.long q2), .second, .val (.long q3), .second, .val (.long q4), .second, .val (.int i9), .val (.int i10), .val (.int i11), .val (.int i12), .val (.int i13), .val (.ref s1), .val (.ref s2), .val (.int b16), .val (.long j17), .second, .val (.long l1), .second, .val (.long u1), .second, .val (.long j23), .second, .val (.long j25), .second, .val (.long (own_lmin j23 j25)), .second, .val (.long (own_lmax j23 j25)), .second, .val (.ref b205), .val (.ref b240), .val (.int (0 : Int32)), .val (.int (1 : Int32))] [(.ref b240), (.ref b205)])) (fun t ht => ?_) ?_
            · refine XS.ifNo X369.here hx rfl (hb hby at_347) rfl ((if0 _ _).trans (teq (hc371 : (lcmpW (own_lmax u1 (own_lmax j23 j25)) (own_lmax j23 j25)) = (0 : Int32))).2) ?_
              show Steps p.tables e below (T369.setTop (mkF m 350 _ [])) _
              refine XS.iconst X369.here hx rfl (hb hby at_350) ?_
              show Steps p.tables e below (T369.setTop (mkF m 351 _ [(.int (1 : Int32))])) _
              refine XS.goto X369.here hx rfl (pc0 := 351) (pc' := 355) rfl (hb hby at_351) (by decide) (by decide) ?_
              show Steps p.tables e below (T369.setTop (mkF m 355 _ [(.int (1 : Int32))])) _
              refine XS.istore X369.here hx rfl (hb hby at_355) rfl (l' := #[.val (.int p0), .val (.long q1), .second, .val (.long q2), .second, .val (.long q3), .second, .val (.long q4), .second, .val (.int i9), .val (.int i10), .val (.int i11), .val (.int i12), .val (.int i13), .val (.ref s1), .val (.ref s2), .val (.int b16), .val (.long j17), .second, .val (.long l1), .second, .val (.long u1), .second, .val (.long j23), .second, .val (.long j25), .second, .val (.long (own_lmin j23 j25)), .second, .val (.long (own_lmax j23 j25)), .second, .val (.ref b205), .val (.ref b240), .val (.int (0 : Int32)), .val (.int (1 : Int32))]) rfl ?_
              show Steps p.tables e below (T369.setTop (mkF m 357 #[.val (.int p0), .val (.long q1), .second, .val (.long q2), .second, .val (.long q3), .second, .val (.long q4), .second, .val (.int i9), .val (.int i10), .val (.int i11), .val (.int i12), .val (.int i13), .val (.ref s1), .val (.ref s2), .val (.int b16), .val (.long j17), .second, .val (.long l1), .second, .val (.long u1), .second, .val (.long j23), .second, .val (.long j25), .second, .val (.long (own_lmin j23 j25)), .second, .val (.long (own_lmax j23 j25)), .second, .val (.ref b205), .val (.ref b240), .val (.int (0 : Int32)), .val (.int (1 : Int32))] [])) _
              refine XS.aload X369.here hx rfl (hb hby at_357) rfl rfl ?_
              show Steps p.tables e below (T369.setTop (mkF m 359 _ [(.ref b205)])) _
              refine XS.aload X369.here hx rfl (hb hby at_359) rfl rfl ?_
              exact ht
            obtain ⟨cq373, kq373, q373a, q373b, q373c⟩ := isOf hZ hs369 f278
            obtain ⟨_, _, ⟨T372, L372, k372, n372⟩, -, X372, ⟨Lc372, hQ372, l372, y372, z372⟩, st372⟩ := X369.virtualBack hx (y := (⟨"com/example/greylag/greylag/model/Bundle", "contains", "(Lcom/example/greylag/greylag/model/Bundle;)Z"⟩ : MethodName)) (z := (⟨"com/example/greylag/greylag/model/Bundle", "contains", "(Lcom/example/greylag/greylag/model/Bundle;)Z"⟩ : MethodName)) hown (mvT hZ (hw _ (List.mem_of_getElem? (i := 52) rfl))) (mvT hZ (hw _ (List.mem_of_getElem? (i := 53) rfl))) (notFace_of_selects (args := #[]) (mvT hZ (hw _ (List.mem_of_getElem? (i := 55) rfl)))) (mvT hZ (hw _ (List.mem_of_getElem? (i := 55) rfl))) (mvT hZ (hw _ (List.mem_of_getElem? (i := 54) rfl))) (by decide) (backOf (W := 0) (rmCo22 l Z _ hw [] b205 b240 s1 s2 l1 u1 (own_lmin j23 j25) (own_lmax j23 j25) (own_leq2 x0 x1 y0 y1) T264.heap n0 Z283 f279 f265 f280 f266 f281 f267 f270 (rmEq22 l Z _ hw [] s1 s2 t1 t2 k1 k2 cs x0 x1 y0 y1 T264.heap n0 Z283 f274 f271 f275 f272 f276 f273 f277 f269 hcs na0)) hZ (hw _ (List.mem_of_getElem? (i := 56) rfl)) (hw _ (List.mem_of_getElem? (i := 41) rfl)) (by decide) (by decide)) q373a q373c (g := (mkF m 361 #[.val (.int p0), .val (.long q1), .second, .val (.long q2), .second, .val (.long q3), .second, .val (.long q4), .second, .val (.int i9), .val (.int i10), .val (.int i11), .val (.int i12), .val (.int i13), .val (.ref s1), .val (.ref s2), .val (.int b16), .val (.long j17), .second, .val (.long l1), .second, .val (.long u1), .second, .val (.long j23), .second, .val (.long j25), .second, .val (.long (own_lmin j23 j25)), .second, .val (.long (own_lmax j23 j25)), .second, .val (.ref b205), .val (.ref b240), .val (.int (0 : Int32)), .val (.int (1 : Int32))] [(.ref b240), (.ref b205)])) rfl (by rw [hml]; rfl) (Steps.refl _) (argsL := [(.ref b240)]) (rest := []) (lenOf pd_8 rfl) rfl (by show 2 * 0 + _ ≤ _; exact Nat.le_of_eq rfl) (hb hby at_361) (fun _ _ => ⟨rfl, hs369, (by decide : 9 + 0 ≤ _), (by decide : 28 + 0 ≤ _)⟩)
            dsimp only [Pt.U, Pt.locs, Pt.cells, Pt.slots] at X372 l372 y372 z372 st372 hQ372
            subst l372 y372 z372
            obtain ⟨rfl, Nq372, hs372⟩ := hQ372
            have N374 := Fr.app N370 Nq372
            refine OFin.to (S' := T372.setTop (mkF m 364 #[.val (.int p0), .val (.long q1), .second, .val (.long q2), .second, .val (.long q3), .second, .val (.long q4), .second, .val (.int i9), .val (.int i10), .val (.int i11), .val (.int i12), .val (.int i13), .val (.ref s1), .val (.ref s2), .val (.int b16), .val (.long j17), .second, .val (.long l1), .second, .val (.long u1), .second, .val (.long j23), .second, .val (.long j25), .second, .val (.long (own_lmin j23 j25)), .second, .val (.long (own_lmax j23 j25)), .second, .val (.ref b205), .val (.ref b240), .val (.int (0 : Int32)), .val (.int (1 : Int32))] [(.int (own_cont (own_leq2 x0 x1 y0 y1) l1 u1 (own_lmin j23 j25) (own_lmax j23 j25)))])) st372 ?_
            refine OFin.of (S' := T372.setTop (mkF m 373 #[.val (.int p0), .val (.long q1), .second, .val (.long q2), .second, .val (.long q3), .second, .val (.long q4), .second, .val (.int i9), .val (.int i10), .val (.int i11), .val (.int i12), .val (.int i13), .val (.ref s1), .val (.ref s2), .val (.int b16), .val (.long j17), .second, .val (.long l1), .second, .val (.long u1), .second, .val (.long j23), .second, .val (.long j25), .second, .val (.long (own_lmin j23 j25)), .second, .val (.long (own_lmax j23 j25)), .second, .val (.ref b205), .val (.ref b240), .val (.int (0 : Int32)), .val (.int (1 : Int32))] [(.ref b205), (.ref b240)])) (fun t ht => ?_) ?_
            · refine XS.iload X372.here hx rfl (hb hby at_364) rfl ?_
              show Steps p.tables e below (T372.setTop (mkF m 366 _ [(.int (0 : Int32)), (.int (own_cont (own_leq2 x0 x1 y0 y1) l1 u1 (own_lmin j23 j25) (own_lmax j23 j25)))])) _
              refine XS.icmpNo X372.here hx rfl (hb hby at_366) rfl (teq (own_t1 hc296 : (own_cont (own_leq2 x0 x1 y0 y1) l1 u1 (own_lmin j23 j25) (own_lmax j23 j25)) = (0 : Int32))).2 ?_
              show Steps p.tables e below (T372.setTop (mkF m 369 _ [])) _
              refine XS.aload X372.here hx rfl (hb hby at_369) rfl rfl ?_
              show Steps p.tables e below (T372.setTop (mkF m 371 _ [(.ref b240)])) _
              refine XS.aload X372.here hx rfl (hb hby at_371) rfl rfl ?_
              exact ht
            obtain ⟨cq376, kq376, q376a, q376b, q376c⟩ := isOf hZ hs372 f282
            obtain ⟨_, _, ⟨T375, L375, k375, n375⟩, -, X375, ⟨Lc375, hQ375, l375, y375, z375⟩, st375⟩ := X372.virtualBack hx (y := (⟨"com/example/greylag/greylag/model/Bundle", "contains", "(Lcom/example/greylag/greylag/model/Bundle;)Z"⟩ : MethodName)) (z := (⟨"com/example/greylag/greylag/model/Bundle", "contains", "(Lcom/example/greylag/greylag/model/Bundle;)Z"⟩ : MethodName)) hown (mvT hZ (hw _ (List.mem_of_getElem? (i := 52) rfl))) (mvT hZ (hw _ (List.mem_of_getElem? (i := 53) rfl))) (notFace_of_selects (args := #[]) (mvT hZ (hw _ (List.mem_of_getElem? (i := 55) rfl)))) (mvT hZ (hw _ (List.mem_of_getElem? (i := 55) rfl))) (mvT hZ (hw _ (List.mem_of_getElem? (i := 54) rfl))) (by decide) (backOf (W := 0) (rmCo22 l Z _ hw [] b240 b205 s2 s1 (own_lmin j23 j25) (own_lmax j23 j25) l1 u1 (own_leq2 y0 y1 x0 x1) T264.heap n0 Z283 f265 f279 f266 f280 f267 f281 f274 (rmEq22 l Z _ hw [] s2 s1 t2 t1 k2 k1 cs y0 y1 x0 x1 T264.heap n0 Z283 f270 f275 f271 f276 f272 f277 f273 f269 hcs (Ne.symm na0))) hZ (hw _ (List.mem_of_getElem? (i := 56) rfl)) (hw _ (List.mem_of_getElem? (i := 41) rfl)) (by decide) (by decide)) q376a q376c (g := (mkF m 373 #[.val (.int p0), .val (.long q1), .second, .val (.long q2), .second, .val (.long q3), .second, .val (.long q4), .second, .val (.int i9), .val (.int i10), .val (.int i11), .val (.int i12), .val (.int i13), .val (.ref s1), .val (.ref s2), .val (.int b16), .val (.long j17), .second, .val (.long l1), .second, .val (.long u1), .second, .val (.long j23), .second, .val (.long j25), .second, .val (.long (own_lmin j23 j25)), .second, .val (.long (own_lmax j23 j25)), .second, .val (.ref b205), .val (.ref b240), .val (.int (0 : Int32)), .val (.int (1 : Int32))] [(.ref b205), (.ref b240)])) rfl (by rw [hml]; rfl) (Steps.refl _) (argsL := [(.ref b205)]) (rest := []) (lenOf pd_8 rfl) rfl (by show 2 * 0 + _ ≤ _; exact Nat.le_of_eq rfl) (hb hby at_373) (fun _ _ => ⟨rfl, hs372, (by decide : 9 + 0 ≤ _), (by decide : 28 + 0 ≤ _)⟩)
            dsimp only [Pt.U, Pt.locs, Pt.cells, Pt.slots] at X375 l375 y375 z375 st375 hQ375
            subst l375 y375 z375
            obtain ⟨rfl, Nq375, hs375⟩ := hQ375
            have N377 := Fr.app N374 Nq375
            refine OFin.to (S' := T375.setTop (mkF m 376 #[.val (.int p0), .val (.long q1), .second, .val (.long q2), .second, .val (.long q3), .second, .val (.long q4), .second, .val (.int i9), .val (.int i10), .val (.int i11), .val (.int i12), .val (.int i13), .val (.ref s1), .val (.ref s2), .val (.int b16), .val (.long j17), .second, .val (.long l1), .second, .val (.long u1), .second, .val (.long j23), .second, .val (.long j25), .second, .val (.long (own_lmin j23 j25)), .second, .val (.long (own_lmax j23 j25)), .second, .val (.ref b205), .val (.ref b240), .val (.int (0 : Int32)), .val (.int (1 : Int32))] [(.int (own_cont (own_leq2 y0 y1 x0 x1) (own_lmin j23 j25) (own_lmax j23 j25) l1 u1))])) st375 ?_
            refine OFin.of (S' := T375.setTop (mkF m 385 #[.val (.int p0), .val (.long q1), .second, .val (.long q2), .second, .val (.long q3), .second, .val (.long q4), .second, .val (.int i9), .val (.int i10), .val (.int i11), .val (.int i12), .val (.int i13), .val (.ref s1), .val (.ref s2), .val (.int b16), .val (.long j17), .second, .val (.long l1), .second, .val (.long u1), .second, .val (.long j23), .second, .val (.long j25), .second, .val (.long (own_lmin j23 j25)), .second, .val (.long (own_lmax j23 j25)), .second, .val (.ref b205), .val (.ref b240), .val (.int (0 : Int32)), .val (.int (1 : Int32))] [(.ref b240), (.ref b240)])) (fun t ht => ?_) ?_
            · refine XS.iload X375.here hx rfl (hb hby at_376) rfl ?_
              show Steps p.tables e below (T375.setTop (mkF m 378 _ [(.int (1 : Int32)), (.int (own_cont (own_leq2 y0 y1 x0 x1) (own_lmin j23 j25) (own_lmax j23 j25) l1 u1))])) _
              refine XS.icmpNo X375.here hx rfl (hb hby at_378) rfl (teq (own_v3 hE hE2 hc284 hc368 hc371 : (own_cont (own_leq2 y0 y1 x0 x1) (own_lmin j23 j25) (own_lmax j23 j25) l1 u1) = (1 : Int32))).2 ?_
              show Steps p.tables e below (T375.setTop (mkF m 381 _ [])) _
              refine XS.aload X375.here hx rfl (hb hby at_381) rfl rfl ?_
              show Steps p.tables e below (T375.setTop (mkF m 383 _ [(.ref b240)])) _
              refine XS.aload X375.here hx rfl (hb hby at_383) rfl rfl ?_
              exact ht
            obtain ⟨cq379, kq379, q379a, q379b, q379c⟩ := isOf hZ hs375 f282
            obtain ⟨_, _, ⟨T378, L378, k378, n378⟩, -, X378, ⟨Lc378, hQ378, l378, y378, z378⟩, st378⟩ := X375.virtualBack hx (y := (⟨"com/example/greylag/greylag/model/Bundle", "contains", "(Lcom/example/greylag/greylag/model/Bundle;)Z"⟩ : MethodName)) (z := (⟨"com/example/greylag/greylag/model/Bundle", "contains", "(Lcom/example/greylag/greylag/model/Bundle;)Z"⟩ : MethodName)) hown (mvT hZ (hw _ (List.mem_of_getElem? (i := 52) rfl))) (mvT hZ (hw _ (List.mem_of_getElem? (i := 53) rfl))) (notFace_of_selects (args := #[]) (mvT hZ (hw _ (List.mem_of_getElem? (i := 55) rfl)))) (mvT hZ (hw _ (List.mem_of_getElem? (i := 55) rfl))) (mvT hZ (hw _ (List.mem_of_getElem? (i := 54) rfl))) (by decide) (backOf (W := 0) (rmCos l Z _ hw [] b240 b240 s2 (own_lmin j23 j25) (own_lmax j23 j25) (own_lmin j23 j25) (own_lmax j23 j25) (1 : Int32) T264.heap n0 Z283 f265 f265 f266 f266 f267 f267 f274 (rmEs l Z _ hw [] s2 T264.heap n0 Z283)) hZ (hw _ (List.mem_of_getElem? (i := 56) rfl)) (hw _ (List.mem_of_getElem? (i := 41) rfl)) (by decide) (by decide)) q379a q379c (g := (mkF m 385 #[.val (.int p0), .val (.long q1), .second, .val (.long q2), .second, .val (.long q3), .second, .val (.long q4), .second, .val (.int i9), .val (.int i10), .val (.int i11), .val (.int i12), .val (.int i13), .val (.ref s1), .val (.ref s2), .val (.int b16), .val (.long j17), .second, .val (.long l1), .second, .val (.long u1), .second, .val (.long j23), .second, .val (.long j25), .second, .val (.long (own_lmin j23 j25)), .second, .val (.long (own_lmax j23 j25)), .second, .val (.ref b205), .val (.ref b240), .val (.int (0 : Int32)), .val (.int (1 : Int32))] [(.ref b240), (.ref b240)])) rfl (by rw [hml]; rfl) (Steps.refl _) (argsL := [(.ref b240)]) (rest := []) (lenOf pd_8 rfl) rfl (by show 2 * 0 + _ ≤ _; exact Nat.le_of_eq rfl) (hb hby at_385) (fun _ _ => ⟨rfl, hs375, (by decide : 9 + 0 ≤ _), (by decide : 28 + 0 ≤ _)⟩)
            dsimp only [Pt.U, Pt.locs, Pt.cells, Pt.slots] at X378 l378 y378 z378 st378 hQ378
            subst l378 y378 z378
            obtain ⟨rfl, Nq378, hs378⟩ := hQ378
            have N380 := Fr.app N377 Nq378
            refine OFin.to (S' := T378.setTop (mkF m 388 #[.val (.int p0), .val (.long q1), .second, .val (.long q2), .second, .val (.long q3), .second, .val (.long q4), .second, .val (.int i9), .val (.int i10), .val (.int i11), .val (.int i12), .val (.int i13), .val (.ref s1), .val (.ref s2), .val (.int b16), .val (.long j17), .second, .val (.long l1), .second, .val (.long u1), .second, .val (.long j23), .second, .val (.long j25), .second, .val (.long (own_lmin j23 j25)), .second, .val (.long (own_lmax j23 j25)), .second, .val (.ref b205), .val (.ref b240), .val (.int (0 : Int32)), .val (.int (1 : Int32))] [(.int (own_cont (1 : Int32) (own_lmin j23 j25) (own_lmax j23 j25) (own_lmin j23 j25) (own_lmax j23 j25)))])) st378 ?_
            refine OFin.of (S' := T378.setTop (mkF m 396 #[.val (.int p0), .val (.long q1), .second, .val (.long q2), .second, .val (.long q3), .second, .val (.long q4), .second, .val (.int i9), .val (.int i10), .val (.int i11), .val (.int i12), .val (.int i13), .val (.ref s1), .val (.ref s2), .val (.int b16), .val (.long j17), .second, .val (.long l1), .second, .val (.long u1), .second, .val (.long j23), .second, .val (.long j25), .second, .val (.long (own_lmin j23 j25)), .second, .val (.long (own_lmax j23 j25)), .second, .val (.ref b205), .val (.ref b240), .val (.int (0 : Int32)), .val (.int (1 : Int32))] [(.int (1 : Int32))])) (fun t ht => ?_) ?_
            · refine XS.ifNo X378.here hx rfl (hb hby at_388) rfl ((if0 _ _).trans (feq (own_r3 _ _ : ¬ ((own_cont (1 : Int32) (own_lmin j23 j25) (own_lmax j23 j25) (own_lmin j23 j25) (own_lmax j23 j25)) = (0 : Int32)))).1) ?_
              show Steps p.tables e below (T378.setTop (mkF m 391 _ [])) _
              refine XS.iconst X378.here hx rfl (hb hby at_391) ?_
              show Steps p.tables e below (T378.setTop (mkF m 392 _ [(.int (1 : Int32))])) _
              refine XS.goto X378.here hx rfl (pc0 := 392) (pc' := 396) rfl (hb hby at_392) (by decide) (by decide) ?_
              exact ht
            exact OFin.retB X378 hx hlk (t := .boolean) (by simp) hret (hb hby at_396) (by decide) (by decide) (by rw [hs378]; exact hQ _ _ N380)
          · refine OFin.of (S' := T369.setTop (mkF m 361 #[.val (.int p0), .val (.long q1), .second, .val (.long q2), .second, .val (.long q3), .second, .val (.long q4), .second, .val (.int i9), .val (.int i10), .val (.int i11), .val (.int i12), .val (.int i13), .val (.ref s1), .val (.ref s2), .val (.int b16), .val (.long j17), .second, .val (.long l1), .second, .val (.long u1), .second, .val (.long j23), .second, .val (.long j25), .second, .val (.long (own_lmin j23 j25)), .second, .val (.long (own_lmax j23 j25)), .second, .val (.ref b205), .val (.ref b240), .val (.int (0 : Int32)), .val (.int (0 : Int32))] [(.ref b240), (.ref b205)])) (fun t ht => ?_) ?_
            · refine XS.ifYes X369.here hx rfl (pc0 := 347) (pc' := 354) rfl (hb hby at_347) rfl ((if0 _ _).trans (feq (hc371 : ¬ ((lcmpW (own_lmax u1 (own_lmax j23 j25)) (own_lmax j23 j25)) = (0 : Int32)))).2) (by decide) (by decide) ?_
              show Steps p.tables e below (T369.setTop (mkF m 354 _ [])) _
              refine XS.iconst X369.here hx rfl (hb hby at_354) ?_
              show Steps p.tables e below (T369.setTop (mkF m 355 _ [(.int (0 : Int32))])) _
              refine XS.istore X369.here hx rfl (hb hby at_355) rfl (l' := #[.val (.int p0), .val (.long q1), .second, .val (.long q2), .second, .val (.long q3), .second, .val (.long q4), .second, .val (.int i9), .val (.int i10), .val (.int i11), .val (.int i12), .val (.int i13), .val (.ref s1), .val (.ref s2), .val (.int b16), .val (.long j17), .second, .val (.long l1), .second, .val (.long u1), .second, .val (.long j23), .second, .val (.long j25), .second, .val (.long (own_lmin j23 j25)), .second, .val (.long (own_lmax j23 j25)), .second, .val (.ref b205), .val (.ref b240), .val (.int (0 : Int32)), .val (.int (0 : Int32))]) rfl ?_
              show Steps p.tables e below (T369.setTop (mkF m 357 #[.val (.int p0), .val (.long q1), .second, .val (.long q2), .second, .val (.long q3), .second, .val (.long q4), .second, .val (.int i9), .val (.int i10), .val (.int i11), .val (.int i12), .val (.int i13), .val (.ref s1), .val (.ref s2), .val (.int b16), .val (.long j17), .second, .val (.long l1), .second, .val (.long u1), .second, .val (.long j23), .second, .val (.long j25), .second, .val (.long (own_lmin j23 j25)), .second, .val (.long (own_lmax j23 j25)), .second, .val (.ref b205), .val (.ref b240), .val (.int (0 : Int32)), .val (.int (0 : Int32))] [])) _
              refine XS.aload X369.here hx rfl (hb hby at_357) rfl rfl ?_
              show Steps p.tables e below (T369.setTop (mkF m 359 _ [(.ref b205)])) _
              refine XS.aload X369.here hx rfl (hb hby at_359) rfl rfl ?_
              exact ht
            obtain ⟨cq382, kq382, q382a, q382b, q382c⟩ := isOf hZ hs369 f278
            obtain ⟨_, _, ⟨T381, L381, k381, n381⟩, -, X381, ⟨Lc381, hQ381, l381, y381, z381⟩, st381⟩ := X369.virtualBack hx (y := (⟨"com/example/greylag/greylag/model/Bundle", "contains", "(Lcom/example/greylag/greylag/model/Bundle;)Z"⟩ : MethodName)) (z := (⟨"com/example/greylag/greylag/model/Bundle", "contains", "(Lcom/example/greylag/greylag/model/Bundle;)Z"⟩ : MethodName)) hown (mvT hZ (hw _ (List.mem_of_getElem? (i := 52) rfl))) (mvT hZ (hw _ (List.mem_of_getElem? (i := 53) rfl))) (notFace_of_selects (args := #[]) (mvT hZ (hw _ (List.mem_of_getElem? (i := 55) rfl)))) (mvT hZ (hw _ (List.mem_of_getElem? (i := 55) rfl))) (mvT hZ (hw _ (List.mem_of_getElem? (i := 54) rfl))) (by decide) (backOf (W := 0) (rmCo22 l Z _ hw [] b205 b240 s1 s2 l1 u1 (own_lmin j23 j25) (own_lmax j23 j25) (own_leq2 x0 x1 y0 y1) T264.heap n0 Z283 f279 f265 f280 f266 f281 f267 f270 (rmEq22 l Z _ hw [] s1 s2 t1 t2 k1 k2 cs x0 x1 y0 y1 T264.heap n0 Z283 f274 f271 f275 f272 f276 f273 f277 f269 hcs na0)) hZ (hw _ (List.mem_of_getElem? (i := 56) rfl)) (hw _ (List.mem_of_getElem? (i := 41) rfl)) (by decide) (by decide)) q382a q382c (g := (mkF m 361 #[.val (.int p0), .val (.long q1), .second, .val (.long q2), .second, .val (.long q3), .second, .val (.long q4), .second, .val (.int i9), .val (.int i10), .val (.int i11), .val (.int i12), .val (.int i13), .val (.ref s1), .val (.ref s2), .val (.int b16), .val (.long j17), .second, .val (.long l1), .second, .val (.long u1), .second, .val (.long j23), .second, .val (.long j25), .second, .val (.long (own_lmin j23 j25)), .second, .val (.long (own_lmax j23 j25)), .second, .val (.ref b205), .val (.ref b240), .val (.int (0 : Int32)), .val (.int (0 : Int32))] [(.ref b240), (.ref b205)])) rfl (by rw [hml]; rfl) (Steps.refl _) (argsL := [(.ref b240)]) (rest := []) (lenOf pd_8 rfl) rfl (by show 2 * 0 + _ ≤ _; exact Nat.le_of_eq rfl) (hb hby at_361) (fun _ _ => ⟨rfl, hs369, (by decide : 9 + 0 ≤ _), (by decide : 28 + 0 ≤ _)⟩)
            dsimp only [Pt.U, Pt.locs, Pt.cells, Pt.slots] at X381 l381 y381 z381 st381 hQ381
            subst l381 y381 z381
            obtain ⟨rfl, Nq381, hs381⟩ := hQ381
            have N383 := Fr.app N370 Nq381
            refine OFin.to (S' := T381.setTop (mkF m 364 #[.val (.int p0), .val (.long q1), .second, .val (.long q2), .second, .val (.long q3), .second, .val (.long q4), .second, .val (.int i9), .val (.int i10), .val (.int i11), .val (.int i12), .val (.int i13), .val (.ref s1), .val (.ref s2), .val (.int b16), .val (.long j17), .second, .val (.long l1), .second, .val (.long u1), .second, .val (.long j23), .second, .val (.long j25), .second, .val (.long (own_lmin j23 j25)), .second, .val (.long (own_lmax j23 j25)), .second, .val (.ref b205), .val (.ref b240), .val (.int (0 : Int32)), .val (.int (0 : Int32))] [(.int (own_cont (own_leq2 x0 x1 y0 y1) l1 u1 (own_lmin j23 j25) (own_lmax j23 j25)))])) st381 ?_
            refine OFin.of (S' := T381.setTop (mkF m 373 #[.val (.int p0), .val (.long q1), .second, .val (.long q2), .second, .val (.long q3), .second, .val (.long q4), .second, .val (.int i9), .val (.int i10), .val (.int i11), .val (.int i12), .val (.int i13), .val (.ref s1), .val (.ref s2), .val (.int b16), .val (.long j17), .second, .val (.long l1), .second, .val (.long u1), .second, .val (.long j23), .second, .val (.long j25), .second, .val (.long (own_lmin j23 j25)), .second, .val (.long (own_lmax j23 j25)), .second, .val (.ref b205), .val (.ref b240), .val (.int (0 : Int32)), .val (.int (0 : Int32))] [(.ref b205), (.ref b240)])) (fun t ht => ?_) ?_
            · refine XS.iload X381.here hx rfl (hb hby at_364) rfl ?_
              show Steps p.tables e below (T381.setTop (mkF m 366 _ [(.int (0 : Int32)), (.int (own_cont (own_leq2 x0 x1 y0 y1) l1 u1 (own_lmin j23 j25) (own_lmax j23 j25)))])) _
              refine XS.icmpNo X381.here hx rfl (hb hby at_366) rfl (teq (own_t1 hc296 : (own_cont (own_leq2 x0 x1 y0 y1) l1 u1 (own_lmin j23 j25) (own_lmax j23 j25)) = (0 : Int32))).2 ?_
              show Steps p.tables e below (T381.setTop (mkF m 369 _ [])) _
              refine XS.aload X381.here hx rfl (hb hby at_369) rfl rfl ?_
              show Steps p.tables e below (T381.setTop (mkF m 371 _ [(.ref b240)])) _
              refine XS.aload X381.here hx rfl (hb hby at_371) rfl rfl ?_
              exact ht
            obtain ⟨cq385, kq385, q385a, q385b, q385c⟩ := isOf hZ hs381 f282
            obtain ⟨_, _, ⟨T384, L384, k384, n384⟩, -, X384, ⟨Lc384, hQ384, l384, y384, z384⟩, st384⟩ := X381.virtualBack hx (y := (⟨"com/example/greylag/greylag/model/Bundle", "contains", "(Lcom/example/greylag/greylag/model/Bundle;)Z"⟩ : MethodName)) (z := (⟨"com/example/greylag/greylag/model/Bundle", "contains", "(Lcom/example/greylag/greylag/model/Bundle;)Z"⟩ : MethodName)) hown (mvT hZ (hw _ (List.mem_of_getElem? (i := 52) rfl))) (mvT hZ (hw _ (List.mem_of_getElem? (i := 53) rfl))) (notFace_of_selects (args := #[]) (mvT hZ (hw _ (List.mem_of_getElem? (i := 55) rfl)))) (mvT hZ (hw _ (List.mem_of_getElem? (i := 55) rfl))) (mvT hZ (hw _ (List.mem_of_getElem? (i := 54) rfl))) (by decide) (backOf (W := 0) (rmCo22 l Z _ hw [] b240 b205 s2 s1 (own_lmin j23 j25) (own_lmax j23 j25) l1 u1 (own_leq2 y0 y1 x0 x1) T264.heap n0 Z283 f265 f279 f266 f280 f267 f281 f274 (rmEq22 l Z _ hw [] s2 s1 t2 t1 k2 k1 cs y0 y1 x0 x1 T264.heap n0 Z283 f270 f275 f271 f276 f272 f277 f273 f269 hcs (Ne.symm na0))) hZ (hw _ (List.mem_of_getElem? (i := 56) rfl)) (hw _ (List.mem_of_getElem? (i := 41) rfl)) (by decide) (by decide)) q385a q385c (g := (mkF m 373 #[.val (.int p0), .val (.long q1), .second, .val (.long q2), .second, .val (.long q3), .second, .val (.long q4), .second, .val (.int i9), .val (.int i10), .val (.int i11), .val (.int i12), .val (.int i13), .val (.ref s1), .val (.ref s2), .val (.int b16), .val (.long j17), .second, .val (.long l1), .second, .val (.long u1), .second, .val (.long j23), .second, .val (.long j25), .second, .val (.long (own_lmin j23 j25)), .second, .val (.long (own_lmax j23 j25)), .second, .val (.ref b205), .val (.ref b240), .val (.int (0 : Int32)), .val (.int (0 : Int32))] [(.ref b205), (.ref b240)])) rfl (by rw [hml]; rfl) (Steps.refl _) (argsL := [(.ref b205)]) (rest := []) (lenOf pd_8 rfl) rfl (by show 2 * 0 + _ ≤ _; exact Nat.le_of_eq rfl) (hb hby at_373) (fun _ _ => ⟨rfl, hs381, (by decide : 9 + 0 ≤ _), (by decide : 28 + 0 ≤ _)⟩)
            dsimp only [Pt.U, Pt.locs, Pt.cells, Pt.slots] at X384 l384 y384 z384 st384 hQ384
            subst l384 y384 z384
            obtain ⟨rfl, Nq384, hs384⟩ := hQ384
            have N386 := Fr.app N383 Nq384
            refine OFin.to (S' := T384.setTop (mkF m 376 #[.val (.int p0), .val (.long q1), .second, .val (.long q2), .second, .val (.long q3), .second, .val (.long q4), .second, .val (.int i9), .val (.int i10), .val (.int i11), .val (.int i12), .val (.int i13), .val (.ref s1), .val (.ref s2), .val (.int b16), .val (.long j17), .second, .val (.long l1), .second, .val (.long u1), .second, .val (.long j23), .second, .val (.long j25), .second, .val (.long (own_lmin j23 j25)), .second, .val (.long (own_lmax j23 j25)), .second, .val (.ref b205), .val (.ref b240), .val (.int (0 : Int32)), .val (.int (0 : Int32))] [(.int (own_cont (own_leq2 y0 y1 x0 x1) (own_lmin j23 j25) (own_lmax j23 j25) l1 u1))])) st384 ?_
            refine OFin.of (S' := T384.setTop (mkF m 385 #[.val (.int p0), .val (.long q1), .second, .val (.long q2), .second, .val (.long q3), .second, .val (.long q4), .second, .val (.int i9), .val (.int i10), .val (.int i11), .val (.int i12), .val (.int i13), .val (.ref s1), .val (.ref s2), .val (.int b16), .val (.long j17), .second, .val (.long l1), .second, .val (.long u1), .second, .val (.long j23), .second, .val (.long j25), .second, .val (.long (own_lmin j23 j25)), .second, .val (.long (own_lmax j23 j25)), .second, .val (.ref b205), .val (.ref b240), .val (.int (0 : Int32)), .val (.int (0 : Int32))] [(.ref b240), (.ref b240)])) (fun t ht => ?_) ?_
            · refine XS.iload X384.here hx rfl (hb hby at_376) rfl ?_
              show Steps p.tables e below (T384.setTop (mkF m 378 _ [(.int (0 : Int32)), (.int (own_cont (own_leq2 y0 y1 x0 x1) (own_lmin j23 j25) (own_lmax j23 j25) l1 u1))])) _
              refine XS.icmpNo X384.here hx rfl (hb hby at_378) rfl (teq (own_v2 hc371 : (own_cont (own_leq2 y0 y1 x0 x1) (own_lmin j23 j25) (own_lmax j23 j25) l1 u1) = (0 : Int32))).2 ?_
              show Steps p.tables e below (T384.setTop (mkF m 381 _ [])) _
              refine XS.aload X384.here hx rfl (hb hby at_381) rfl rfl ?_
              show Steps p.tables e below (T384.setTop (mkF m 383 _ [(.ref b240)])) _
              refine XS.aload X384.here hx rfl (hb hby at_383) rfl rfl ?_
              exact ht
            obtain ⟨cq388, kq388, q388a, q388b, q388c⟩ := isOf hZ hs384 f282
            obtain ⟨_, _, ⟨T387, L387, k387, n387⟩, -, X387, ⟨Lc387, hQ387, l387, y387, z387⟩, st387⟩ := X384.virtualBack hx (y := (⟨"com/example/greylag/greylag/model/Bundle", "contains", "(Lcom/example/greylag/greylag/model/Bundle;)Z"⟩ : MethodName)) (z := (⟨"com/example/greylag/greylag/model/Bundle", "contains", "(Lcom/example/greylag/greylag/model/Bundle;)Z"⟩ : MethodName)) hown (mvT hZ (hw _ (List.mem_of_getElem? (i := 52) rfl))) (mvT hZ (hw _ (List.mem_of_getElem? (i := 53) rfl))) (notFace_of_selects (args := #[]) (mvT hZ (hw _ (List.mem_of_getElem? (i := 55) rfl)))) (mvT hZ (hw _ (List.mem_of_getElem? (i := 55) rfl))) (mvT hZ (hw _ (List.mem_of_getElem? (i := 54) rfl))) (by decide) (backOf (W := 0) (rmCos l Z _ hw [] b240 b240 s2 (own_lmin j23 j25) (own_lmax j23 j25) (own_lmin j23 j25) (own_lmax j23 j25) (1 : Int32) T264.heap n0 Z283 f265 f265 f266 f266 f267 f267 f274 (rmEs l Z _ hw [] s2 T264.heap n0 Z283)) hZ (hw _ (List.mem_of_getElem? (i := 56) rfl)) (hw _ (List.mem_of_getElem? (i := 41) rfl)) (by decide) (by decide)) q388a q388c (g := (mkF m 385 #[.val (.int p0), .val (.long q1), .second, .val (.long q2), .second, .val (.long q3), .second, .val (.long q4), .second, .val (.int i9), .val (.int i10), .val (.int i11), .val (.int i12), .val (.int i13), .val (.ref s1), .val (.ref s2), .val (.int b16), .val (.long j17), .second, .val (.long l1), .second, .val (.long u1), .second, .val (.long j23), .second, .val (.long j25), .second, .val (.long (own_lmin j23 j25)), .second, .val (.long (own_lmax j23 j25)), .second, .val (.ref b205), .val (.ref b240), .val (.int (0 : Int32)), .val (.int (0 : Int32))] [(.ref b240), (.ref b240)])) rfl (by rw [hml]; rfl) (Steps.refl _) (argsL := [(.ref b240)]) (rest := []) (lenOf pd_8 rfl) rfl (by show 2 * 0 + _ ≤ _; exact Nat.le_of_eq rfl) (hb hby at_385) (fun _ _ => ⟨rfl, hs384, (by decide : 9 + 0 ≤ _), (by decide : 28 + 0 ≤ _)⟩)
            dsimp only [Pt.U, Pt.locs, Pt.cells, Pt.slots] at X387 l387 y387 z387 st387 hQ387
            subst l387 y387 z387
            obtain ⟨rfl, Nq387, hs387⟩ := hQ387
            have N389 := Fr.app N386 Nq387
            refine OFin.to (S' := T387.setTop (mkF m 388 #[.val (.int p0), .val (.long q1), .second, .val (.long q2), .second, .val (.long q3), .second, .val (.long q4), .second, .val (.int i9), .val (.int i10), .val (.int i11), .val (.int i12), .val (.int i13), .val (.ref s1), .val (.ref s2), .val (.int b16), .val (.long j17), .second, .val (.long l1), .second, .val (.long u1), .second, .val (.long j23), .second, .val (.long j25), .second, .val (.long (own_lmin j23 j25)), .second, .val (.long (own_lmax j23 j25)), .second, .val (.ref b205), .val (.ref b240), .val (.int (0 : Int32)), .val (.int (0 : Int32))] [(.int (own_cont (1 : Int32) (own_lmin j23 j25) (own_lmax j23 j25) (own_lmin j23 j25) (own_lmax j23 j25)))])) st387 ?_
            refine OFin.of (S' := T387.setTop (mkF m 396 #[.val (.int p0), .val (.long q1), .second, .val (.long q2), .second, .val (.long q3), .second, .val (.long q4), .second, .val (.int i9), .val (.int i10), .val (.int i11), .val (.int i12), .val (.int i13), .val (.ref s1), .val (.ref s2), .val (.int b16), .val (.long j17), .second, .val (.long l1), .second, .val (.long u1), .second, .val (.long j23), .second, .val (.long j25), .second, .val (.long (own_lmin j23 j25)), .second, .val (.long (own_lmax j23 j25)), .second, .val (.ref b205), .val (.ref b240), .val (.int (0 : Int32)), .val (.int (0 : Int32))] [(.int (1 : Int32))])) (fun t ht => ?_) ?_
            · refine XS.ifNo X387.here hx rfl (hb hby at_388) rfl ((if0 _ _).trans (feq (own_r3 _ _ : ¬ ((own_cont (1 : Int32) (own_lmin j23 j25) (own_lmax j23 j25) (own_lmin j23 j25) (own_lmax j23 j25)) = (0 : Int32)))).1) ?_
              show Steps p.tables e below (T387.setTop (mkF m 391 _ [])) _
              refine XS.iconst X387.here hx rfl (hb hby at_391) ?_
              show Steps p.tables e below (T387.setTop (mkF m 392 _ [(.int (1 : Int32))])) _
              refine XS.goto X387.here hx rfl (pc0 := 392) (pc' := 396) rfl (hb hby at_392) (by decide) (by decide) ?_
              exact ht
            exact OFin.retB X387 hx hlk (t := .boolean) (by simp) hret (hb hby at_396) (by decide) (by decide) (by rw [hs387]; exact hQ _ _ N389)
        · refine OFin.of (S' := T366.setTop (mkF m 361 #[.val (.int p0), .val (.long q1), .second, .val (.long q2), .second, .val (.long q3), .second, .val (.long q4), .second, .val (.int i9), .val (.int i10), .val (.int i11), .val (.int i12), .val (.int i13), .val (.ref s1), .val (.ref s2), .val (.int b16), .val (.long j17), .second, .val (.long l1), .second, .val (.long u1), .second, .val (.long j23), .second, .val (.long j25), .second, .val (.long (own_lmin j23 j25)), .second, .val (.long (own_lmax j23 j25)), .second, .val (.ref b205), .val (.ref b240), .val (.int (0 : Int32)), .val (.int (0 : Int32))] [(.ref b240), (.ref b205)])) (fun t ht => ?_) ?_
          · refine XS.ifYes X366.here hx rfl (pc0 := 334) (pc' := 354) rfl (hb hby at_334) rfl ((if0 _ _).trans (feq (hc368 : ¬ ((lcmpW (own_lmin l1 (own_lmin j23 j25)) (own_lmin j23 j25)) = (0 : Int32)))).2) (by decide) (by decide) ?_
            show Steps p.tables e below (T366.setTop (mkF m 354 _ [])) _
            refine XS.iconst X366.here hx rfl (hb hby at_354) ?_
            show Steps p.tables e below (T366.setTop (mkF m 355 _ [(.int (0 : Int32))])) _
            refine XS.istore X366.here hx rfl (hb hby at_355) rfl (l' := #[.val (.int p0), .val (.long q1), .second, .val (.long q2), .second, .val (.long q3), .second, .val (.long q4), .second, .val (.int i9), .val (.int i10), .val (.int i11), .val (.int i12), .val (.int i13), .val (.ref s1), .val (.ref s2), .val (.int b16), .val (.long j17), .second, .val (.long l1), .second, .val (.long u1), .second, .val (.long j23), .second, .val (.long j25), .second, .val (.long (own_lmin j23 j25)), .second, .val (.long (own_lmax j23 j25)), .second, .val (.ref b205), .val (.ref b240), .val (.int (0 : Int32)), .val (.int (0 : Int32))]) rfl ?_
            show Steps p.tables e below (T366.setTop (mkF m 357 #[.val (.int p0), .val (.long q1), .second, .val (.long q2), .second, .val (.long q3), .second, .val (.long q4), .second, .val (.int i9), .val (.int i10), .val (.int i11), .val (.int i12), .val (.int i13), .val (.ref s1), .val (.ref s2), .val (.int b16), .val (.long j17), .second, .val (.long l1), .second, .val (.long u1), .second, .val (.long j23), .second, .val (.long j25), .second, .val (.long (own_lmin j23 j25)), .second, .val (.long (own_lmax j23 j25)), .second, .val (.ref b205), .val (.ref b240), .val (.int (0 : Int32)), .val (.int (0 : Int32))] [])) _
            refine XS.aload X366.here hx rfl (hb hby at_357) rfl rfl ?_
            show Steps p.tables e below (T366.setTop (mkF m 359 _ [(.ref b205)])) _
            refine XS.aload X366.here hx rfl (hb hby at_359) rfl rfl ?_
            exact ht
          obtain ⟨cq391, kq391, q391a, q391b, q391c⟩ := isOf hZ hs366 f278
          obtain ⟨_, _, ⟨T390, L390, k390, n390⟩, -, X390, ⟨Lc390, hQ390, l390, y390, z390⟩, st390⟩ := X366.virtualBack hx (y := (⟨"com/example/greylag/greylag/model/Bundle", "contains", "(Lcom/example/greylag/greylag/model/Bundle;)Z"⟩ : MethodName)) (z := (⟨"com/example/greylag/greylag/model/Bundle", "contains", "(Lcom/example/greylag/greylag/model/Bundle;)Z"⟩ : MethodName)) hown (mvT hZ (hw _ (List.mem_of_getElem? (i := 52) rfl))) (mvT hZ (hw _ (List.mem_of_getElem? (i := 53) rfl))) (notFace_of_selects (args := #[]) (mvT hZ (hw _ (List.mem_of_getElem? (i := 55) rfl)))) (mvT hZ (hw _ (List.mem_of_getElem? (i := 55) rfl))) (mvT hZ (hw _ (List.mem_of_getElem? (i := 54) rfl))) (by decide) (backOf (W := 0) (rmCo22 l Z _ hw [] b205 b240 s1 s2 l1 u1 (own_lmin j23 j25) (own_lmax j23 j25) (own_leq2 x0 x1 y0 y1) T264.heap n0 Z283 f279 f265 f280 f266 f281 f267 f270 (rmEq22 l Z _ hw [] s1 s2 t1 t2 k1 k2 cs x0 x1 y0 y1 T264.heap n0 Z283 f274 f271 f275 f272 f276 f273 f277 f269 hcs na0)) hZ (hw _ (List.mem_of_getElem? (i := 56) rfl)) (hw _ (List.mem_of_getElem? (i := 41) rfl)) (by decide) (by decide)) q391a q391c (g := (mkF m 361 #[.val (.int p0), .val (.long q1), .second, .val (.long q2), .second, .val (.long q3), .second, .val (.long q4), .second, .val (.int i9), .val (.int i10), .val (.int i11), .val (.int i12), .val (.int i13), .val (.ref s1), .val (.ref s2), .val (.int b16), .val (.long j17), .second, .val (.long l1), .second, .val (.long u1), .second, .val (.long j23), .second, .val (.long j25), .second, .val (.long (own_lmin j23 j25)), .second, .val (.long (own_lmax j23 j25)), .second, .val (.ref b205), .val (.ref b240), .val (.int (0 : Int32)), .val (.int (0 : Int32))] [(.ref b240), (.ref b205)])) rfl (by rw [hml]; rfl) (Steps.refl _) (argsL := [(.ref b240)]) (rest := []) (lenOf pd_8 rfl) rfl (by show 2 * 0 + _ ≤ _; exact Nat.le_of_eq rfl) (hb hby at_361) (fun _ _ => ⟨rfl, hs366, (by decide : 9 + 0 ≤ _), (by decide : 28 + 0 ≤ _)⟩)
          dsimp only [Pt.U, Pt.locs, Pt.cells, Pt.slots] at X390 l390 y390 z390 st390 hQ390
          subst l390 y390 z390
          obtain ⟨rfl, Nq390, hs390⟩ := hQ390
          have N392 := Fr.app N367 Nq390
          refine OFin.to (S' := T390.setTop (mkF m 364 #[.val (.int p0), .val (.long q1), .second, .val (.long q2), .second, .val (.long q3), .second, .val (.long q4), .second, .val (.int i9), .val (.int i10), .val (.int i11), .val (.int i12), .val (.int i13), .val (.ref s1), .val (.ref s2), .val (.int b16), .val (.long j17), .second, .val (.long l1), .second, .val (.long u1), .second, .val (.long j23), .second, .val (.long j25), .second, .val (.long (own_lmin j23 j25)), .second, .val (.long (own_lmax j23 j25)), .second, .val (.ref b205), .val (.ref b240), .val (.int (0 : Int32)), .val (.int (0 : Int32))] [(.int (own_cont (own_leq2 x0 x1 y0 y1) l1 u1 (own_lmin j23 j25) (own_lmax j23 j25)))])) st390 ?_
          refine OFin.of (S' := T390.setTop (mkF m 373 #[.val (.int p0), .val (.long q1), .second, .val (.long q2), .second, .val (.long q3), .second, .val (.long q4), .second, .val (.int i9), .val (.int i10), .val (.int i11), .val (.int i12), .val (.int i13), .val (.ref s1), .val (.ref s2), .val (.int b16), .val (.long j17), .second, .val (.long l1), .second, .val (.long u1), .second, .val (.long j23), .second, .val (.long j25), .second, .val (.long (own_lmin j23 j25)), .second, .val (.long (own_lmax j23 j25)), .second, .val (.ref b205), .val (.ref b240), .val (.int (0 : Int32)), .val (.int (0 : Int32))] [(.ref b205), (.ref b240)])) (fun t ht => ?_) ?_
          · refine XS.iload X390.here hx rfl (hb hby at_364) rfl ?_
            show Steps p.tables e below (T390.setTop (mkF m 366 _ [(.int (0 : Int32)), (.int (own_cont (own_leq2 x0 x1 y0 y1) l1 u1 (own_lmin j23 j25) (own_lmax j23 j25)))])) _
            refine XS.icmpNo X390.here hx rfl (hb hby at_366) rfl (teq (own_t1 hc296 : (own_cont (own_leq2 x0 x1 y0 y1) l1 u1 (own_lmin j23 j25) (own_lmax j23 j25)) = (0 : Int32))).2 ?_
            show Steps p.tables e below (T390.setTop (mkF m 369 _ [])) _
            refine XS.aload X390.here hx rfl (hb hby at_369) rfl rfl ?_
            show Steps p.tables e below (T390.setTop (mkF m 371 _ [(.ref b240)])) _
            refine XS.aload X390.here hx rfl (hb hby at_371) rfl rfl ?_
            exact ht
          obtain ⟨cq394, kq394, q394a, q394b, q394c⟩ := isOf hZ hs390 f282
          obtain ⟨_, _, ⟨T393, L393, k393, n393⟩, -, X393, ⟨Lc393, hQ393, l393, y393, z393⟩, st393⟩ := X390.virtualBack hx (y := (⟨"com/example/greylag/greylag/model/Bundle", "contains", "(Lcom/example/greylag/greylag/model/Bundle;)Z"⟩ : MethodName)) (z := (⟨"com/example/greylag/greylag/model/Bundle", "contains", "(Lcom/example/greylag/greylag/model/Bundle;)Z"⟩ : MethodName)) hown (mvT hZ (hw _ (List.mem_of_getElem? (i := 52) rfl))) (mvT hZ (hw _ (List.mem_of_getElem? (i := 53) rfl))) (notFace_of_selects (args := #[]) (mvT hZ (hw _ (List.mem_of_getElem? (i := 55) rfl)))) (mvT hZ (hw _ (List.mem_of_getElem? (i := 55) rfl))) (mvT hZ (hw _ (List.mem_of_getElem? (i := 54) rfl))) (by decide) (backOf (W := 0) (rmCo22 l Z _ hw [] b240 b205 s2 s1 (own_lmin j23 j25) (own_lmax j23 j25) l1 u1 (own_leq2 y0 y1 x0 x1) T264.heap n0 Z283 f265 f279 f266 f280 f267 f281 f274 (rmEq22 l Z _ hw [] s2 s1 t2 t1 k2 k1 cs y0 y1 x0 x1 T264.heap n0 Z283 f270 f275 f271 f276 f272 f277 f273 f269 hcs (Ne.symm na0))) hZ (hw _ (List.mem_of_getElem? (i := 56) rfl)) (hw _ (List.mem_of_getElem? (i := 41) rfl)) (by decide) (by decide)) q394a q394c (g := (mkF m 373 #[.val (.int p0), .val (.long q1), .second, .val (.long q2), .second, .val (.long q3), .second, .val (.long q4), .second, .val (.int i9), .val (.int i10), .val (.int i11), .val (.int i12), .val (.int i13), .val (.ref s1), .val (.ref s2), .val (.int b16), .val (.long j17), .second, .val (.long l1), .second, .val (.long u1), .second, .val (.long j23), .second, .val (.long j25), .second, .val (.long (own_lmin j23 j25)), .second, .val (.long (own_lmax j23 j25)), .second, .val (.ref b205), .val (.ref b240), .val (.int (0 : Int32)), .val (.int (0 : Int32))] [(.ref b205), (.ref b240)])) rfl (by rw [hml]; rfl) (Steps.refl _) (argsL := [(.ref b205)]) (rest := []) (lenOf pd_8 rfl) rfl (by show 2 * 0 + _ ≤ _; exact Nat.le_of_eq rfl) (hb hby at_373) (fun _ _ => ⟨rfl, hs390, (by decide : 9 + 0 ≤ _), (by decide : 28 + 0 ≤ _)⟩)
          dsimp only [Pt.U, Pt.locs, Pt.cells, Pt.slots] at X393 l393 y393 z393 st393 hQ393
          subst l393 y393 z393
          obtain ⟨rfl, Nq393, hs393⟩ := hQ393
          have N395 := Fr.app N392 Nq393
          refine OFin.to (S' := T393.setTop (mkF m 376 #[.val (.int p0), .val (.long q1), .second, .val (.long q2), .second, .val (.long q3), .second, .val (.long q4), .second, .val (.int i9), .val (.int i10), .val (.int i11), .val (.int i12), .val (.int i13), .val (.ref s1), .val (.ref s2), .val (.int b16), .val (.long j17), .second, .val (.long l1), .second, .val (.long u1), .second, .val (.long j23), .second, .val (.long j25), .second, .val (.long (own_lmin j23 j25)), .second, .val (.long (own_lmax j23 j25)), .second, .val (.ref b205), .val (.ref b240), .val (.int (0 : Int32)), .val (.int (0 : Int32))] [(.int (own_cont (own_leq2 y0 y1 x0 x1) (own_lmin j23 j25) (own_lmax j23 j25) l1 u1))])) st393 ?_
          refine OFin.of (S' := T393.setTop (mkF m 385 #[.val (.int p0), .val (.long q1), .second, .val (.long q2), .second, .val (.long q3), .second, .val (.long q4), .second, .val (.int i9), .val (.int i10), .val (.int i11), .val (.int i12), .val (.int i13), .val (.ref s1), .val (.ref s2), .val (.int b16), .val (.long j17), .second, .val (.long l1), .second, .val (.long u1), .second, .val (.long j23), .second, .val (.long j25), .second, .val (.long (own_lmin j23 j25)), .second, .val (.long (own_lmax j23 j25)), .second, .val (.ref b205), .val (.ref b240), .val (.int (0 : Int32)), .val (.int (0 : Int32))] [(.ref b240), (.ref b240)])) (fun t ht => ?_) ?_
          · refine XS.iload X393.here hx rfl (hb hby at_376) rfl ?_
            show Steps p.tables e below (T393.setTop (mkF m 378 _ [(.int (0 : Int32)), (.int (own_cont (own_leq2 y0 y1 x0 x1) (own_lmin j23 j25) (own_lmax j23 j25) l1 u1))])) _
            refine XS.icmpNo X393.here hx rfl (hb hby at_378) rfl (teq (own_v1 hc368 : (own_cont (own_leq2 y0 y1 x0 x1) (own_lmin j23 j25) (own_lmax j23 j25) l1 u1) = (0 : Int32))).2 ?_
            show Steps p.tables e below (T393.setTop (mkF m 381 _ [])) _
            refine XS.aload X393.here hx rfl (hb hby at_381) rfl rfl ?_
            show Steps p.tables e below (T393.setTop (mkF m 383 _ [(.ref b240)])) _
            refine XS.aload X393.here hx rfl (hb hby at_383) rfl rfl ?_
            exact ht
          obtain ⟨cq397, kq397, q397a, q397b, q397c⟩ := isOf hZ hs393 f282
          obtain ⟨_, _, ⟨T396, L396, k396, n396⟩, -, X396, ⟨Lc396, hQ396, l396, y396, z396⟩, st396⟩ := X393.virtualBack hx (y := (⟨"com/example/greylag/greylag/model/Bundle", "contains", "(Lcom/example/greylag/greylag/model/Bundle;)Z"⟩ : MethodName)) (z := (⟨"com/example/greylag/greylag/model/Bundle", "contains", "(Lcom/example/greylag/greylag/model/Bundle;)Z"⟩ : MethodName)) hown (mvT hZ (hw _ (List.mem_of_getElem? (i := 52) rfl))) (mvT hZ (hw _ (List.mem_of_getElem? (i := 53) rfl))) (notFace_of_selects (args := #[]) (mvT hZ (hw _ (List.mem_of_getElem? (i := 55) rfl)))) (mvT hZ (hw _ (List.mem_of_getElem? (i := 55) rfl))) (mvT hZ (hw _ (List.mem_of_getElem? (i := 54) rfl))) (by decide) (backOf (W := 0) (rmCos l Z _ hw [] b240 b240 s2 (own_lmin j23 j25) (own_lmax j23 j25) (own_lmin j23 j25) (own_lmax j23 j25) (1 : Int32) T264.heap n0 Z283 f265 f265 f266 f266 f267 f267 f274 (rmEs l Z _ hw [] s2 T264.heap n0 Z283)) hZ (hw _ (List.mem_of_getElem? (i := 56) rfl)) (hw _ (List.mem_of_getElem? (i := 41) rfl)) (by decide) (by decide)) q397a q397c (g := (mkF m 385 #[.val (.int p0), .val (.long q1), .second, .val (.long q2), .second, .val (.long q3), .second, .val (.long q4), .second, .val (.int i9), .val (.int i10), .val (.int i11), .val (.int i12), .val (.int i13), .val (.ref s1), .val (.ref s2), .val (.int b16), .val (.long j17), .second, .val (.long l1), .second, .val (.long u1), .second, .val (.long j23), .second, .val (.long j25), .second, .val (.long (own_lmin j23 j25)), .second, .val (.long (own_lmax j23 j25)), .second, .val (.ref b205), .val (.ref b240), .val (.int (0 : Int32)), .val (.int (0 : Int32))] [(.ref b240), (.ref b240)])) rfl (by rw [hml]; rfl) (Steps.refl _) (argsL := [(.ref b240)]) (rest := []) (lenOf pd_8 rfl) rfl (by show 2 * 0 + _ ≤ _; exact Nat.le_of_eq rfl) (hb hby at_385) (fun _ _ => ⟨rfl, hs393, (by decide : 9 + 0 ≤ _), (by decide : 28 + 0 ≤ _)⟩)
          dsimp only [Pt.U, Pt.locs, Pt.cells, Pt.slots] at X396 l396 y396 z396 st396 hQ396
          subst l396 y396 z396
          obtain ⟨rfl, Nq396, hs396⟩ := hQ396
          have N398 := Fr.app N395 Nq396
          refine OFin.to (S' := T396.setTop (mkF m 388 #[.val (.int p0), .val (.long q1), .second, .val (.long q2), .second, .val (.long q3), .second, .val (.long q4), .second, .val (.int i9), .val (.int i10), .val (.int i11), .val (.int i12), .val (.int i13), .val (.ref s1), .val (.ref s2), .val (.int b16), .val (.long j17), .second, .val (.long l1), .second, .val (.long u1), .second, .val (.long j23), .second, .val (.long j25), .second, .val (.long (own_lmin j23 j25)), .second, .val (.long (own_lmax j23 j25)), .second, .val (.ref b205), .val (.ref b240), .val (.int (0 : Int32)), .val (.int (0 : Int32))] [(.int (own_cont (1 : Int32) (own_lmin j23 j25) (own_lmax j23 j25) (own_lmin j23 j25) (own_lmax j23 j25)))])) st396 ?_
          refine OFin.of (S' := T396.setTop (mkF m 396 #[.val (.int p0), .val (.long q1), .second, .val (.long q2), .second, .val (.long q3), .second, .val (.long q4), .second, .val (.int i9), .val (.int i10), .val (.int i11), .val (.int i12), .val (.int i13), .val (.ref s1), .val (.ref s2), .val (.int b16), .val (.long j17), .second, .val (.long l1), .second, .val (.long u1), .second, .val (.long j23), .second, .val (.long j25), .second, .val (.long (own_lmin j23 j25)), .second, .val (.long (own_lmax j23 j25)), .second, .val (.ref b205), .val (.ref b240), .val (.int (0 : Int32)), .val (.int (0 : Int32))] [(.int (1 : Int32))])) (fun t ht => ?_) ?_
          · refine XS.ifNo X396.here hx rfl (hb hby at_388) rfl ((if0 _ _).trans (feq (own_r3 _ _ : ¬ ((own_cont (1 : Int32) (own_lmin j23 j25) (own_lmax j23 j25) (own_lmin j23 j25) (own_lmax j23 j25)) = (0 : Int32)))).1) ?_
            show Steps p.tables e below (T396.setTop (mkF m 391 _ [])) _
            refine XS.iconst X396.here hx rfl (hb hby at_391) ?_
            show Steps p.tables e below (T396.setTop (mkF m 392 _ [(.int (1 : Int32))])) _
            refine XS.goto X396.here hx rfl (pc0 := 392) (pc' := 396) rfl (hb hby at_392) (by decide) (by decide) ?_
            exact ht
          exact OFin.retB X396 hx hlk (t := .boolean) (by simp) hret (hb hby at_396) (by decide) (by decide) (by rw [hs396]; exact hQ _ _ N398)
theorem pn0 : plainName "com/example/greylag/greylag/model/BundleContainsPinLaw" = true := by first | (simp [plainName, overriddenIn]; done) | decide +kernel
theorem ef0 (m : MethodId) (p0 : Int32) (q1 : Int64) (q2 : Int64) (q3 : Int64) (q4 : Int64) : entryFrame m #[(.int p0), (.long q1), (.long q2), (.long q3), (.long q4)] maxLocals = mkF m 0 #[.val (.int p0), .val (.long q1), .second, .val (.long q2), .second, .val (.long q3), .second, .val (.long q4), .second, .unset, .unset, .unset, .unset, .unset, .unset, .unset, .unset, .unset, .unset, .unset, .unset, .unset, .unset, .unset, .unset, .unset, .unset, .unset, .unset, .unset, .unset, .unset, .unset, .unset, .unset] [] := by first | (simp [entryFrame, mkF, argsToLocals, Value.category, maxLocals]; done) | rfl
def Q0 (Z : State) (p0 : Int32) (q1 : Int64) (q2 : Int64) (q3 : Int64) (q4 : Int64) (cs : Int32) (h0 : Heap) (n0 : Nat) (v : Option Value) (h : Heap) (L : List Loc) : Prop := v = some (.int (1 : Int32)) ∧ Fr n0 L
set_option maxRecDepth 65536 in
set_option maxHeartbeats 40000000 in
theorem rm0 (l : Launch) (Z : State) (a0 : Array Value) (hw : ∀ d ∈ tables_1, d.before a0 Z = true) (ws : List Jvm.Cond) (p0 : Int32) (q1 : Int64) (q2 : Int64) (q3 : Int64) (q4 : Int64) (cs : Int32) (h0 : Heap) (n0 : Nat) (Z0 : n0 ≤ h0.size) (Scs : Sta Z h0 "java/lang/String" "COMPACT_STRINGS" "Z" (.int cs)) (hcs : ¬ cs = (0 : Int32)) :
    MetFree l x (head1 (Jvm.Cond.code x code maxLocals ret :: ws) room_1) (fun a U => a = #[(.int p0), (.long q1), (.long q2), (.long q3), (.long q4)] ∧ Z.Warmed39 U.vm ∧ U.heap = h0) (fun _ _ _ _ _ => True) (fun _ U o U' => ∃ v L, o = .returned v ∧ Q0 Z p0 q1 q2 q3 q4 cs h0 n0 v U'.heap L ∧ FrameEnd U o U' L room_1.cells room_1.slots) := by
  refine MetFree.of_bodySF (plainFor_of_name pn0) hisR ?_
  intro p e s m args below meth c s₁ Bd hml0 hP hK
  obtain ⟨rfl, hZ, hh⟩ := hP
  have hx := Bd.exec
  have hby := Bd.bytes
  have hlk := BodyLoose.notSynchronized Bd
  have hret := Bd.returns
  have hml : c.maxLocals = 35 := hml0
  have hown : s.vm.findClass "com/example/greylag/greylag/model/BundleContainsPinLaw" = some m.cls := findClass_of_methodNamed Bd.named
  have hnm := (name_of_methodNamed Bd.named Bd.method).1
  have X0 : Stand p l e room_1 s m #[(.int p0), (.long q1), (.long q2), (.long q3), (.long q4)] below meth c s₁ [] 0 0 := Stand.of_body Bd
  have e0 : s₁.heap = h0 := by rw [← hh, Bd.state]; rfl
  have N0 := Fr.nil n0
  show OFin p e below (KPost s (Q0 Z p0 q1 q2 q3 q4 cs h0 n0) room_1.cells room_1.slots) _
  rw [ef0 m p0 q1 q2 q3 q4]
  refine OFin.of (S' := s₁.setTop (mkF m 6 #[.val (.int p0), .val (.long q1), .second, .val (.long q2), .second, .val (.long q3), .second, .val (.long q4), .second, .unset, .unset, .unset, .unset, .unset, .unset, .unset, .unset, .unset, .unset, .unset, .unset, .unset, .unset, .unset, .unset, .unset, .unset, .unset, .unset, .unset, .unset, .unset, .unset, .unset, .unset] [(.int ((p0 &&& (255 : Int32)).toUInt32.toUInt16.toUInt32.toInt32))])) (fun t ht => ?_) ?_
  · refine XS.iloadN X0.here hx rfl (hb hby at_0) rfl ?_
    show Steps p.tables e below (s₁.setTop (mkF m 1 _ [(.int p0)])) _
    refine XS.sipush X0.here hx rfl (hb hby at_1) ?_
    show Steps p.tables e below (s₁.setTop (mkF m 4 _ [(.int (255 : Int32)), (.int p0)])) _
    refine XS.iand X0.here hx rfl (hb hby at_4) rfl ?_
    show Steps p.tables e below (s₁.setTop (mkF m 5 _ [(.int (p0 &&& (255 : Int32)))])) _
    refine XS.i2c X0.here hx rfl (hb hby at_5) rfl ?_
    exact ht
  obtain ⟨i9, h_i9⟩ : ∃ z : Int32, z = ((p0 &&& (255 : Int32)).toUInt32.toUInt16.toUInt32.toInt32) := ⟨_, rfl⟩
  rw [← h_i9]
  refine OFin.of (S' := s₁.setTop (mkF m 17 #[.val (.int p0), .val (.long q1), .second, .val (.long q2), .second, .val (.long q3), .second, .val (.long q4), .second, .val (.int i9), .unset, .unset, .unset, .unset, .unset, .unset, .unset, .unset, .unset, .unset, .unset, .unset, .unset, .unset, .unset, .unset, .unset, .unset, .unset, .unset, .unset, .unset, .unset, .unset, .unset] [(.int ((((p0.toUInt32 >>> ((8 : Int32) &&& 31).toUInt32).toInt32) &&& (255 : Int32)).toUInt32.toUInt16.toUInt32.toInt32))])) (fun t ht => ?_) ?_
  · refine XS.istore X0.here hx rfl (hb hby at_6) rfl (l' := #[.val (.int p0), .val (.long q1), .second, .val (.long q2), .second, .val (.long q3), .second, .val (.long q4), .second, .val (.int i9), .unset, .unset, .unset, .unset, .unset, .unset, .unset, .unset, .unset, .unset, .unset, .unset, .unset, .unset, .unset, .unset, .unset, .unset, .unset, .unset, .unset, .unset, .unset, .unset, .unset]) rfl ?_
    show Steps p.tables e below (s₁.setTop (mkF m 8 #[.val (.int p0), .val (.long q1), .second, .val (.long q2), .second, .val (.long q3), .second, .val (.long q4), .second, .val (.int i9), .unset, .unset, .unset, .unset, .unset, .unset, .unset, .unset, .unset, .unset, .unset, .unset, .unset, .unset, .unset, .unset, .unset, .unset, .unset, .unset, .unset, .unset, .unset, .unset, .unset] [])) _
    refine XS.iloadN X0.here hx rfl (hb hby at_8) rfl ?_
    show Steps p.tables e below (s₁.setTop (mkF m 9 _ [(.int p0)])) _
    refine XS.bipush X0.here hx rfl (hb hby at_9) ?_
    show Steps p.tables e below (s₁.setTop (mkF m 11 _ [(.int (8 : Int32)), (.int p0)])) _
    refine XS.iushr X0.here hx rfl (hb hby at_11) rfl ?_
    show Steps p.tables e below (s₁.setTop (mkF m 12 _ [(.int ((p0.toUInt32 >>> ((8 : Int32) &&& 31).toUInt32).toInt32))])) _
    refine XS.sipush X0.here hx rfl (hb hby at_12) ?_
    show Steps p.tables e below (s₁.setTop (mkF m 15 _ [(.int (255 : Int32)), (.int ((p0.toUInt32 >>> ((8 : Int32) &&& 31).toUInt32).toInt32))])) _
    refine XS.iand X0.here hx rfl (hb hby at_15) rfl ?_
    show Steps p.tables e below (s₁.setTop (mkF m 16 _ [(.int (((p0.toUInt32 >>> ((8 : Int32) &&& 31).toUInt32).toInt32) &&& (255 : Int32)))])) _
    refine XS.i2c X0.here hx rfl (hb hby at_16) rfl ?_
    exact ht
  obtain ⟨i10, h_i10⟩ : ∃ z : Int32, z = ((((p0.toUInt32 >>> ((8 : Int32) &&& 31).toUInt32).toInt32) &&& (255 : Int32)).toUInt32.toUInt16.toUInt32.toInt32) := ⟨_, rfl⟩
  rw [← h_i10]
  refine OFin.of (S' := s₁.setTop (mkF m 29 #[.val (.int p0), .val (.long q1), .second, .val (.long q2), .second, .val (.long q3), .second, .val (.long q4), .second, .val (.int i9), .val (.int i10), .unset, .unset, .unset, .unset, .unset, .unset, .unset, .unset, .unset, .unset, .unset, .unset, .unset, .unset, .unset, .unset, .unset, .unset, .unset, .unset, .unset, .unset, .unset, .unset] [(.int ((i9 ^^^ (((p0.toUInt32 >>> ((16 : Int32) &&& 31).toUInt32).toInt32) &&& (1 : Int32))).toUInt32.toUInt16.toUInt32.toInt32))])) (fun t ht => ?_) ?_
  · refine XS.istore X0.here hx rfl (hb hby at_17) rfl (l' := #[.val (.int p0), .val (.long q1), .second, .val (.long q2), .second, .val (.long q3), .second, .val (.long q4), .second, .val (.int i9), .val (.int i10), .unset, .unset, .unset, .unset, .unset, .unset, .unset, .unset, .unset, .unset, .unset, .unset, .unset, .unset, .unset, .unset, .unset, .unset, .unset, .unset, .unset, .unset, .unset, .unset]) rfl ?_
    show Steps p.tables e below (s₁.setTop (mkF m 19 #[.val (.int p0), .val (.long q1), .second, .val (.long q2), .second, .val (.long q3), .second, .val (.long q4), .second, .val (.int i9), .val (.int i10), .unset, .unset, .unset, .unset, .unset, .unset, .unset, .unset, .unset, .unset, .unset, .unset, .unset, .unset, .unset, .unset, .unset, .unset, .unset, .unset, .unset, .unset, .unset, .unset] [])) _
    refine XS.iload X0.here hx rfl (hb hby at_19) rfl ?_
    show Steps p.tables e below (s₁.setTop (mkF m 21 _ [(.int i9)])) _
    refine XS.iloadN X0.here hx rfl (hb hby at_21) rfl ?_
    show Steps p.tables e below (s₁.setTop (mkF m 22 _ [(.int p0), (.int i9)])) _
    refine XS.bipush X0.here hx rfl (hb hby at_22) ?_
    show Steps p.tables e below (s₁.setTop (mkF m 24 _ [(.int (16 : Int32)), (.int p0), (.int i9)])) _
    refine XS.iushr X0.here hx rfl (hb hby at_24) rfl ?_
    show Steps p.tables e below (s₁.setTop (mkF m 25 _ [(.int ((p0.toUInt32 >>> ((16 : Int32) &&& 31).toUInt32).toInt32)), (.int i9)])) _
    refine XS.iconst X0.here hx rfl (hb hby at_25) ?_
    show Steps p.tables e below (s₁.setTop (mkF m 26 _ [(.int (1 : Int32)), (.int ((p0.toUInt32 >>> ((16 : Int32) &&& 31).toUInt32).toInt32)), (.int i9)])) _
    refine XS.iand X0.here hx rfl (hb hby at_26) rfl ?_
    show Steps p.tables e below (s₁.setTop (mkF m 27 _ [(.int (((p0.toUInt32 >>> ((16 : Int32) &&& 31).toUInt32).toInt32) &&& (1 : Int32))), (.int i9)])) _
    refine XS.ixor X0.here hx rfl (hb hby at_27) rfl ?_
    show Steps p.tables e below (s₁.setTop (mkF m 28 _ [(.int (i9 ^^^ (((p0.toUInt32 >>> ((16 : Int32) &&& 31).toUInt32).toInt32) &&& (1 : Int32))))])) _
    refine XS.i2c X0.here hx rfl (hb hby at_28) rfl ?_
    exact ht
  obtain ⟨i11, h_i11⟩ : ∃ z : Int32, z = ((i9 ^^^ (((p0.toUInt32 >>> ((16 : Int32) &&& 31).toUInt32).toInt32) &&& (1 : Int32))).toUInt32.toUInt16.toUInt32.toInt32) := ⟨_, rfl⟩
  rw [← h_i11]
  refine OFin.of (S' := s₁.setTop (mkF m 41 #[.val (.int p0), .val (.long q1), .second, .val (.long q2), .second, .val (.long q3), .second, .val (.long q4), .second, .val (.int i9), .val (.int i10), .val (.int i11), .unset, .unset, .unset, .unset, .unset, .unset, .unset, .unset, .unset, .unset, .unset, .unset, .unset, .unset, .unset, .unset, .unset, .unset, .unset, .unset, .unset, .unset, .unset] [(.int ((i10 ^^^ (((p0.toUInt32 >>> ((17 : Int32) &&& 31).toUInt32).toInt32) &&& (1 : Int32))).toUInt32.toUInt16.toUInt32.toInt32))])) (fun t ht => ?_) ?_
  · refine XS.istore X0.here hx rfl (hb hby at_29) rfl (l' := #[.val (.int p0), .val (.long q1), .second, .val (.long q2), .second, .val (.long q3), .second, .val (.long q4), .second, .val (.int i9), .val (.int i10), .val (.int i11), .unset, .unset, .unset, .unset, .unset, .unset, .unset, .unset, .unset, .unset, .unset, .unset, .unset, .unset, .unset, .unset, .unset, .unset, .unset, .unset, .unset, .unset, .unset]) rfl ?_
    show Steps p.tables e below (s₁.setTop (mkF m 31 #[.val (.int p0), .val (.long q1), .second, .val (.long q2), .second, .val (.long q3), .second, .val (.long q4), .second, .val (.int i9), .val (.int i10), .val (.int i11), .unset, .unset, .unset, .unset, .unset, .unset, .unset, .unset, .unset, .unset, .unset, .unset, .unset, .unset, .unset, .unset, .unset, .unset, .unset, .unset, .unset, .unset, .unset] [])) _
    refine XS.iload X0.here hx rfl (hb hby at_31) rfl ?_
    show Steps p.tables e below (s₁.setTop (mkF m 33 _ [(.int i10)])) _
    refine XS.iloadN X0.here hx rfl (hb hby at_33) rfl ?_
    show Steps p.tables e below (s₁.setTop (mkF m 34 _ [(.int p0), (.int i10)])) _
    refine XS.bipush X0.here hx rfl (hb hby at_34) ?_
    show Steps p.tables e below (s₁.setTop (mkF m 36 _ [(.int (17 : Int32)), (.int p0), (.int i10)])) _
    refine XS.iushr X0.here hx rfl (hb hby at_36) rfl ?_
    show Steps p.tables e below (s₁.setTop (mkF m 37 _ [(.int ((p0.toUInt32 >>> ((17 : Int32) &&& 31).toUInt32).toInt32)), (.int i10)])) _
    refine XS.iconst X0.here hx rfl (hb hby at_37) ?_
    show Steps p.tables e below (s₁.setTop (mkF m 38 _ [(.int (1 : Int32)), (.int ((p0.toUInt32 >>> ((17 : Int32) &&& 31).toUInt32).toInt32)), (.int i10)])) _
    refine XS.iand X0.here hx rfl (hb hby at_38) rfl ?_
    show Steps p.tables e below (s₁.setTop (mkF m 39 _ [(.int (((p0.toUInt32 >>> ((17 : Int32) &&& 31).toUInt32).toInt32) &&& (1 : Int32))), (.int i10)])) _
    refine XS.ixor X0.here hx rfl (hb hby at_39) rfl ?_
    show Steps p.tables e below (s₁.setTop (mkF m 40 _ [(.int (i10 ^^^ (((p0.toUInt32 >>> ((17 : Int32) &&& 31).toUInt32).toInt32) &&& (1 : Int32))))])) _
    refine XS.i2c X0.here hx rfl (hb hby at_40) rfl ?_
    exact ht
  obtain ⟨i12, h_i12⟩ : ∃ z : Int32, z = ((i10 ^^^ (((p0.toUInt32 >>> ((17 : Int32) &&& 31).toUInt32).toInt32) &&& (1 : Int32))).toUInt32.toUInt16.toUInt32.toInt32) := ⟨_, rfl⟩
  rw [← h_i12]
  refine OFin.of (S' := s₁.setTop (mkF m 49 #[.val (.int p0), .val (.long q1), .second, .val (.long q2), .second, .val (.long q3), .second, .val (.long q4), .second, .val (.int i9), .val (.int i10), .val (.int i11), .val (.int i12), .unset, .unset, .unset, .unset, .unset, .unset, .unset, .unset, .unset, .unset, .unset, .unset, .unset, .unset, .unset, .unset, .unset, .unset, .unset, .unset, .unset, .unset] [(.int (((p0.toUInt32 >>> ((18 : Int32) &&& 31).toUInt32).toInt32) &&& (1 : Int32)))])) (fun t ht => ?_) ?_
  · refine XS.istore X0.here hx rfl (hb hby at_41) rfl (l' := #[.val (.int p0), .val (.long q1), .second, .val (.long q2), .second, .val (.long q3), .second, .val (.long q4), .second, .val (.int i9), .val (.int i10), .val (.int i11), .val (.int i12), .unset, .unset, .unset, .unset, .unset, .unset, .unset, .unset, .unset, .unset, .unset, .unset, .unset, .unset, .unset, .unset, .unset, .unset, .unset, .unset, .unset, .unset]) rfl ?_
    show Steps p.tables e below (s₁.setTop (mkF m 43 #[.val (.int p0), .val (.long q1), .second, .val (.long q2), .second, .val (.long q3), .second, .val (.long q4), .second, .val (.int i9), .val (.int i10), .val (.int i11), .val (.int i12), .unset, .unset, .unset, .unset, .unset, .unset, .unset, .unset, .unset, .unset, .unset, .unset, .unset, .unset, .unset, .unset, .unset, .unset, .unset, .unset, .unset, .unset] [])) _
    refine XS.iloadN X0.here hx rfl (hb hby at_43) rfl ?_
    show Steps p.tables e below (s₁.setTop (mkF m 44 _ [(.int p0)])) _
    refine XS.bipush X0.here hx rfl (hb hby at_44) ?_
    show Steps p.tables e below (s₁.setTop (mkF m 46 _ [(.int (18 : Int32)), (.int p0)])) _
    refine XS.iushr X0.here hx rfl (hb hby at_46) rfl ?_
    show Steps p.tables e below (s₁.setTop (mkF m 47 _ [(.int ((p0.toUInt32 >>> ((18 : Int32) &&& 31).toUInt32).toInt32))])) _
    refine XS.iconst X0.here hx rfl (hb hby at_47) ?_
    show Steps p.tables e below (s₁.setTop (mkF m 48 _ [(.int (1 : Int32)), (.int ((p0.toUInt32 >>> ((18 : Int32) &&& 31).toUInt32).toInt32))])) _
    refine XS.iand X0.here hx rfl (hb hby at_48) rfl ?_
    exact ht
  by_cases hc399 : (((p0.toUInt32 >>> ((18 : Int32) &&& 31).toUInt32).toInt32) &&& (1 : Int32)) = (0 : Int32)
  · refine OFin.of (S' := s₁.setTop (mkF m 59 #[.val (.int p0), .val (.long q1), .second, .val (.long q2), .second, .val (.long q3), .second, .val (.long q4), .second, .val (.int i9), .val (.int i10), .val (.int i11), .val (.int i12), .val (.int (0 : Int32)), .unset, .unset, .unset, .unset, .unset, .unset, .unset, .unset, .unset, .unset, .unset, .unset, .unset, .unset, .unset, .unset, .unset, .unset, .unset, .unset, .unset] [])) (fun t ht => ?_) ?_
    · refine XS.ifYes X0.here hx rfl (pc0 := 49) (pc' := 56) rfl (hb hby at_49) rfl ((if0 _ _).trans (teq (hc399 : (((p0.toUInt32 >>> ((18 : Int32) &&& 31).toUInt32).toInt32) &&& (1 : Int32)) = (0 : Int32))).1) (by decide) (by decide) ?_
      show Steps p.tables e below (s₁.setTop (mkF m 56 _ [])) _
      refine XS.iconst X0.here hx rfl (hb hby at_56) ?_
      show Steps p.tables e below (s₁.setTop (mkF m 57 _ [(.int (0 : Int32))])) _
      refine XS.istore X0.here hx rfl (hb hby at_57) rfl (l' := #[.val (.int p0), .val (.long q1), .second, .val (.long q2), .second, .val (.long q3), .second, .val (.long q4), .second, .val (.int i9), .val (.int i10), .val (.int i11), .val (.int i12), .val (.int (0 : Int32)), .unset, .unset, .unset, .unset, .unset, .unset, .unset, .unset, .unset, .unset, .unset, .unset, .unset, .unset, .unset, .unset, .unset, .unset, .unset, .unset, .unset]) rfl ?_
      exact ht
    obtain ⟨T400, h400, X400, e400, E400, A400, D400, -, st400⟩ := newO X0 hx hZ hown (hw _ (List.mem_of_getElem? (i := 0) rfl)) (hw _ (List.mem_of_getElem? (i := 1) rfl)) (hw _ (List.mem_of_getElem? (i := 2) rfl)) e0 (g := (mkF m 59 #[.val (.int p0), .val (.long q1), .second, .val (.long q2), .second, .val (.long q3), .second, .val (.long q4), .second, .val (.int i9), .val (.int i10), .val (.int i11), .val (.int i12), .val (.int (0 : Int32)), .unset, .unset, .unset, .unset, .unset, .unset, .unset, .unset, .unset, .unset, .unset, .unset, .unset, .unset, .unset, .unset, .unset, .unset, .unset, .unset, .unset] [])) rfl (hb hby at_59) (by decide) (by decide)
    obtain ⟨b400, gq400⟩ : ∃ z, z = h0.size := ⟨_, rfl⟩
    rw [← gq400] at A400 D400 st400
    have g401 : n0 ≤ b400 := (Nat.le_trans Z0 (Nat.le_of_eq gq400.symm))
    have f402 := Scs.ext E400
    have Z403 : n0 ≤ h400.size := (Nat.le_trans Z0 E400.1)
    have f404 : Fld Z h400 b400 "java/lang/String" "coder" "B" (.int (0 : Int32)) := D400 (Or.inr (hw _ (List.mem_of_getElem? (i := 27) rfl))) (ty := .byte) (by decide)
    have f405 : Fld Z h400 b400 "java/lang/String" "value" "[B" .null := D400 (Or.inr (hw _ (List.mem_of_getElem? (i := 29) rfl))) (ty := (.array .byte)) (by decide)
    refine OFin.of (S' := T400.setTop (mkF m 62 #[.val (.int p0), .val (.long q1), .second, .val (.long q2), .second, .val (.long q3), .second, .val (.long q4), .second, .val (.int i9), .val (.int i10), .val (.int i11), .val (.int i12), .val (.int (0 : Int32)), .unset, .unset, .unset, .unset, .unset, .unset, .unset, .unset, .unset, .unset, .unset, .unset, .unset, .unset, .unset, .unset, .unset, .unset, .unset, .unset, .unset] [(.ref b400)])) (fun t ht => st400 t ht) ?_
    refine OFin.of (S' := T400.setTop (mkF m 64 #[.val (.int p0), .val (.long q1), .second, .val (.long q2), .second, .val (.long q3), .second, .val (.long q4), .second, .val (.int i9), .val (.int i10), .val (.int i11), .val (.int i12), .val (.int (0 : Int32)), .unset, .unset, .unset, .unset, .unset, .unset, .unset, .unset, .unset, .unset, .unset, .unset, .unset, .unset, .unset, .unset, .unset, .unset, .unset, .unset, .unset] [(.int (2 : Int32)), (.ref b400), (.ref b400)])) (fun t ht => ?_) ?_
    · refine XS.dup X400.here hx rfl (hb hby at_62) rfl rfl ?_
      show Steps p.tables e below (T400.setTop (mkF m 63 _ [(.ref b400), (.ref b400)])) _
      refine XS.iconst X400.here hx rfl (hb hby at_63) ?_
      exact ht
    obtain ⟨T406, h406, k406, X406, e406, E406, A406, st406⟩ := newP X400 hx hZ (hw _ (List.mem_of_getElem? (i := 3) rfl)) e400 (g := (mkF m 64 #[.val (.int p0), .val (.long q1), .second, .val (.long q2), .second, .val (.long q3), .second, .val (.long q4), .second, .val (.int i9), .val (.int i10), .val (.int i11), .val (.int i12), .val (.int (0 : Int32)), .unset, .unset, .unset, .unset, .unset, .unset, .unset, .unset, .unset, .unset, .unset, .unset, .unset, .unset, .unset, .unset, .unset, .unset, .unset, .unset, .unset] [(.int (2 : Int32)), (.ref b400), (.ref b400)])) rfl (hb hby at_64) rfl (by decide) (cap := 2) (by decide) (by decide) (by decide) (by decide)
    obtain ⟨b406, gq406⟩ : ∃ z, z = h400.size := ⟨_, rfl⟩
    rw [← gq406] at A406 st406
    have g407 : n0 ≤ b406 := (Nat.le_trans Z403 (Nat.le_of_eq gq406.symm))
    have ne408 : b400 ≠ b406 := (Nat.ne_of_lt (Nat.lt_of_lt_of_le A400.lt (Nat.le_of_eq gq406.symm)))
    have f409 := f402.ext E406
    have f410 := A400.ext E406
    have f411 := f404.ext E406
    have f412 := f405.ext E406
    have Z413 : n0 ≤ h406.size := (Nat.le_trans Z403 E406.1)
    have f414 : Arv Z h406 b406 k406 .char (2 : Int32) [(.int (0 : Int32)), (.int (0 : Int32))] (.int (0 : Int32)) := ((Arv.new A406 (by decide)).pad (pad_rep [] (.int (0 : Int32)) 2))
    refine OFin.of (S' := T406.setTop (mkF m 66 #[.val (.int p0), .val (.long q1), .second, .val (.long q2), .second, .val (.long q3), .second, .val (.long q4), .second, .val (.int i9), .val (.int i10), .val (.int i11), .val (.int i12), .val (.int (0 : Int32)), .unset, .unset, .unset, .unset, .unset, .unset, .unset, .unset, .unset, .unset, .unset, .unset, .unset, .unset, .unset, .unset, .unset, .unset, .unset, .unset, .unset] [(.ref b406), (.ref b400), (.ref b400)])) (fun t ht => st406 t ht) ?_
    refine OFin.of (S' := T406.setTop (mkF m 70 #[.val (.int p0), .val (.long q1), .second, .val (.long q2), .second, .val (.long q3), .second, .val (.long q4), .second, .val (.int i9), .val (.int i10), .val (.int i11), .val (.int i12), .val (.int (0 : Int32)), .unset, .unset, .unset, .unset, .unset, .unset, .unset, .unset, .unset, .unset, .unset, .unset, .unset, .unset, .unset, .unset, .unset, .unset, .unset, .unset, .unset] [(.int i9), (.int (0 : Int32)), (.ref b406), (.ref b406), (.ref b400), (.ref b400)])) (fun t ht => ?_) ?_
    · refine XS.dup X406.here hx rfl (hb hby at_66) rfl rfl ?_
      show Steps p.tables e below (T406.setTop (mkF m 67 _ [(.ref b406), (.ref b406), (.ref b400), (.ref b400)])) _
      refine XS.iconst X406.here hx rfl (hb hby at_67) ?_
      show Steps p.tables e below (T406.setTop (mkF m 68 _ [(.int (0 : Int32)), (.ref b406), (.ref b406), (.ref b400), (.ref b400)])) _
      refine XS.iload X406.here hx rfl (hb hby at_68) rfl ?_
      exact ht
    obtain ⟨cl415, Ar415, q415, S415, Ng415, H415, G415⟩ := id f414
    have hin415 := inb_of (j := (0 : Int32)) S415 ⟨by decide, by decide⟩
    obtain ⟨T415, h415, X415, e415, W415, st415⟩ := stC X406 hx hZ e406 Ar415 (j := (0 : Int32)) hin415 (g := (mkF m 70 #[.val (.int p0), .val (.long q1), .second, .val (.long q2), .second, .val (.long q3), .second, .val (.long q4), .second, .val (.int i9), .val (.int i10), .val (.int i11), .val (.int i12), .val (.int (0 : Int32)), .unset, .unset, .unset, .unset, .unset, .unset, .unset, .unset, .unset, .unset, .unset, .unset, .unset, .unset, .unset, .unset, .unset, .unset, .unset, .unset, .unset] [(.int i9), (.int (0 : Int32)), (.ref b406), (.ref b406), (.ref b400), (.ref b400)])) rfl rfl (hb hby at_70)
    have f416 := (f409.wr W415)
    have f417 := (f410.wr W415)
    have f418 := (f411.other W415 (Or.inl ne408))
    have f419 := (f412.other W415 (Or.inl ne408))
    have Z420 : n0 ≤ h415.size := (Nat.le_trans Z413 (Keep.of_wr W415).1)
    have N421 := Fr.snoc X415 N0 g407
    have f422 : Arv Z h415 b406 k406 .char (2 : Int32) [(.int (nar .char i9)), (.int (0 : Int32))] (.int (0 : Int32)) := Arv.set Ar415 q415 S415 Ng415 H415 G415 (fits_nar_char _) W415 0 rfl (Nat.le_of_ble_eq_true rfl)
    refine OFin.of (S' := T415.setTop (mkF m 71 #[.val (.int p0), .val (.long q1), .second, .val (.long q2), .second, .val (.long q3), .second, .val (.long q4), .second, .val (.int i9), .val (.int i10), .val (.int i11), .val (.int i12), .val (.int (0 : Int32)), .unset, .unset, .unset, .unset, .unset, .unset, .unset, .unset, .unset, .unset, .unset, .unset, .unset, .unset, .unset, .unset, .unset, .unset, .unset, .unset, .unset] [(.ref b406), (.ref b400), (.ref b400)])) (fun t ht => st415 t ht) ?_
    refine OFin.of (S' := T415.setTop (mkF m 75 #[.val (.int p0), .val (.long q1), .second, .val (.long q2), .second, .val (.long q3), .second, .val (.long q4), .second, .val (.int i9), .val (.int i10), .val (.int i11), .val (.int i12), .val (.int (0 : Int32)), .unset, .unset, .unset, .unset, .unset, .unset, .unset, .unset, .unset, .unset, .unset, .unset, .unset, .unset, .unset, .unset, .unset, .unset, .unset, .unset, .unset] [(.int i10), (.int (1 : Int32)), (.ref b406), (.ref b406), (.ref b400), (.ref b400)])) (fun t ht => ?_) ?_
    · refine XS.dup X415.here hx rfl (hb hby at_71) rfl rfl ?_
      show Steps p.tables e below (T415.setTop (mkF m 72 _ [(.ref b406), (.ref b406), (.ref b400), (.ref b400)])) _
      refine XS.iconst X415.here hx rfl (hb hby at_72) ?_
      show Steps p.tables e below (T415.setTop (mkF m 73 _ [(.int (1 : Int32)), (.ref b406), (.ref b406), (.ref b400), (.ref b400)])) _
      refine XS.iload X415.here hx rfl (hb hby at_73) rfl ?_
      exact ht
    obtain ⟨cl423, Ar423, q423, S423, Ng423, H423, G423⟩ := id f422
    have hin423 := inb_of (j := (1 : Int32)) S423 ⟨by decide, by decide⟩
    obtain ⟨T423, h423, X423, e423, W423, st423⟩ := stC X415 hx hZ e415 Ar423 (j := (1 : Int32)) hin423 (g := (mkF m 75 #[.val (.int p0), .val (.long q1), .second, .val (.long q2), .second, .val (.long q3), .second, .val (.long q4), .second, .val (.int i9), .val (.int i10), .val (.int i11), .val (.int i12), .val (.int (0 : Int32)), .unset, .unset, .unset, .unset, .unset, .unset, .unset, .unset, .unset, .unset, .unset, .unset, .unset, .unset, .unset, .unset, .unset, .unset, .unset, .unset, .unset] [(.int i10), (.int (1 : Int32)), (.ref b406), (.ref b406), (.ref b400), (.ref b400)])) rfl rfl (hb hby at_75)
    have f424 := (f416.wr W423)
    have f425 := (f417.wr W423)
    have f426 := (f418.other W423 (Or.inl ne408))
    have f427 := (f419.other W423 (Or.inl ne408))
    have Z428 : n0 ≤ h423.size := (Nat.le_trans Z420 (Keep.of_wr W423).1)
    have N429 := Fr.snoc X423 N421 g407
    have f430 : Arv Z h423 b406 k406 .char (2 : Int32) [(.int (nar .char i9)), (.int (nar .char i10))] (.int (0 : Int32)) := Arv.set Ar423 q423 S423 Ng423 H423 G423 (fits_nar_char _) W423 1 rfl (Nat.le_of_ble_eq_true rfl)
    refine OFin.of (S' := T423.setTop (mkF m 76 #[.val (.int p0), .val (.long q1), .second, .val (.long q2), .second, .val (.long q3), .second, .val (.long q4), .second, .val (.int i9), .val (.int i10), .val (.int i11), .val (.int i12), .val (.int (0 : Int32)), .unset, .unset, .unset, .unset, .unset, .unset, .unset, .unset, .unset, .unset, .unset, .unset, .unset, .unset, .unset, .unset, .unset, .unset, .unset, .unset, .unset] [(.ref b406), (.ref b400), (.ref b400)])) (fun t ht => st423 t ht) ?_
    obtain ⟨_, _, ⟨T431, L431, k431, n431⟩, -, X431, ⟨Lc431, hQ431, l431, y431, z431⟩, st431⟩ := X423.specialBack hx (y := (⟨"java/lang/String", "<init>", "([C)V"⟩ : MethodName)) rfl hown (mvT hZ (hw _ (List.mem_of_getElem? (i := 4) rfl))) (mvT hZ (hw _ (List.mem_of_getElem? (i := 5) rfl))) (mvT hZ (hw _ (List.mem_of_getElem? (i := 6) rfl))) (by decide) (backOf (W := 1) (rmSi2 l Z _ hw [] b400 b406 k406 cs (nar .char i9) (nar .char i10) h423 n0 Z428 f425 f426 f427 f430 g401 (Ne.symm ne408) f424 hcs (by rw [h_i9]; exact own_hp _) (by rw [h_i10]; exact own_hp _)) hZ (hw _ (List.mem_of_getElem? (i := 6) rfl)) (hw _ (List.mem_of_getElem? (i := 2) rfl)) (by decide) (by decide)) (g := (mkF m 76 #[.val (.int p0), .val (.long q1), .second, .val (.long q2), .second, .val (.long q3), .second, .val (.long q4), .second, .val (.int i9), .val (.int i10), .val (.int i11), .val (.int i12), .val (.int (0 : Int32)), .unset, .unset, .unset, .unset, .unset, .unset, .unset, .unset, .unset, .unset, .unset, .unset, .unset, .unset, .unset, .unset, .unset, .unset, .unset, .unset, .unset] [(.ref b406), (.ref b400), (.ref b400)])) rfl (by rw [hml]; rfl) (Steps.refl _) (a := b400) (argsL := [(.ref b406)]) (rest := [(.ref b400)]) (lenOf pd_9 rfl) rfl (by show 2 * 0 + _ ≤ _; exact Nat.le_of_eq rfl) (hb hby at_76) (fun _ _ => ⟨rfl, e423, (by decide : 2 + 1 ≤ _), (by decide : 6 + 2 ≤ _)⟩)
    dsimp only [Pt.U, Pt.locs, Pt.cells, Pt.slots] at X431 l431 y431 z431 st431 hQ431
    subst l431 y431 z431
    obtain ⟨rfl, Nq431, Kq431, f432, f433, ⟨kb_431, f434⟩⟩ := hQ431
    have N435 := Fr.app N429 Nq431
    obtain ⟨b431, gq431⟩ : ∃ z, z = h423.size := ⟨_, rfl⟩
    rw [← gq431] at f433 f434
    have g436 : n0 ≤ b431 := (Nat.le_trans Z428 (Nat.le_of_eq gq431.symm))
    have ne437 : b400 ≠ b431 := (Nat.ne_of_lt (Nat.lt_of_lt_of_le f425.lt (Nat.le_of_eq gq431.symm)))
    have ne438 : b406 ≠ b431 := (Nat.ne_of_lt (Nat.lt_of_lt_of_le f430.lt (Nat.le_of_eq gq431.symm)))
    have f439 := (own_staKeep f424 Kq431 (own_snS f425 own_sn0))
    have f440 := (f425.keep Kq431)
    have f441 := (f430.keep Kq431 (ninS (Ne.symm ne408) nin0))
    have Z442 : n0 ≤ T431.heap.size := (Nat.le_trans Z428 Kq431.1)
    refine OFin.to (S' := T431.setTop (mkF m 79 #[.val (.int p0), .val (.long q1), .second, .val (.long q2), .second, .val (.long q3), .second, .val (.long q4), .second, .val (.int i9), .val (.int i10), .val (.int i11), .val (.int i12), .val (.int (0 : Int32)), .unset, .unset, .unset, .unset, .unset, .unset, .unset, .unset, .unset, .unset, .unset, .unset, .unset, .unset, .unset, .unset, .unset, .unset, .unset, .unset, .unset] [(.ref b400)])) st431 ?_
    refine OFin.of (S' := T431.setTop (mkF m 104 #[.val (.int p0), .val (.long q1), .second, .val (.long q2), .second, .val (.long q3), .second, .val (.long q4), .second, .val (.int i9), .val (.int i10), .val (.int i11), .val (.int i12), .val (.int (0 : Int32)), .val (.ref b400), .unset, .unset, .unset, .unset, .unset, .unset, .unset, .unset, .unset, .unset, .unset, .unset, .unset, .unset, .unset, .unset, .unset, .unset, .unset, .unset] [])) (fun t ht => ?_) ?_
    · refine XS.astore X431.here hx rfl (hb hby at_79) rfl rfl (l' := #[.val (.int p0), .val (.long q1), .second, .val (.long q2), .second, .val (.long q3), .second, .val (.long q4), .second, .val (.int i9), .val (.int i10), .val (.int i11), .val (.int i12), .val (.int (0 : Int32)), .val (.ref b400), .unset, .unset, .unset, .unset, .unset, .unset, .unset, .unset, .unset, .unset, .unset, .unset, .unset, .unset, .unset, .unset, .unset, .unset, .unset, .unset]) rfl ?_
      show Steps p.tables e below (T431.setTop (mkF m 81 #[.val (.int p0), .val (.long q1), .second, .val (.long q2), .second, .val (.long q3), .second, .val (.long q4), .second, .val (.int i9), .val (.int i10), .val (.int i11), .val (.int i12), .val (.int (0 : Int32)), .val (.ref b400), .unset, .unset, .unset, .unset, .unset, .unset, .unset, .unset, .unset, .unset, .unset, .unset, .unset, .unset, .unset, .unset, .unset, .unset, .unset, .unset] [])) _
      refine XS.iload X431.here hx rfl (hb hby at_81) rfl ?_
      show Steps p.tables e below (T431.setTop (mkF m 83 _ [(.int (0 : Int32))])) _
      refine XS.ifYes X431.here hx rfl (pc0 := 83) (pc' := 104) rfl (hb hby at_83) rfl ((if0 _ _).trans (teq (by decide : (0 : Int32) = (0 : Int32))).1) (by decide) (by decide) ?_
      exact ht
    obtain ⟨T443, h443, X443, e443, E443, A443, D443, -, st443⟩ := newO X431 hx hZ hown (hw _ (List.mem_of_getElem? (i := 0) rfl)) (hw _ (List.mem_of_getElem? (i := 1) rfl)) (hw _ (List.mem_of_getElem? (i := 2) rfl)) (rfl : T431.heap = T431.heap) (g := (mkF m 104 #[.val (.int p0), .val (.long q1), .second, .val (.long q2), .second, .val (.long q3), .second, .val (.long q4), .second, .val (.int i9), .val (.int i10), .val (.int i11), .val (.int i12), .val (.int (0 : Int32)), .val (.ref b400), .unset, .unset, .unset, .unset, .unset, .unset, .unset, .unset, .unset, .unset, .unset, .unset, .unset, .unset, .unset, .unset, .unset, .unset, .unset, .unset] [])) rfl (hb hby at_104) (by decide) (by decide)
    obtain ⟨b443, gq443⟩ : ∃ z, z = T431.heap.size := ⟨_, rfl⟩
    rw [← gq443] at A443 D443 st443
    have g444 : n0 ≤ b443 := (Nat.le_trans Z442 (Nat.le_of_eq gq443.symm))
    have ne445 : b400 ≠ b443 := (Nat.ne_of_lt (Nat.lt_of_lt_of_le f440.lt (Nat.le_of_eq gq443.symm)))
    have ne446 : b406 ≠ b443 := (Nat.ne_of_lt (Nat.lt_of_lt_of_le f441.lt (Nat.le_of_eq gq443.symm)))
    have ne447 : b431 ≠ b443 := (Nat.ne_of_lt (Nat.lt_of_lt_of_le f434.lt (Nat.le_of_eq gq443.symm)))
    have f448 := f439.ext E443
    have f449 := f440.ext E443
    have f450 := f441.ext E443
    have f451 := f432.ext E443
    have f452 := f433.ext E443
    have f453 := f434.ext E443
    have Z454 : n0 ≤ h443.size := (Nat.le_trans Z442 E443.1)
    have f455 : Fld Z h443 b443 "java/lang/String" "coder" "B" (.int (0 : Int32)) := D443 (Or.inr (hw _ (List.mem_of_getElem? (i := 27) rfl))) (ty := .byte) (by decide)
    have f456 : Fld Z h443 b443 "java/lang/String" "value" "[B" .null := D443 (Or.inr (hw _ (List.mem_of_getElem? (i := 29) rfl))) (ty := (.array .byte)) (by decide)
    refine OFin.of (S' := T443.setTop (mkF m 107 #[.val (.int p0), .val (.long q1), .second, .val (.long q2), .second, .val (.long q3), .second, .val (.long q4), .second, .val (.int i9), .val (.int i10), .val (.int i11), .val (.int i12), .val (.int (0 : Int32)), .val (.ref b400), .unset, .unset, .unset, .unset, .unset, .unset, .unset, .unset, .unset, .unset, .unset, .unset, .unset, .unset, .unset, .unset, .unset, .unset, .unset, .unset] [(.ref b443)])) (fun t ht => st443 t ht) ?_
    refine OFin.of (S' := T443.setTop (mkF m 109 #[.val (.int p0), .val (.long q1), .second, .val (.long q2), .second, .val (.long q3), .second, .val (.long q4), .second, .val (.int i9), .val (.int i10), .val (.int i11), .val (.int i12), .val (.int (0 : Int32)), .val (.ref b400), .unset, .unset, .unset, .unset, .unset, .unset, .unset, .unset, .unset, .unset, .unset, .unset, .unset, .unset, .unset, .unset, .unset, .unset, .unset, .unset] [(.int (2 : Int32)), (.ref b443), (.ref b443)])) (fun t ht => ?_) ?_
    · refine XS.dup X443.here hx rfl (hb hby at_107) rfl rfl ?_
      show Steps p.tables e below (T443.setTop (mkF m 108 _ [(.ref b443), (.ref b443)])) _
      refine XS.iconst X443.here hx rfl (hb hby at_108) ?_
      exact ht
    obtain ⟨T457, h457, k457, X457, e457, E457, A457, st457⟩ := newP X443 hx hZ (hw _ (List.mem_of_getElem? (i := 3) rfl)) e443 (g := (mkF m 109 #[.val (.int p0), .val (.long q1), .second, .val (.long q2), .second, .val (.long q3), .second, .val (.long q4), .second, .val (.int i9), .val (.int i10), .val (.int i11), .val (.int i12), .val (.int (0 : Int32)), .val (.ref b400), .unset, .unset, .unset, .unset, .unset, .unset, .unset, .unset, .unset, .unset, .unset, .unset, .unset, .unset, .unset, .unset, .unset, .unset, .unset, .unset] [(.int (2 : Int32)), (.ref b443), (.ref b443)])) rfl (hb hby at_109) rfl (by decide) (cap := 2) (by decide) (by decide) (by decide) (by decide)
    obtain ⟨b457, gq457⟩ : ∃ z, z = h443.size := ⟨_, rfl⟩
    rw [← gq457] at A457 st457
    have g458 : n0 ≤ b457 := (Nat.le_trans Z454 (Nat.le_of_eq gq457.symm))
    have ne459 : b400 ≠ b457 := (Nat.ne_of_lt (Nat.lt_of_lt_of_le f449.lt (Nat.le_of_eq gq457.symm)))
    have ne460 : b406 ≠ b457 := (Nat.ne_of_lt (Nat.lt_of_lt_of_le f450.lt (Nat.le_of_eq gq457.symm)))
    have ne461 : b431 ≠ b457 := (Nat.ne_of_lt (Nat.lt_of_lt_of_le f453.lt (Nat.le_of_eq gq457.symm)))
    have ne462 : b443 ≠ b457 := (Nat.ne_of_lt (Nat.lt_of_lt_of_le A443.lt (Nat.le_of_eq gq457.symm)))
    have f463 := f448.ext E457
    have f464 := f449.ext E457
    have f465 := f450.ext E457
    have f466 := f451.ext E457
    have f467 := f452.ext E457
    have f468 := f453.ext E457
    have f469 := A443.ext E457
    have f470 := f455.ext E457
    have f471 := f456.ext E457
    have Z472 : n0 ≤ h457.size := (Nat.le_trans Z454 E457.1)
    have f473 : Arv Z h457 b457 k457 .char (2 : Int32) [(.int (0 : Int32)), (.int (0 : Int32))] (.int (0 : Int32)) := ((Arv.new A457 (by decide)).pad (pad_rep [] (.int (0 : Int32)) 2))
    refine OFin.of (S' := T457.setTop (mkF m 111 #[.val (.int p0), .val (.long q1), .second, .val (.long q2), .second, .val (.long q3), .second, .val (.long q4), .second, .val (.int i9), .val (.int i10), .val (.int i11), .val (.int i12), .val (.int (0 : Int32)), .val (.ref b400), .unset, .unset, .unset, .unset, .unset, .unset, .unset, .unset, .unset, .unset, .unset, .unset, .unset, .unset, .unset, .unset, .unset, .unset, .unset, .unset] [(.ref b457), (.ref b443), (.ref b443)])) (fun t ht => st457 t ht) ?_
    refine OFin.of (S' := T457.setTop (mkF m 115 #[.val (.int p0), .val (.long q1), .second, .val (.long q2), .second, .val (.long q3), .second, .val (.long q4), .second, .val (.int i9), .val (.int i10), .val (.int i11), .val (.int i12), .val (.int (0 : Int32)), .val (.ref b400), .unset, .unset, .unset, .unset, .unset, .unset, .unset, .unset, .unset, .unset, .unset, .unset, .unset, .unset, .unset, .unset, .unset, .unset, .unset, .unset] [(.int i11), (.int (0 : Int32)), (.ref b457), (.ref b457), (.ref b443), (.ref b443)])) (fun t ht => ?_) ?_
    · refine XS.dup X457.here hx rfl (hb hby at_111) rfl rfl ?_
      show Steps p.tables e below (T457.setTop (mkF m 112 _ [(.ref b457), (.ref b457), (.ref b443), (.ref b443)])) _
      refine XS.iconst X457.here hx rfl (hb hby at_112) ?_
      show Steps p.tables e below (T457.setTop (mkF m 113 _ [(.int (0 : Int32)), (.ref b457), (.ref b457), (.ref b443), (.ref b443)])) _
      refine XS.iload X457.here hx rfl (hb hby at_113) rfl ?_
      exact ht
    obtain ⟨cl474, Ar474, q474, S474, Ng474, H474, G474⟩ := id f473
    have hin474 := inb_of (j := (0 : Int32)) S474 ⟨by decide, by decide⟩
    obtain ⟨T474, h474, X474, e474, W474, st474⟩ := stC X457 hx hZ e457 Ar474 (j := (0 : Int32)) hin474 (g := (mkF m 115 #[.val (.int p0), .val (.long q1), .second, .val (.long q2), .second, .val (.long q3), .second, .val (.long q4), .second, .val (.int i9), .val (.int i10), .val (.int i11), .val (.int i12), .val (.int (0 : Int32)), .val (.ref b400), .unset, .unset, .unset, .unset, .unset, .unset, .unset, .unset, .unset, .unset, .unset, .unset, .unset, .unset, .unset, .unset, .unset, .unset, .unset, .unset] [(.int i11), (.int (0 : Int32)), (.ref b457), (.ref b457), (.ref b443), (.ref b443)])) rfl rfl (hb hby at_115)
    have f475 := (f463.wr W474)
    have f476 := (f464.wr W474)
    have f477 := (f465.other W474 ne460)
    have f478 := (f466.other W474 (Or.inl ne459))
    have f479 := (f467.other W474 (Or.inl ne459))
    have f480 := (f468.other W474 ne461)
    have f481 := (f469.wr W474)
    have f482 := (f470.other W474 (Or.inl ne462))
    have f483 := (f471.other W474 (Or.inl ne462))
    have Z484 : n0 ≤ h474.size := (Nat.le_trans Z472 (Keep.of_wr W474).1)
    have N485 := Fr.snoc X474 N435 g458
    have f486 : Arv Z h474 b457 k457 .char (2 : Int32) [(.int (nar .char i11)), (.int (0 : Int32))] (.int (0 : Int32)) := Arv.set Ar474 q474 S474 Ng474 H474 G474 (fits_nar_char _) W474 0 rfl (Nat.le_of_ble_eq_true rfl)
    refine OFin.of (S' := T474.setTop (mkF m 116 #[.val (.int p0), .val (.long q1), .second, .val (.long q2), .second, .val (.long q3), .second, .val (.long q4), .second, .val (.int i9), .val (.int i10), .val (.int i11), .val (.int i12), .val (.int (0 : Int32)), .val (.ref b400), .unset, .unset, .unset, .unset, .unset, .unset, .unset, .unset, .unset, .unset, .unset, .unset, .unset, .unset, .unset, .unset, .unset, .unset, .unset, .unset] [(.ref b457), (.ref b443), (.ref b443)])) (fun t ht => st474 t ht) ?_
    refine OFin.of (S' := T474.setTop (mkF m 120 #[.val (.int p0), .val (.long q1), .second, .val (.long q2), .second, .val (.long q3), .second, .val (.long q4), .second, .val (.int i9), .val (.int i10), .val (.int i11), .val (.int i12), .val (.int (0 : Int32)), .val (.ref b400), .unset, .unset, .unset, .unset, .unset, .unset, .unset, .unset, .unset, .unset, .unset, .unset, .unset, .unset, .unset, .unset, .unset, .unset, .unset, .unset] [(.int i12), (.int (1 : Int32)), (.ref b457), (.ref b457), (.ref b443), (.ref b443)])) (fun t ht => ?_) ?_
    · refine XS.dup X474.here hx rfl (hb hby at_116) rfl rfl ?_
      show Steps p.tables e below (T474.setTop (mkF m 117 _ [(.ref b457), (.ref b457), (.ref b443), (.ref b443)])) _
      refine XS.iconst X474.here hx rfl (hb hby at_117) ?_
      show Steps p.tables e below (T474.setTop (mkF m 118 _ [(.int (1 : Int32)), (.ref b457), (.ref b457), (.ref b443), (.ref b443)])) _
      refine XS.iload X474.here hx rfl (hb hby at_118) rfl ?_
      exact ht
    obtain ⟨cl487, Ar487, q487, S487, Ng487, H487, G487⟩ := id f486
    have hin487 := inb_of (j := (1 : Int32)) S487 ⟨by decide, by decide⟩
    obtain ⟨T487, h487, X487, e487, W487, st487⟩ := stC X474 hx hZ e474 Ar487 (j := (1 : Int32)) hin487 (g := (mkF m 120 #[.val (.int p0), .val (.long q1), .second, .val (.long q2), .second, .val (.long q3), .second, .val (.long q4), .second, .val (.int i9), .val (.int i10), .val (.int i11), .val (.int i12), .val (.int (0 : Int32)), .val (.ref b400), .unset, .unset, .unset, .unset, .unset, .unset, .unset, .unset, .unset, .unset, .unset, .unset, .unset, .unset, .unset, .unset, .unset, .unset, .unset, .unset] [(.int i12), (.int (1 : Int32)), (.ref b457), (.ref b457), (.ref b443), (.ref b443)])) rfl rfl (hb hby at_120)
    have f488 := (f475.wr W487)
    have f489 := (f476.wr W487)
    have f490 := (f477.other W487 ne460)
    have f491 := (f478.other W487 (Or.inl ne459))
    have f492 := (f479.other W487 (Or.inl ne459))
    have f493 := (f480.other W487 ne461)
    have f494 := (f481.wr W487)
    have f495 := (f482.other W487 (Or.inl ne462))
    have f496 := (f483.other W487 (Or.inl ne462))
    have Z497 : n0 ≤ h487.size := (Nat.le_trans Z484 (Keep.of_wr W487).1)
    have N498 := Fr.snoc X487 N485 g458
    have f499 : Arv Z h487 b457 k457 .char (2 : Int32) [(.int (nar .char i11)), (.int (nar .char i12))] (.int (0 : Int32)) := Arv.set Ar487 q487 S487 Ng487 H487 G487 (fits_nar_char _) W487 1 rfl (Nat.le_of_ble_eq_true rfl)
    refine OFin.of (S' := T487.setTop (mkF m 121 #[.val (.int p0), .val (.long q1), .second, .val (.long q2), .second, .val (.long q3), .second, .val (.long q4), .second, .val (.int i9), .val (.int i10), .val (.int i11), .val (.int i12), .val (.int (0 : Int32)), .val (.ref b400), .unset, .unset, .unset, .unset, .unset, .unset, .unset, .unset, .unset, .unset, .unset, .unset, .unset, .unset, .unset, .unset, .unset, .unset, .unset, .unset] [(.ref b457), (.ref b443), (.ref b443)])) (fun t ht => st487 t ht) ?_
    obtain ⟨_, _, ⟨T500, L500, k500, n500⟩, -, X500, ⟨Lc500, hQ500, l500, y500, z500⟩, st500⟩ := X487.specialBack hx (y := (⟨"java/lang/String", "<init>", "([C)V"⟩ : MethodName)) rfl hown (mvT hZ (hw _ (List.mem_of_getElem? (i := 4) rfl))) (mvT hZ (hw _ (List.mem_of_getElem? (i := 5) rfl))) (mvT hZ (hw _ (List.mem_of_getElem? (i := 6) rfl))) (by decide) (backOf (W := 1) (rmSi2 l Z _ hw [] b443 b457 k457 cs (nar .char i11) (nar .char i12) h487 n0 Z497 f494 f495 f496 f499 g444 (Ne.symm ne462) f488 hcs (by rw [h_i11, h_i9]; exact own_hpx _ _) (by rw [h_i12, h_i10]; exact own_hpx _ _)) hZ (hw _ (List.mem_of_getElem? (i := 6) rfl)) (hw _ (List.mem_of_getElem? (i := 2) rfl)) (by decide) (by decide)) (g := (mkF m 121 #[.val (.int p0), .val (.long q1), .second, .val (.long q2), .second, .val (.long q3), .second, .val (.long q4), .second, .val (.int i9), .val (.int i10), .val (.int i11), .val (.int i12), .val (.int (0 : Int32)), .val (.ref b400), .unset, .unset, .unset, .unset, .unset, .unset, .unset, .unset, .unset, .unset, .unset, .unset, .unset, .unset, .unset, .unset, .unset, .unset, .unset, .unset] [(.ref b457), (.ref b443), (.ref b443)])) rfl (by rw [hml]; rfl) (Steps.refl _) (a := b443) (argsL := [(.ref b457)]) (rest := [(.ref b443)]) (lenOf pd_9 rfl) rfl (by show 2 * 0 + _ ≤ _; exact Nat.le_of_eq rfl) (hb hby at_121) (fun _ _ => ⟨rfl, e487, (by decide : 5 + 1 ≤ _), (by decide : 14 + 2 ≤ _)⟩)
    dsimp only [Pt.U, Pt.locs, Pt.cells, Pt.slots] at X500 l500 y500 z500 st500 hQ500
    subst l500 y500 z500
    obtain ⟨rfl, Nq500, Kq500, f501, f502, ⟨kb_500, f503⟩⟩ := hQ500
    have N504 := Fr.app N498 Nq500
    obtain ⟨b500, gq500⟩ : ∃ z, z = h487.size := ⟨_, rfl⟩
    rw [← gq500] at f502 f503
    have g505 : n0 ≤ b500 := (Nat.le_trans Z497 (Nat.le_of_eq gq500.symm))
    have ne506 : b400 ≠ b500 := (Nat.ne_of_lt (Nat.lt_of_lt_of_le f489.lt (Nat.le_of_eq gq500.symm)))
    have ne507 : b406 ≠ b500 := (Nat.ne_of_lt (Nat.lt_of_lt_of_le f490.lt (Nat.le_of_eq gq500.symm)))
    have ne508 : b431 ≠ b500 := (Nat.ne_of_lt (Nat.lt_of_lt_of_le f493.lt (Nat.le_of_eq gq500.symm)))
    have ne509 : b443 ≠ b500 := (Nat.ne_of_lt (Nat.lt_of_lt_of_le f494.lt (Nat.le_of_eq gq500.symm)))
    have ne510 : b457 ≠ b500 := (Nat.ne_of_lt (Nat.lt_of_lt_of_le f499.lt (Nat.le_of_eq gq500.symm)))
    have f511 := (own_staKeep f488 Kq500 (own_snS f494 own_sn0))
    have f512 := (f489.keep Kq500)
    have f513 := (f490.keep Kq500 (ninS ne446 nin0))
    have f514 := (f491.keep Kq500 (ninS ne445 nin0))
    have f515 := (f492.keep Kq500 (ninS ne445 nin0))
    have f516 := (f493.keep Kq500 (ninS ne447 nin0))
    have f517 := (f494.keep Kq500)
    have f518 := (f499.keep Kq500 (ninS (Ne.symm ne462) nin0))
    have Z519 : n0 ≤ T500.heap.size := (Nat.le_trans Z497 Kq500.1)
    refine OFin.to (S' := T500.setTop (mkF m 124 #[.val (.int p0), .val (.long q1), .second, .val (.long q2), .second, .val (.long q3), .second, .val (.long q4), .second, .val (.int i9), .val (.int i10), .val (.int i11), .val (.int i12), .val (.int (0 : Int32)), .val (.ref b400), .unset, .unset, .unset, .unset, .unset, .unset, .unset, .unset, .unset, .unset, .unset, .unset, .unset, .unset, .unset, .unset, .unset, .unset, .unset, .unset] [(.ref b443)])) st500 ?_
    refine OFin.of (S' := T500.setTop (mkF m 130 #[.val (.int p0), .val (.long q1), .second, .val (.long q2), .second, .val (.long q3), .second, .val (.long q4), .second, .val (.int i9), .val (.int i10), .val (.int i11), .val (.int i12), .val (.int (0 : Int32)), .val (.ref b400), .val (.ref b443), .unset, .unset, .unset, .unset, .unset, .unset, .unset, .unset, .unset, .unset, .unset, .unset, .unset, .unset, .unset, .unset, .unset, .unset, .unset] [(.int (p0 &&& (458752 : Int32)))])) (fun t ht => ?_) ?_
    · refine XS.astore X500.here hx rfl (hb hby at_124) rfl rfl (l' := #[.val (.int p0), .val (.long q1), .second, .val (.long q2), .second, .val (.long q3), .second, .val (.long q4), .second, .val (.int i9), .val (.int i10), .val (.int i11), .val (.int i12), .val (.int (0 : Int32)), .val (.ref b400), .val (.ref b443), .unset, .unset, .unset, .unset, .unset, .unset, .unset, .unset, .unset, .unset, .unset, .unset, .unset, .unset, .unset, .unset, .unset, .unset, .unset]) rfl ?_
      show Steps p.tables e below (T500.setTop (mkF m 126 #[.val (.int p0), .val (.long q1), .second, .val (.long q2), .second, .val (.long q3), .second, .val (.long q4), .second, .val (.int i9), .val (.int i10), .val (.int i11), .val (.int i12), .val (.int (0 : Int32)), .val (.ref b400), .val (.ref b443), .unset, .unset, .unset, .unset, .unset, .unset, .unset, .unset, .unset, .unset, .unset, .unset, .unset, .unset, .unset, .unset, .unset, .unset, .unset] [])) _
      refine XS.iloadN X500.here hx rfl (hb hby at_126) rfl ?_
      show Steps p.tables e below (T500.setTop (mkF m 127 _ [(.int p0)])) _
      refine X500.ldcInt hx hown (mvT hZ (hw _ (List.mem_of_getElem? (i := 30) rfl))) (g := (mkF m 127 #[.val (.int p0), .val (.long q1), .second, .val (.long q2), .second, .val (.long q3), .second, .val (.long q4), .second, .val (.int i9), .val (.int i10), .val (.int i11), .val (.int i12), .val (.int (0 : Int32)), .val (.ref b400), .val (.ref b443), .unset, .unset, .unset, .unset, .unset, .unset, .unset, .unset, .unset, .unset, .unset, .unset, .unset, .unset, .unset, .unset, .unset, .unset, .unset] [(.int p0)])) rfl (hb hby at_127) _ ?_
      show Steps p.tables e below (T500.setTop (mkF m 129 _ [(.int (458752 : Int32)), (.int p0)])) _
      refine XS.iand X500.here hx rfl (hb hby at_129) rfl ?_
      exact ht
    by_cases hc520 : (p0 &&& (458752 : Int32)) = (0 : Int32)
    · refine OFin.of (S' := T500.setTop (mkF m 153 #[.val (.int p0), .val (.long q1), .second, .val (.long q2), .second, .val (.long q3), .second, .val (.long q4), .second, .val (.int i9), .val (.int i10), .val (.int i11), .val (.int i12), .val (.int (0 : Int32)), .val (.ref b400), .val (.ref b443), .val (.int (1 : Int32)), .val (.long (4294967295 : Int64)), .second, .unset, .unset, .unset, .unset, .unset, .unset, .unset, .unset, .unset, .unset, .unset, .unset, .unset, .unset, .unset, .unset] [(.long (q2 &&& (4294967295 : Int64))), (.long (q1 &&& (4294967295 : Int64)))])) (fun t ht => ?_) ?_
      · refine XS.ifNo X500.here hx rfl (hb hby at_130) rfl ((if0 _ _).trans (teq (hc520 : (p0 &&& (458752 : Int32)) = (0 : Int32))).2) ?_
        show Steps p.tables e below (T500.setTop (mkF m 133 _ [])) _
        refine XS.iconst X500.here hx rfl (hb hby at_133) ?_
        show Steps p.tables e below (T500.setTop (mkF m 134 _ [(.int (1 : Int32))])) _
        refine XS.goto X500.here hx rfl (pc0 := 134) (pc' := 138) rfl (hb hby at_134) (by decide) (by decide) ?_
        show Steps p.tables e below (T500.setTop (mkF m 138 _ [(.int (1 : Int32))])) _
        refine XS.istore X500.here hx rfl (hb hby at_138) rfl (l' := #[.val (.int p0), .val (.long q1), .second, .val (.long q2), .second, .val (.long q3), .second, .val (.long q4), .second, .val (.int i9), .val (.int i10), .val (.int i11), .val (.int i12), .val (.int (0 : Int32)), .val (.ref b400), .val (.ref b443), .val (.int (1 : Int32)), .unset, .unset, .unset, .unset, .unset, .unset, .unset, .unset, .unset, .unset, .unset, .unset, .unset, .unset, .unset, .unset, .unset, .unset]) rfl ?_
        show Steps p.tables e below (T500.setTop (mkF m 140 #[.val (.int p0), .val (.long q1), .second, .val (.long q2), .second, .val (.long q3), .second, .val (.long q4), .second, .val (.int i9), .val (.int i10), .val (.int i11), .val (.int i12), .val (.int (0 : Int32)), .val (.ref b400), .val (.ref b443), .val (.int (1 : Int32)), .unset, .unset, .unset, .unset, .unset, .unset, .unset, .unset, .unset, .unset, .unset, .unset, .unset, .unset, .unset, .unset, .unset, .unset] [])) _
        refine X500.ldc2Long hx hown (mvT hZ (hw _ (List.mem_of_getElem? (i := 31) rfl))) (g := (mkF m 140 #[.val (.int p0), .val (.long q1), .second, .val (.long q2), .second, .val (.long q3), .second, .val (.long q4), .second, .val (.int i9), .val (.int i10), .val (.int i11), .val (.int i12), .val (.int (0 : Int32)), .val (.ref b400), .val (.ref b443), .val (.int (1 : Int32)), .unset, .unset, .unset, .unset, .unset, .unset, .unset, .unset, .unset, .unset, .unset, .unset, .unset, .unset, .unset, .unset, .unset, .unset] [])) rfl (hb hby at_140) _ ?_
        show Steps p.tables e below (T500.setTop (mkF m 143 _ [(.long (4294967295 : Int64))])) _
        refine XS.lstore X500.here hx rfl (hb hby at_143) rfl (l' := #[.val (.int p0), .val (.long q1), .second, .val (.long q2), .second, .val (.long q3), .second, .val (.long q4), .second, .val (.int i9), .val (.int i10), .val (.int i11), .val (.int i12), .val (.int (0 : Int32)), .val (.ref b400), .val (.ref b443), .val (.int (1 : Int32)), .val (.long (4294967295 : Int64)), .second, .unset, .unset, .unset, .unset, .unset, .unset, .unset, .unset, .unset, .unset, .unset, .unset, .unset, .unset, .unset, .unset]) rfl ?_
        show Steps p.tables e below (T500.setTop (mkF m 145 #[.val (.int p0), .val (.long q1), .second, .val (.long q2), .second, .val (.long q3), .second, .val (.long q4), .second, .val (.int i9), .val (.int i10), .val (.int i11), .val (.int i12), .val (.int (0 : Int32)), .val (.ref b400), .val (.ref b443), .val (.int (1 : Int32)), .val (.long (4294967295 : Int64)), .second, .unset, .unset, .unset, .unset, .unset, .unset, .unset, .unset, .unset, .unset, .unset, .unset, .unset, .unset, .unset, .unset] [])) _
        refine XS.lloadN X500.here hx rfl (hb hby at_145) rfl ?_
        show Steps p.tables e below (T500.setTop (mkF m 146 _ [(.long q1)])) _
        refine XS.lload X500.here hx rfl (hb hby at_146) rfl ?_
        show Steps p.tables e below (T500.setTop (mkF m 148 _ [(.long (4294967295 : Int64)), (.long q1)])) _
        refine XS.land X500.here hx rfl (hb hby at_148) rfl ?_
        show Steps p.tables e below (T500.setTop (mkF m 149 _ [(.long (q1 &&& (4294967295 : Int64)))])) _
        refine XS.lloadN X500.here hx rfl (hb hby at_149) rfl ?_
        show Steps p.tables e below (T500.setTop (mkF m 150 _ [(.long q2), (.long (q1 &&& (4294967295 : Int64)))])) _
        refine XS.lload X500.here hx rfl (hb hby at_150) rfl ?_
        show Steps p.tables e below (T500.setTop (mkF m 152 _ [(.long (4294967295 : Int64)), (.long q2), (.long (q1 &&& (4294967295 : Int64)))])) _
        refine XS.land X500.here hx rfl (hb hby at_152) rfl ?_
        exact ht
      obtain ⟨_, _, ⟨T521, L521, k521, n521⟩, -, X521, ⟨Lc521, hQ521, l521, y521, z521⟩, st521⟩ := Jvm.LawKit.callS X500 hx (y := (⟨"java/lang/Math", "min", "(JJ)J"⟩ : MethodName)) hown (mvT hZ (hw _ (List.mem_of_getElem? (i := 32) rfl))) (mvT hZ (hw _ (List.mem_of_getElem? (i := 33) rfl))) (mvT hZ (hw _ (List.mem_of_getElem? (i := 34) rfl))) (mvT hZ (hw _ (List.mem_of_getElem? (i := 35) rfl))) (by decide) (backOf (W := 0) (rmMn l Z _ hw [] (q1 &&& (4294967295 : Int64)) (q2 &&& (4294967295 : Int64)) T500.heap n0 Z519 ) hZ (hw _ (List.mem_of_getElem? (i := 35) rfl)) (hw _ (List.mem_of_getElem? (i := 34) rfl)) (by decide) (by decide)) (g := (mkF m 153 #[.val (.int p0), .val (.long q1), .second, .val (.long q2), .second, .val (.long q3), .second, .val (.long q4), .second, .val (.int i9), .val (.int i10), .val (.int i11), .val (.int i12), .val (.int (0 : Int32)), .val (.ref b400), .val (.ref b443), .val (.int (1 : Int32)), .val (.long (4294967295 : Int64)), .second, .unset, .unset, .unset, .unset, .unset, .unset, .unset, .unset, .unset, .unset, .unset, .unset, .unset, .unset, .unset, .unset] [(.long (q2 &&& (4294967295 : Int64))), (.long (q1 &&& (4294967295 : Int64)))])) rfl (by rw [hml]; rfl) (argsL := [(.long (q1 &&& (4294967295 : Int64))), (.long (q2 &&& (4294967295 : Int64)))]) (rest := []) (lenOf pd_6 rfl) rfl (by show 2 * 0 + _ ≤ _; exact Nat.le_of_eq rfl) (hb hby at_153) (fun _ _ => ⟨rfl, (rfl : T500.heap = T500.heap), (by decide : 6 + 0 ≤ _), (by decide : 16 + 0 ≤ _)⟩)
      dsimp only [Pt.U, Pt.locs, Pt.cells, Pt.slots] at X521 l521 y521 z521 st521 hQ521
      subst l521 y521 z521
      obtain ⟨rfl, Nq521, hs521⟩ := hQ521
      have N522 := Fr.app N504 Nq521
      refine OFin.of (S' := T521.setTop (mkF m 156 #[.val (.int p0), .val (.long q1), .second, .val (.long q2), .second, .val (.long q3), .second, .val (.long q4), .second, .val (.int i9), .val (.int i10), .val (.int i11), .val (.int i12), .val (.int (0 : Int32)), .val (.ref b400), .val (.ref b443), .val (.int (1 : Int32)), .val (.long (4294967295 : Int64)), .second, .unset, .unset, .unset, .unset, .unset, .unset, .unset, .unset, .unset, .unset, .unset, .unset, .unset, .unset, .unset, .unset] [(.long (own_lmin (q1 &&& (4294967295 : Int64)) (q2 &&& (4294967295 : Int64))))])) (fun t ht => st521 t ht) ?_
      obtain ⟨j19, h_j19⟩ : ∃ z : Int64, z = (own_lmin (q1 &&& (4294967295 : Int64)) (q2 &&& (4294967295 : Int64))) := ⟨_, rfl⟩
      rw [← h_j19]
      refine OFin.of (S' := T521.setTop (mkF m 166 #[.val (.int p0), .val (.long q1), .second, .val (.long q2), .second, .val (.long q3), .second, .val (.long q4), .second, .val (.int i9), .val (.int i10), .val (.int i11), .val (.int i12), .val (.int (0 : Int32)), .val (.ref b400), .val (.ref b443), .val (.int (1 : Int32)), .val (.long (4294967295 : Int64)), .second, .val (.long j19), .second, .unset, .unset, .unset, .unset, .unset, .unset, .unset, .unset, .unset, .unset, .unset, .unset, .unset, .unset] [(.long (q2 &&& (4294967295 : Int64))), (.long (q1 &&& (4294967295 : Int64)))])) (fun t ht => ?_) ?_
      · refine XS.lstore X521.here hx rfl (hb hby at_156) rfl (l' := #[.val (.int p0), .val (.long q1), .second, .val (.long q2), .second, .val (.long q3), .second, .val (.long q4), .second, .val (.int i9), .val (.int i10), .val (.int i11), .val (.int i12), .val (.int (0 : Int32)), .val (.ref b400), .val (.ref b443), .val (.int (1 : Int32)), .val (.long (4294967295 : Int64)), .second, .val (.long j19), .second, .unset, .unset, .unset, .unset, .unset, .unset, .unset, .unset, .unset, .unset, .unset, .unset, .unset, .unset]) rfl ?_
        show Steps p.tables e below (T521.setTop (mkF m 158 #[.val (.int p0), .val (.long q1), .second, .val (.long q2), .second, .val (.long q3), .second, .val (.long q4), .second, .val (.int i9), .val (.int i10), .val (.int i11), .val (.int i12), .val (.int (0 : Int32)), .val (.ref b400), .val (.ref b443), .val (.int (1 : Int32)), .val (.long (4294967295 : Int64)), .second, .val (.long j19), .second, .unset, .unset, .unset, .unset, .unset, .unset, .unset, .unset, .unset, .unset, .unset, .unset, .unset, .unset] [])) _
        refine XS.lloadN X521.here hx rfl (hb hby at_158) rfl ?_
        show Steps p.tables e below (T521.setTop (mkF m 159 _ [(.long q1)])) _
        refine XS.lload X521.here hx rfl (hb hby at_159) rfl ?_
        show Steps p.tables e below (T521.setTop (mkF m 161 _ [(.long (4294967295 : Int64)), (.long q1)])) _
        refine XS.land X521.here hx rfl (hb hby at_161) rfl ?_
        show Steps p.tables e below (T521.setTop (mkF m 162 _ [(.long (q1 &&& (4294967295 : Int64)))])) _
        refine XS.lloadN X521.here hx rfl (hb hby at_162) rfl ?_
        show Steps p.tables e below (T521.setTop (mkF m 163 _ [(.long q2), (.long (q1 &&& (4294967295 : Int64)))])) _
        refine XS.lload X521.here hx rfl (hb hby at_163) rfl ?_
        show Steps p.tables e below (T521.setTop (mkF m 165 _ [(.long (4294967295 : Int64)), (.long q2), (.long (q1 &&& (4294967295 : Int64)))])) _
        refine XS.land X521.here hx rfl (hb hby at_165) rfl ?_
        exact ht
      obtain ⟨_, _, ⟨T523, L523, k523, n523⟩, -, X523, ⟨Lc523, hQ523, l523, y523, z523⟩, st523⟩ := Jvm.LawKit.callS X521 hx (y := (⟨"java/lang/Math", "max", "(JJ)J"⟩ : MethodName)) hown (mvT hZ (hw _ (List.mem_of_getElem? (i := 36) rfl))) (mvT hZ (hw _ (List.mem_of_getElem? (i := 37) rfl))) (mvT hZ (hw _ (List.mem_of_getElem? (i := 34) rfl))) (mvT hZ (hw _ (List.mem_of_getElem? (i := 38) rfl))) (by decide) (backOf (W := 0) (rmMx l Z _ hw [] (q1 &&& (4294967295 : Int64)) (q2 &&& (4294967295 : Int64)) T500.heap n0 Z519 ) hZ (hw _ (List.mem_of_getElem? (i := 38) rfl)) (hw _ (List.mem_of_getElem? (i := 34) rfl)) (by decide) (by decide)) (g := (mkF m 166 #[.val (.int p0), .val (.long q1), .second, .val (.long q2), .second, .val (.long q3), .second, .val (.long q4), .second, .val (.int i9), .val (.int i10), .val (.int i11), .val (.int i12), .val (.int (0 : Int32)), .val (.ref b400), .val (.ref b443), .val (.int (1 : Int32)), .val (.long (4294967295 : Int64)), .second, .val (.long j19), .second, .unset, .unset, .unset, .unset, .unset, .unset, .unset, .unset, .unset, .unset, .unset, .unset, .unset, .unset] [(.long (q2 &&& (4294967295 : Int64))), (.long (q1 &&& (4294967295 : Int64)))])) rfl (by rw [hml]; rfl) (argsL := [(.long (q1 &&& (4294967295 : Int64))), (.long (q2 &&& (4294967295 : Int64)))]) (rest := []) (lenOf pd_6 rfl) rfl (by show 2 * 0 + _ ≤ _; exact Nat.le_of_eq rfl) (hb hby at_166) (fun _ _ => ⟨rfl, hs521, (by decide : 6 + 0 ≤ _), (by decide : 16 + 0 ≤ _)⟩)
      dsimp only [Pt.U, Pt.locs, Pt.cells, Pt.slots] at X523 l523 y523 z523 st523 hQ523
      subst l523 y523 z523
      obtain ⟨rfl, Nq523, hs523⟩ := hQ523
      have N524 := Fr.app N522 Nq523
      refine OFin.of (S' := T523.setTop (mkF m 169 #[.val (.int p0), .val (.long q1), .second, .val (.long q2), .second, .val (.long q3), .second, .val (.long q4), .second, .val (.int i9), .val (.int i10), .val (.int i11), .val (.int i12), .val (.int (0 : Int32)), .val (.ref b400), .val (.ref b443), .val (.int (1 : Int32)), .val (.long (4294967295 : Int64)), .second, .val (.long j19), .second, .unset, .unset, .unset, .unset, .unset, .unset, .unset, .unset, .unset, .unset, .unset, .unset, .unset, .unset] [(.long (own_lmax (q1 &&& (4294967295 : Int64)) (q2 &&& (4294967295 : Int64))))])) (fun t ht => st523 t ht) ?_
      obtain ⟨j21, h_j21⟩ : ∃ z : Int64, z = (own_lmax (q1 &&& (4294967295 : Int64)) (q2 &&& (4294967295 : Int64))) := ⟨_, rfl⟩
      rw [← h_j21]
      refine OFin.of (S' := T523.setTop (mkF m 176 #[.val (.int p0), .val (.long q1), .second, .val (.long q2), .second, .val (.long q3), .second, .val (.long q4), .second, .val (.int i9), .val (.int i10), .val (.int i11), .val (.int i12), .val (.int (0 : Int32)), .val (.ref b400), .val (.ref b443), .val (.int (1 : Int32)), .val (.long (4294967295 : Int64)), .second, .val (.long j19), .second, .val (.long j21), .second, .unset, .unset, .unset, .unset, .unset, .unset, .unset, .unset, .unset, .unset, .unset, .unset] [(.int (lcmpW j19 j21))])) (fun t ht => ?_) ?_
      · refine XS.lstore X523.here hx rfl (hb hby at_169) rfl (l' := #[.val (.int p0), .val (.long q1), .second, .val (.long q2), .second, .val (.long q3), .second, .val (.long q4), .second, .val (.int i9), .val (.int i10), .val (.int i11), .val (.int i12), .val (.int (0 : Int32)), .val (.ref b400), .val (.ref b443), .val (.int (1 : Int32)), .val (.long (4294967295 : Int64)), .second, .val (.long j19), .second, .val (.long j21), .second, .unset, .unset, .unset, .unset, .unset, .unset, .unset, .unset, .unset, .unset, .unset, .unset]) rfl ?_
        show Steps p.tables e below (T523.setTop (mkF m 171 #[.val (.int p0), .val (.long q1), .second, .val (.long q2), .second, .val (.long q3), .second, .val (.long q4), .second, .val (.int i9), .val (.int i10), .val (.int i11), .val (.int i12), .val (.int (0 : Int32)), .val (.ref b400), .val (.ref b443), .val (.int (1 : Int32)), .val (.long (4294967295 : Int64)), .second, .val (.long j19), .second, .val (.long j21), .second, .unset, .unset, .unset, .unset, .unset, .unset, .unset, .unset, .unset, .unset, .unset, .unset] [])) _
        refine XS.lload X523.here hx rfl (hb hby at_171) rfl ?_
        show Steps p.tables e below (T523.setTop (mkF m 173 _ [(.long j19)])) _
        refine XS.lload X523.here hx rfl (hb hby at_173) rfl ?_
        show Steps p.tables e below (T523.setTop (mkF m 175 _ [(.long j21), (.long j19)])) _
        refine XS.lcmp X523.here hx rfl (hb hby at_175) rfl ?_
        exact ht
      by_cases hc525 : (lcmpW j19 j21) = (0 : Int32)
      · refine OFin.of (S' := T523.setTop (mkF m 180 #[.val (.int p0), .val (.long q1), .second, .val (.long q2), .second, .val (.long q3), .second, .val (.long q4), .second, .val (.int i9), .val (.int i10), .val (.int i11), .val (.int i12), .val (.int (0 : Int32)), .val (.ref b400), .val (.ref b443), .val (.int (1 : Int32)), .val (.long (4294967295 : Int64)), .second, .val (.long j19), .second, .val (.long j21), .second, .unset, .unset, .unset, .unset, .unset, .unset, .unset, .unset, .unset, .unset, .unset, .unset] [(.int (1 : Int32))])) (fun t ht => ?_) ?_
        · refine XS.ifNo X523.here hx rfl (hb hby at_176) rfl ((if0 _ _).trans (teq (hc525 : (lcmpW j19 j21) = (0 : Int32))).2) ?_
          show Steps p.tables e below (T523.setTop (mkF m 179 _ [])) _
          refine XS.iconst X523.here hx rfl (hb hby at_179) ?_
          exact ht
        exact OFin.retB X523 hx hlk (t := .boolean) (by simp) hret (hb hby at_180) (by decide) (by decide) (by rw [hs523]; exact ⟨rfl, N524⟩)
      · refine OFin.of (S' := T523.setTop (mkF m 187 #[.val (.int p0), .val (.long q1), .second, .val (.long q2), .second, .val (.long q3), .second, .val (.long q4), .second, .val (.int i9), .val (.int i10), .val (.int i11), .val (.int i12), .val (.int (0 : Int32)), .val (.ref b400), .val (.ref b443), .val (.int (1 : Int32)), .val (.long (4294967295 : Int64)), .second, .val (.long j19), .second, .val (.long j21), .second, .unset, .unset, .unset, .unset, .unset, .unset, .unset, .unset, .unset, .unset, .unset, .unset] [(.int (((p0.toUInt32 >>> ((19 : Int32) &&& 31).toUInt32).toInt32) &&& (1 : Int32)))])) (fun t ht => ?_) ?_
        · refine XS.ifYes X523.here hx rfl (pc0 := 176) (pc' := 181) rfl (hb hby at_176) rfl ((if0 _ _).trans (feq (hc525 : ¬ ((lcmpW j19 j21) = (0 : Int32)))).2) (by decide) (by decide) ?_
          show Steps p.tables e below (T523.setTop (mkF m 181 _ [])) _
          refine XS.iloadN X523.here hx rfl (hb hby at_181) rfl ?_
          show Steps p.tables e below (T523.setTop (mkF m 182 _ [(.int p0)])) _
          refine XS.bipush X523.here hx rfl (hb hby at_182) ?_
          show Steps p.tables e below (T523.setTop (mkF m 184 _ [(.int (19 : Int32)), (.int p0)])) _
          refine XS.iushr X523.here hx rfl (hb hby at_184) rfl ?_
          show Steps p.tables e below (T523.setTop (mkF m 185 _ [(.int ((p0.toUInt32 >>> ((19 : Int32) &&& 31).toUInt32).toInt32))])) _
          refine XS.iconst X523.here hx rfl (hb hby at_185) ?_
          show Steps p.tables e below (T523.setTop (mkF m 186 _ [(.int (1 : Int32)), (.int ((p0.toUInt32 >>> ((19 : Int32) &&& 31).toUInt32).toInt32))])) _
          refine XS.iand X523.here hx rfl (hb hby at_186) rfl ?_
          exact ht
        by_cases hc526 : (((p0.toUInt32 >>> ((19 : Int32) &&& 31).toUInt32).toInt32) &&& (1 : Int32)) = (0 : Int32)
        · refine OFin.of (S' := T523.setTop (mkF m 200 #[.val (.int p0), .val (.long q1), .second, .val (.long q2), .second, .val (.long q3), .second, .val (.long q4), .second, .val (.int i9), .val (.int i10), .val (.int i11), .val (.int i12), .val (.int (0 : Int32)), .val (.ref b400), .val (.ref b443), .val (.int (1 : Int32)), .val (.long (4294967295 : Int64)), .second, .val (.long j19), .second, .val (.long j21), .second, .unset, .unset, .unset, .unset, .unset, .unset, .unset, .unset, .unset, .unset, .unset, .unset] [(.long (q3 &&& (4294967295 : Int64)))])) (fun t ht => ?_) ?_
          · refine XS.ifYes X523.here hx rfl (pc0 := 187) (pc' := 195) rfl (hb hby at_187) rfl ((if0 _ _).trans (teq (hc526 : (((p0.toUInt32 >>> ((19 : Int32) &&& 31).toUInt32).toInt32) &&& (1 : Int32)) = (0 : Int32))).1) (by decide) (by decide) ?_
            show Steps p.tables e below (T523.setTop (mkF m 195 _ [])) _
            refine XS.lload X523.here hx rfl (hb hby at_195) rfl ?_
            show Steps p.tables e below (T523.setTop (mkF m 197 _ [(.long q3)])) _
            refine XS.lload X523.here hx rfl (hb hby at_197) rfl ?_
            show Steps p.tables e below (T523.setTop (mkF m 199 _ [(.long (4294967295 : Int64)), (.long q3)])) _
            refine XS.land X523.here hx rfl (hb hby at_199) rfl ?_
            exact ht
          obtain ⟨j23, h_j23⟩ : ∃ z : Int64, z = (q3 &&& (4294967295 : Int64)) := ⟨_, rfl⟩
          rw [← h_j23]
          refine OFin.of (S' := T523.setTop (mkF m 208 #[.val (.int p0), .val (.long q1), .second, .val (.long q2), .second, .val (.long q3), .second, .val (.long q4), .second, .val (.int i9), .val (.int i10), .val (.int i11), .val (.int i12), .val (.int (0 : Int32)), .val (.ref b400), .val (.ref b443), .val (.int (1 : Int32)), .val (.long (4294967295 : Int64)), .second, .val (.long j19), .second, .val (.long j21), .second, .val (.long j23), .second, .unset, .unset, .unset, .unset, .unset, .unset, .unset, .unset, .unset, .unset] [(.int (((p0.toUInt32 >>> ((20 : Int32) &&& 31).toUInt32).toInt32) &&& (1 : Int32)))])) (fun t ht => ?_) ?_
          · refine XS.lstore X523.here hx rfl (hb hby at_200) rfl (l' := #[.val (.int p0), .val (.long q1), .second, .val (.long q2), .second, .val (.long q3), .second, .val (.long q4), .second, .val (.int i9), .val (.int i10), .val (.int i11), .val (.int i12), .val (.int (0 : Int32)), .val (.ref b400), .val (.ref b443), .val (.int (1 : Int32)), .val (.long (4294967295 : Int64)), .second, .val (.long j19), .second, .val (.long j21), .second, .val (.long j23), .second, .unset, .unset, .unset, .unset, .unset, .unset, .unset, .unset, .unset, .unset]) rfl ?_
            show Steps p.tables e below (T523.setTop (mkF m 202 #[.val (.int p0), .val (.long q1), .second, .val (.long q2), .second, .val (.long q3), .second, .val (.long q4), .second, .val (.int i9), .val (.int i10), .val (.int i11), .val (.int i12), .val (.int (0 : Int32)), .val (.ref b400), .val (.ref b443), .val (.int (1 : Int32)), .val (.long (4294967295 : Int64)), .second, .val (.long j19), .second, .val (.long j21), .second, .val (.long j23), .second, .unset, .unset, .unset, .unset, .unset, .unset, .unset, .unset, .unset, .unset] [])) _
            refine XS.iloadN X523.here hx rfl (hb hby at_202) rfl ?_
            show Steps p.tables e below (T523.setTop (mkF m 203 _ [(.int p0)])) _
            refine XS.bipush X523.here hx rfl (hb hby at_203) ?_
            show Steps p.tables e below (T523.setTop (mkF m 205 _ [(.int (20 : Int32)), (.int p0)])) _
            refine XS.iushr X523.here hx rfl (hb hby at_205) rfl ?_
            show Steps p.tables e below (T523.setTop (mkF m 206 _ [(.int ((p0.toUInt32 >>> ((20 : Int32) &&& 31).toUInt32).toInt32))])) _
            refine XS.iconst X523.here hx rfl (hb hby at_206) ?_
            show Steps p.tables e below (T523.setTop (mkF m 207 _ [(.int (1 : Int32)), (.int ((p0.toUInt32 >>> ((20 : Int32) &&& 31).toUInt32).toInt32))])) _
            refine XS.iand X523.here hx rfl (hb hby at_207) rfl ?_
            exact ht
          by_cases hc527 : (((p0.toUInt32 >>> ((20 : Int32) &&& 31).toUInt32).toInt32) &&& (1 : Int32)) = (0 : Int32)
          · refine OFin.of (S' := T523.setTop (mkF m 221 #[.val (.int p0), .val (.long q1), .second, .val (.long q2), .second, .val (.long q3), .second, .val (.long q4), .second, .val (.int i9), .val (.int i10), .val (.int i11), .val (.int i12), .val (.int (0 : Int32)), .val (.ref b400), .val (.ref b443), .val (.int (1 : Int32)), .val (.long (4294967295 : Int64)), .second, .val (.long j19), .second, .val (.long j21), .second, .val (.long j23), .second, .unset, .unset, .unset, .unset, .unset, .unset, .unset, .unset, .unset, .unset] [(.long (q4 &&& (4294967295 : Int64)))])) (fun t ht => ?_) ?_
            · refine XS.ifYes X523.here hx rfl (pc0 := 208) (pc' := 216) rfl (hb hby at_208) rfl ((if0 _ _).trans (teq (hc527 : (((p0.toUInt32 >>> ((20 : Int32) &&& 31).toUInt32).toInt32) &&& (1 : Int32)) = (0 : Int32))).1) (by decide) (by decide) ?_
              show Steps p.tables e below (T523.setTop (mkF m 216 _ [])) _
              refine XS.lload X523.here hx rfl (hb hby at_216) rfl ?_
              show Steps p.tables e below (T523.setTop (mkF m 218 _ [(.long q4)])) _
              refine XS.lload X523.here hx rfl (hb hby at_218) rfl ?_
              show Steps p.tables e below (T523.setTop (mkF m 220 _ [(.long (4294967295 : Int64)), (.long q4)])) _
              refine XS.land X523.here hx rfl (hb hby at_220) rfl ?_
              exact ht
            obtain ⟨j25, h_j25⟩ : ∃ z : Int64, z = (q4 &&& (4294967295 : Int64)) := ⟨_, rfl⟩
            rw [← h_j25]
            refine OFin.of (S' := T523.setTop (mkF m 223 #[.val (.int p0), .val (.long q1), .second, .val (.long q2), .second, .val (.long q3), .second, .val (.long q4), .second, .val (.int i9), .val (.int i10), .val (.int i11), .val (.int i12), .val (.int (0 : Int32)), .val (.ref b400), .val (.ref b443), .val (.int (1 : Int32)), .val (.long (4294967295 : Int64)), .second, .val (.long j19), .second, .val (.long j21), .second, .val (.long j23), .second, .val (.long j25), .second, .unset, .unset, .unset, .unset, .unset, .unset, .unset, .unset] [])) (fun t ht => ?_) ?_
            · refine XS.lstore X523.here hx rfl (hb hby at_221) rfl (l' := #[.val (.int p0), .val (.long q1), .second, .val (.long q2), .second, .val (.long q3), .second, .val (.long q4), .second, .val (.int i9), .val (.int i10), .val (.int i11), .val (.int i12), .val (.int (0 : Int32)), .val (.ref b400), .val (.ref b443), .val (.int (1 : Int32)), .val (.long (4294967295 : Int64)), .second, .val (.long j19), .second, .val (.long j21), .second, .val (.long j23), .second, .val (.long j25), .second, .unset, .unset, .unset, .unset, .unset, .unset, .unset, .unset]) rfl ?_
              exact ht
            exact seg2 Z _ hw hx hby hlk hret hml hown hZ n0 p0 q1 q2 q3 q4 i9 i10 i11 i12 (0 : Int32) b400 b443 (1 : Int32) (4294967295 : Int64) j19 j21 j23 j25 cs b431 b500 kb_431 kb_500 (((nar .char i9).toInt8.toInt32).toInt8.toInt32) (((nar .char i10).toInt8.toInt32).toInt8.toInt32) (((nar .char i11).toInt8.toInt32).toInt8.toInt32) (((nar .char i12).toInt8.toInt32).toInt8.toInt32) (X523.more (by decide) (by decide)) hs523 Z519 N524 f511 f512 f514 f515 f516 f517 f501 f502 f503 ne445 hcs (Or.inl ⟨rfl, (by rw [h_i12, h_i11, h_i10, h_i9]; exact own_same hc520)⟩) (own_leqc _ _ _ _) (fun _ _ q => ⟨rfl, q⟩)
          · refine OFin.of (S' := T523.setTop (mkF m 223 #[.val (.int p0), .val (.long q1), .second, .val (.long q2), .second, .val (.long q3), .second, .val (.long q4), .second, .val (.int i9), .val (.int i10), .val (.int i11), .val (.int i12), .val (.int (0 : Int32)), .val (.ref b400), .val (.ref b443), .val (.int (1 : Int32)), .val (.long (4294967295 : Int64)), .second, .val (.long j19), .second, .val (.long j21), .second, .val (.long j23), .second, .val (.long j21), .second, .unset, .unset, .unset, .unset, .unset, .unset, .unset, .unset] [])) (fun t ht => ?_) ?_
            · refine XS.ifNo X523.here hx rfl (hb hby at_208) rfl ((if0 _ _).trans (feq (hc527 : ¬ ((((p0.toUInt32 >>> ((20 : Int32) &&& 31).toUInt32).toInt32) &&& (1 : Int32)) = (0 : Int32)))).1) ?_
              show Steps p.tables e below (T523.setTop (mkF m 211 _ [])) _
              refine XS.lload X523.here hx rfl (hb hby at_211) rfl ?_
              show Steps p.tables e below (T523.setTop (mkF m 213 _ [(.long j21)])) _
              refine XS.goto X523.here hx rfl (pc0 := 213) (pc' := 221) rfl (hb hby at_213) (by decide) (by decide) ?_
              show Steps p.tables e below (T523.setTop (mkF m 221 _ [(.long j21)])) _
              refine XS.lstore X523.here hx rfl (hb hby at_221) rfl (l' := #[.val (.int p0), .val (.long q1), .second, .val (.long q2), .second, .val (.long q3), .second, .val (.long q4), .second, .val (.int i9), .val (.int i10), .val (.int i11), .val (.int i12), .val (.int (0 : Int32)), .val (.ref b400), .val (.ref b443), .val (.int (1 : Int32)), .val (.long (4294967295 : Int64)), .second, .val (.long j19), .second, .val (.long j21), .second, .val (.long j23), .second, .val (.long j21), .second, .unset, .unset, .unset, .unset, .unset, .unset, .unset, .unset]) rfl ?_
              exact ht
            exact seg2 Z _ hw hx hby hlk hret hml hown hZ n0 p0 q1 q2 q3 q4 i9 i10 i11 i12 (0 : Int32) b400 b443 (1 : Int32) (4294967295 : Int64) j19 j21 j23 j21 cs b431 b500 kb_431 kb_500 (((nar .char i9).toInt8.toInt32).toInt8.toInt32) (((nar .char i10).toInt8.toInt32).toInt8.toInt32) (((nar .char i11).toInt8.toInt32).toInt8.toInt32) (((nar .char i12).toInt8.toInt32).toInt8.toInt32) (X523.more (by decide) (by decide)) hs523 Z519 N524 f511 f512 f514 f515 f516 f517 f501 f502 f503 ne445 hcs (Or.inl ⟨rfl, (by rw [h_i12, h_i11, h_i10, h_i9]; exact own_same hc520)⟩) (own_leqc _ _ _ _) (fun _ _ q => ⟨rfl, q⟩)
        · refine OFin.of (S' := T523.setTop (mkF m 208 #[.val (.int p0), .val (.long q1), .second, .val (.long q2), .second, .val (.long q3), .second, .val (.long q4), .second, .val (.int i9), .val (.int i10), .val (.int i11), .val (.int i12), .val (.int (0 : Int32)), .val (.ref b400), .val (.ref b443), .val (.int (1 : Int32)), .val (.long (4294967295 : Int64)), .second, .val (.long j19), .second, .val (.long j21), .second, .val (.long j19), .second, .unset, .unset, .unset, .unset, .unset, .unset, .unset, .unset, .unset, .unset] [(.int (((p0.toUInt32 >>> ((20 : Int32) &&& 31).toUInt32).toInt32) &&& (1 : Int32)))])) (fun t ht => ?_) ?_
          · refine XS.ifNo X523.here hx rfl (hb hby at_187) rfl ((if0 _ _).trans (feq (hc526 : ¬ ((((p0.toUInt32 >>> ((19 : Int32) &&& 31).toUInt32).toInt32) &&& (1 : Int32)) = (0 : Int32)))).1) ?_
            show Steps p.tables e below (T523.setTop (mkF m 190 _ [])) _
            refine XS.lload X523.here hx rfl (hb hby at_190) rfl ?_
            show Steps p.tables e below (T523.setTop (mkF m 192 _ [(.long j19)])) _
            refine XS.goto X523.here hx rfl (pc0 := 192) (pc' := 200) rfl (hb hby at_192) (by decide) (by decide) ?_
            show Steps p.tables e below (T523.setTop (mkF m 200 _ [(.long j19)])) _
            refine XS.lstore X523.here hx rfl (hb hby at_200) rfl (l' := #[.val (.int p0), .val (.long q1), .second, .val (.long q2), .second, .val (.long q3), .second, .val (.long q4), .second, .val (.int i9), .val (.int i10), .val (.int i11), .val (.int i12), .val (.int (0 : Int32)), .val (.ref b400), .val (.ref b443), .val (.int (1 : Int32)), .val (.long (4294967295 : Int64)), .second, .val (.long j19), .second, .val (.long j21), .second, .val (.long j19), .second, .unset, .unset, .unset, .unset, .unset, .unset, .unset, .unset, .unset, .unset]) rfl ?_
            show Steps p.tables e below (T523.setTop (mkF m 202 #[.val (.int p0), .val (.long q1), .second, .val (.long q2), .second, .val (.long q3), .second, .val (.long q4), .second, .val (.int i9), .val (.int i10), .val (.int i11), .val (.int i12), .val (.int (0 : Int32)), .val (.ref b400), .val (.ref b443), .val (.int (1 : Int32)), .val (.long (4294967295 : Int64)), .second, .val (.long j19), .second, .val (.long j21), .second, .val (.long j19), .second, .unset, .unset, .unset, .unset, .unset, .unset, .unset, .unset, .unset, .unset] [])) _
            refine XS.iloadN X523.here hx rfl (hb hby at_202) rfl ?_
            show Steps p.tables e below (T523.setTop (mkF m 203 _ [(.int p0)])) _
            refine XS.bipush X523.here hx rfl (hb hby at_203) ?_
            show Steps p.tables e below (T523.setTop (mkF m 205 _ [(.int (20 : Int32)), (.int p0)])) _
            refine XS.iushr X523.here hx rfl (hb hby at_205) rfl ?_
            show Steps p.tables e below (T523.setTop (mkF m 206 _ [(.int ((p0.toUInt32 >>> ((20 : Int32) &&& 31).toUInt32).toInt32))])) _
            refine XS.iconst X523.here hx rfl (hb hby at_206) ?_
            show Steps p.tables e below (T523.setTop (mkF m 207 _ [(.int (1 : Int32)), (.int ((p0.toUInt32 >>> ((20 : Int32) &&& 31).toUInt32).toInt32))])) _
            refine XS.iand X523.here hx rfl (hb hby at_207) rfl ?_
            exact ht
          by_cases hc528 : (((p0.toUInt32 >>> ((20 : Int32) &&& 31).toUInt32).toInt32) &&& (1 : Int32)) = (0 : Int32)
          · refine OFin.of (S' := T523.setTop (mkF m 221 #[.val (.int p0), .val (.long q1), .second, .val (.long q2), .second, .val (.long q3), .second, .val (.long q4), .second, .val (.int i9), .val (.int i10), .val (.int i11), .val (.int i12), .val (.int (0 : Int32)), .val (.ref b400), .val (.ref b443), .val (.int (1 : Int32)), .val (.long (4294967295 : Int64)), .second, .val (.long j19), .second, .val (.long j21), .second, .val (.long j19), .second, .unset, .unset, .unset, .unset, .unset, .unset, .unset, .unset, .unset, .unset] [(.long (q4 &&& (4294967295 : Int64)))])) (fun t ht => ?_) ?_
            · refine XS.ifYes X523.here hx rfl (pc0 := 208) (pc' := 216) rfl (hb hby at_208) rfl ((if0 _ _).trans (teq (hc528 : (((p0.toUInt32 >>> ((20 : Int32) &&& 31).toUInt32).toInt32) &&& (1 : Int32)) = (0 : Int32))).1) (by decide) (by decide) ?_
              show Steps p.tables e below (T523.setTop (mkF m 216 _ [])) _
              refine XS.lload X523.here hx rfl (hb hby at_216) rfl ?_
              show Steps p.tables e below (T523.setTop (mkF m 218 _ [(.long q4)])) _
              refine XS.lload X523.here hx rfl (hb hby at_218) rfl ?_
              show Steps p.tables e below (T523.setTop (mkF m 220 _ [(.long (4294967295 : Int64)), (.long q4)])) _
              refine XS.land X523.here hx rfl (hb hby at_220) rfl ?_
              exact ht
            obtain ⟨j25, h_j25⟩ : ∃ z : Int64, z = (q4 &&& (4294967295 : Int64)) := ⟨_, rfl⟩
            rw [← h_j25]
            refine OFin.of (S' := T523.setTop (mkF m 223 #[.val (.int p0), .val (.long q1), .second, .val (.long q2), .second, .val (.long q3), .second, .val (.long q4), .second, .val (.int i9), .val (.int i10), .val (.int i11), .val (.int i12), .val (.int (0 : Int32)), .val (.ref b400), .val (.ref b443), .val (.int (1 : Int32)), .val (.long (4294967295 : Int64)), .second, .val (.long j19), .second, .val (.long j21), .second, .val (.long j19), .second, .val (.long j25), .second, .unset, .unset, .unset, .unset, .unset, .unset, .unset, .unset] [])) (fun t ht => ?_) ?_
            · refine XS.lstore X523.here hx rfl (hb hby at_221) rfl (l' := #[.val (.int p0), .val (.long q1), .second, .val (.long q2), .second, .val (.long q3), .second, .val (.long q4), .second, .val (.int i9), .val (.int i10), .val (.int i11), .val (.int i12), .val (.int (0 : Int32)), .val (.ref b400), .val (.ref b443), .val (.int (1 : Int32)), .val (.long (4294967295 : Int64)), .second, .val (.long j19), .second, .val (.long j21), .second, .val (.long j19), .second, .val (.long j25), .second, .unset, .unset, .unset, .unset, .unset, .unset, .unset, .unset]) rfl ?_
              exact ht
            exact seg2 Z _ hw hx hby hlk hret hml hown hZ n0 p0 q1 q2 q3 q4 i9 i10 i11 i12 (0 : Int32) b400 b443 (1 : Int32) (4294967295 : Int64) j19 j21 j19 j25 cs b431 b500 kb_431 kb_500 (((nar .char i9).toInt8.toInt32).toInt8.toInt32) (((nar .char i10).toInt8.toInt32).toInt8.toInt32) (((nar .char i11).toInt8.toInt32).toInt8.toInt32) (((nar .char i12).toInt8.toInt32).toInt8.toInt32) (X523.more (by decide) (by decide)) hs523 Z519 N524 f511 f512 f514 f515 f516 f517 f501 f502 f503 ne445 hcs (Or.inl ⟨rfl, (by rw [h_i12, h_i11, h_i10, h_i9]; exact own_same hc520)⟩) (own_leqc _ _ _ _) (fun _ _ q => ⟨rfl, q⟩)
          · refine OFin.of (S' := T523.setTop (mkF m 223 #[.val (.int p0), .val (.long q1), .second, .val (.long q2), .second, .val (.long q3), .second, .val (.long q4), .second, .val (.int i9), .val (.int i10), .val (.int i11), .val (.int i12), .val (.int (0 : Int32)), .val (.ref b400), .val (.ref b443), .val (.int (1 : Int32)), .val (.long (4294967295 : Int64)), .second, .val (.long j19), .second, .val (.long j21), .second, .val (.long j19), .second, .val (.long j21), .second, .unset, .unset, .unset, .unset, .unset, .unset, .unset, .unset] [])) (fun t ht => ?_) ?_
            · refine XS.ifNo X523.here hx rfl (hb hby at_208) rfl ((if0 _ _).trans (feq (hc528 : ¬ ((((p0.toUInt32 >>> ((20 : Int32) &&& 31).toUInt32).toInt32) &&& (1 : Int32)) = (0 : Int32)))).1) ?_
              show Steps p.tables e below (T523.setTop (mkF m 211 _ [])) _
              refine XS.lload X523.here hx rfl (hb hby at_211) rfl ?_
              show Steps p.tables e below (T523.setTop (mkF m 213 _ [(.long j21)])) _
              refine XS.goto X523.here hx rfl (pc0 := 213) (pc' := 221) rfl (hb hby at_213) (by decide) (by decide) ?_
              show Steps p.tables e below (T523.setTop (mkF m 221 _ [(.long j21)])) _
              refine XS.lstore X523.here hx rfl (hb hby at_221) rfl (l' := #[.val (.int p0), .val (.long q1), .second, .val (.long q2), .second, .val (.long q3), .second, .val (.long q4), .second, .val (.int i9), .val (.int i10), .val (.int i11), .val (.int i12), .val (.int (0 : Int32)), .val (.ref b400), .val (.ref b443), .val (.int (1 : Int32)), .val (.long (4294967295 : Int64)), .second, .val (.long j19), .second, .val (.long j21), .second, .val (.long j19), .second, .val (.long j21), .second, .unset, .unset, .unset, .unset, .unset, .unset, .unset, .unset]) rfl ?_
              exact ht
            exact seg2 Z _ hw hx hby hlk hret hml hown hZ n0 p0 q1 q2 q3 q4 i9 i10 i11 i12 (0 : Int32) b400 b443 (1 : Int32) (4294967295 : Int64) j19 j21 j19 j21 cs b431 b500 kb_431 kb_500 (((nar .char i9).toInt8.toInt32).toInt8.toInt32) (((nar .char i10).toInt8.toInt32).toInt8.toInt32) (((nar .char i11).toInt8.toInt32).toInt8.toInt32) (((nar .char i12).toInt8.toInt32).toInt8.toInt32) (X523.more (by decide) (by decide)) hs523 Z519 N524 f511 f512 f514 f515 f516 f517 f501 f502 f503 ne445 hcs (Or.inl ⟨rfl, (by rw [h_i12, h_i11, h_i10, h_i9]; exact own_same hc520)⟩) (own_leqc _ _ _ _) (fun _ _ q => ⟨rfl, q⟩)
    · refine OFin.of (S' := T500.setTop (mkF m 153 #[.val (.int p0), .val (.long q1), .second, .val (.long q2), .second, .val (.long q3), .second, .val (.long q4), .second, .val (.int i9), .val (.int i10), .val (.int i11), .val (.int i12), .val (.int (0 : Int32)), .val (.ref b400), .val (.ref b443), .val (.int (0 : Int32)), .val (.long (4294967295 : Int64)), .second, .unset, .unset, .unset, .unset, .unset, .unset, .unset, .unset, .unset, .unset, .unset, .unset, .unset, .unset, .unset, .unset] [(.long (q2 &&& (4294967295 : Int64))), (.long (q1 &&& (4294967295 : Int64)))])) (fun t ht => ?_) ?_
      · refine XS.ifYes X500.here hx rfl (pc0 := 130) (pc' := 137) rfl (hb hby at_130) rfl ((if0 _ _).trans (feq (hc520 : ¬ ((p0 &&& (458752 : Int32)) = (0 : Int32)))).2) (by decide) (by decide) ?_
        show Steps p.tables e below (T500.setTop (mkF m 137 _ [])) _
        refine XS.iconst X500.here hx rfl (hb hby at_137) ?_
        show Steps p.tables e below (T500.setTop (mkF m 138 _ [(.int (0 : Int32))])) _
        refine XS.istore X500.here hx rfl (hb hby at_138) rfl (l' := #[.val (.int p0), .val (.long q1), .second, .val (.long q2), .second, .val (.long q3), .second, .val (.long q4), .second, .val (.int i9), .val (.int i10), .val (.int i11), .val (.int i12), .val (.int (0 : Int32)), .val (.ref b400), .val (.ref b443), .val (.int (0 : Int32)), .unset, .unset, .unset, .unset, .unset, .unset, .unset, .unset, .unset, .unset, .unset, .unset, .unset, .unset, .unset, .unset, .unset, .unset]) rfl ?_
        show Steps p.tables e below (T500.setTop (mkF m 140 #[.val (.int p0), .val (.long q1), .second, .val (.long q2), .second, .val (.long q3), .second, .val (.long q4), .second, .val (.int i9), .val (.int i10), .val (.int i11), .val (.int i12), .val (.int (0 : Int32)), .val (.ref b400), .val (.ref b443), .val (.int (0 : Int32)), .unset, .unset, .unset, .unset, .unset, .unset, .unset, .unset, .unset, .unset, .unset, .unset, .unset, .unset, .unset, .unset, .unset, .unset] [])) _
        refine X500.ldc2Long hx hown (mvT hZ (hw _ (List.mem_of_getElem? (i := 31) rfl))) (g := (mkF m 140 #[.val (.int p0), .val (.long q1), .second, .val (.long q2), .second, .val (.long q3), .second, .val (.long q4), .second, .val (.int i9), .val (.int i10), .val (.int i11), .val (.int i12), .val (.int (0 : Int32)), .val (.ref b400), .val (.ref b443), .val (.int (0 : Int32)), .unset, .unset, .unset, .unset, .unset, .unset, .unset, .unset, .unset, .unset, .unset, .unset, .unset, .unset, .unset, .unset, .unset, .unset] [])) rfl (hb hby at_140) _ ?_
        show Steps p.tables e below (T500.setTop (mkF m 143 _ [(.long (4294967295 : Int64))])) _
        refine XS.lstore X500.here hx rfl (hb hby at_143) rfl (l' := #[.val (.int p0), .val (.long q1), .second, .val (.long q2), .second, .val (.long q3), .second, .val (.long q4), .second, .val (.int i9), .val (.int i10), .val (.int i11), .val (.int i12), .val (.int (0 : Int32)), .val (.ref b400), .val (.ref b443), .val (.int (0 : Int32)), .val (.long (4294967295 : Int64)), .second, .unset, .unset, .unset, .unset, .unset, .unset, .unset, .unset, .unset, .unset, .unset, .unset, .unset, .unset, .unset, .unset]) rfl ?_
        show Steps p.tables e below (T500.setTop (mkF m 145 #[.val (.int p0), .val (.long q1), .second, .val (.long q2), .second, .val (.long q3), .second, .val (.long q4), .second, .val (.int i9), .val (.int i10), .val (.int i11), .val (.int i12), .val (.int (0 : Int32)), .val (.ref b400), .val (.ref b443), .val (.int (0 : Int32)), .val (.long (4294967295 : Int64)), .second, .unset, .unset, .unset, .unset, .unset, .unset, .unset, .unset, .unset, .unset, .unset, .unset, .unset, .unset, .unset, .unset] [])) _
        refine XS.lloadN X500.here hx rfl (hb hby at_145) rfl ?_
        show Steps p.tables e below (T500.setTop (mkF m 146 _ [(.long q1)])) _
        refine XS.lload X500.here hx rfl (hb hby at_146) rfl ?_
        show Steps p.tables e below (T500.setTop (mkF m 148 _ [(.long (4294967295 : Int64)), (.long q1)])) _
        refine XS.land X500.here hx rfl (hb hby at_148) rfl ?_
        show Steps p.tables e below (T500.setTop (mkF m 149 _ [(.long (q1 &&& (4294967295 : Int64)))])) _
        refine XS.lloadN X500.here hx rfl (hb hby at_149) rfl ?_
        show Steps p.tables e below (T500.setTop (mkF m 150 _ [(.long q2), (.long (q1 &&& (4294967295 : Int64)))])) _
        refine XS.lload X500.here hx rfl (hb hby at_150) rfl ?_
        show Steps p.tables e below (T500.setTop (mkF m 152 _ [(.long (4294967295 : Int64)), (.long q2), (.long (q1 &&& (4294967295 : Int64)))])) _
        refine XS.land X500.here hx rfl (hb hby at_152) rfl ?_
        exact ht
      obtain ⟨_, _, ⟨T529, L529, k529, n529⟩, -, X529, ⟨Lc529, hQ529, l529, y529, z529⟩, st529⟩ := Jvm.LawKit.callS X500 hx (y := (⟨"java/lang/Math", "min", "(JJ)J"⟩ : MethodName)) hown (mvT hZ (hw _ (List.mem_of_getElem? (i := 32) rfl))) (mvT hZ (hw _ (List.mem_of_getElem? (i := 33) rfl))) (mvT hZ (hw _ (List.mem_of_getElem? (i := 34) rfl))) (mvT hZ (hw _ (List.mem_of_getElem? (i := 35) rfl))) (by decide) (backOf (W := 0) (rmMn l Z _ hw [] (q1 &&& (4294967295 : Int64)) (q2 &&& (4294967295 : Int64)) T500.heap n0 Z519 ) hZ (hw _ (List.mem_of_getElem? (i := 35) rfl)) (hw _ (List.mem_of_getElem? (i := 34) rfl)) (by decide) (by decide)) (g := (mkF m 153 #[.val (.int p0), .val (.long q1), .second, .val (.long q2), .second, .val (.long q3), .second, .val (.long q4), .second, .val (.int i9), .val (.int i10), .val (.int i11), .val (.int i12), .val (.int (0 : Int32)), .val (.ref b400), .val (.ref b443), .val (.int (0 : Int32)), .val (.long (4294967295 : Int64)), .second, .unset, .unset, .unset, .unset, .unset, .unset, .unset, .unset, .unset, .unset, .unset, .unset, .unset, .unset, .unset, .unset] [(.long (q2 &&& (4294967295 : Int64))), (.long (q1 &&& (4294967295 : Int64)))])) rfl (by rw [hml]; rfl) (argsL := [(.long (q1 &&& (4294967295 : Int64))), (.long (q2 &&& (4294967295 : Int64)))]) (rest := []) (lenOf pd_6 rfl) rfl (by show 2 * 0 + _ ≤ _; exact Nat.le_of_eq rfl) (hb hby at_153) (fun _ _ => ⟨rfl, (rfl : T500.heap = T500.heap), (by decide : 6 + 0 ≤ _), (by decide : 16 + 0 ≤ _)⟩)
      dsimp only [Pt.U, Pt.locs, Pt.cells, Pt.slots] at X529 l529 y529 z529 st529 hQ529
      subst l529 y529 z529
      obtain ⟨rfl, Nq529, hs529⟩ := hQ529
      have N530 := Fr.app N504 Nq529
      refine OFin.of (S' := T529.setTop (mkF m 156 #[.val (.int p0), .val (.long q1), .second, .val (.long q2), .second, .val (.long q3), .second, .val (.long q4), .second, .val (.int i9), .val (.int i10), .val (.int i11), .val (.int i12), .val (.int (0 : Int32)), .val (.ref b400), .val (.ref b443), .val (.int (0 : Int32)), .val (.long (4294967295 : Int64)), .second, .unset, .unset, .unset, .unset, .unset, .unset, .unset, .unset, .unset, .unset, .unset, .unset, .unset, .unset, .unset, .unset] [(.long (own_lmin (q1 &&& (4294967295 : Int64)) (q2 &&& (4294967295 : Int64))))])) (fun t ht => st529 t ht) ?_
      obtain ⟨j19, h_j19⟩ : ∃ z : Int64, z = (own_lmin (q1 &&& (4294967295 : Int64)) (q2 &&& (4294967295 : Int64))) := ⟨_, rfl⟩
      rw [← h_j19]
      refine OFin.of (S' := T529.setTop (mkF m 166 #[.val (.int p0), .val (.long q1), .second, .val (.long q2), .second, .val (.long q3), .second, .val (.long q4), .second, .val (.int i9), .val (.int i10), .val (.int i11), .val (.int i12), .val (.int (0 : Int32)), .val (.ref b400), .val (.ref b443), .val (.int (0 : Int32)), .val (.long (4294967295 : Int64)), .second, .val (.long j19), .second, .unset, .unset, .unset, .unset, .unset, .unset, .unset, .unset, .unset, .unset, .unset, .unset, .unset, .unset] [(.long (q2 &&& (4294967295 : Int64))), (.long (q1 &&& (4294967295 : Int64)))])) (fun t ht => ?_) ?_
      · refine XS.lstore X529.here hx rfl (hb hby at_156) rfl (l' := #[.val (.int p0), .val (.long q1), .second, .val (.long q2), .second, .val (.long q3), .second, .val (.long q4), .second, .val (.int i9), .val (.int i10), .val (.int i11), .val (.int i12), .val (.int (0 : Int32)), .val (.ref b400), .val (.ref b443), .val (.int (0 : Int32)), .val (.long (4294967295 : Int64)), .second, .val (.long j19), .second, .unset, .unset, .unset, .unset, .unset, .unset, .unset, .unset, .unset, .unset, .unset, .unset, .unset, .unset]) rfl ?_
        show Steps p.tables e below (T529.setTop (mkF m 158 #[.val (.int p0), .val (.long q1), .second, .val (.long q2), .second, .val (.long q3), .second, .val (.long q4), .second, .val (.int i9), .val (.int i10), .val (.int i11), .val (.int i12), .val (.int (0 : Int32)), .val (.ref b400), .val (.ref b443), .val (.int (0 : Int32)), .val (.long (4294967295 : Int64)), .second, .val (.long j19), .second, .unset, .unset, .unset, .unset, .unset, .unset, .unset, .unset, .unset, .unset, .unset, .unset, .unset, .unset] [])) _
        refine XS.lloadN X529.here hx rfl (hb hby at_158) rfl ?_
        show Steps p.tables e below (T529.setTop (mkF m 159 _ [(.long q1)])) _
        refine XS.lload X529.here hx rfl (hb hby at_159) rfl ?_
        show Steps p.tables e below (T529.setTop (mkF m 161 _ [(.long (4294967295 : Int64)), (.long q1)])) _
        refine XS.land X529.here hx rfl (hb hby at_161) rfl ?_
        show Steps p.tables e below (T529.setTop (mkF m 162 _ [(.long (q1 &&& (4294967295 : Int64)))])) _
        refine XS.lloadN X529.here hx rfl (hb hby at_162) rfl ?_
        show Steps p.tables e below (T529.setTop (mkF m 163 _ [(.long q2), (.long (q1 &&& (4294967295 : Int64)))])) _
        refine XS.lload X529.here hx rfl (hb hby at_163) rfl ?_
        show Steps p.tables e below (T529.setTop (mkF m 165 _ [(.long (4294967295 : Int64)), (.long q2), (.long (q1 &&& (4294967295 : Int64)))])) _
        refine XS.land X529.here hx rfl (hb hby at_165) rfl ?_
        exact ht
      obtain ⟨_, _, ⟨T531, L531, k531, n531⟩, -, X531, ⟨Lc531, hQ531, l531, y531, z531⟩, st531⟩ := Jvm.LawKit.callS X529 hx (y := (⟨"java/lang/Math", "max", "(JJ)J"⟩ : MethodName)) hown (mvT hZ (hw _ (List.mem_of_getElem? (i := 36) rfl))) (mvT hZ (hw _ (List.mem_of_getElem? (i := 37) rfl))) (mvT hZ (hw _ (List.mem_of_getElem? (i := 34) rfl))) (mvT hZ (hw _ (List.mem_of_getElem? (i := 38) rfl))) (by decide) (backOf (W := 0) (rmMx l Z _ hw [] (q1 &&& (4294967295 : Int64)) (q2 &&& (4294967295 : Int64)) T500.heap n0 Z519 ) hZ (hw _ (List.mem_of_getElem? (i := 38) rfl)) (hw _ (List.mem_of_getElem? (i := 34) rfl)) (by decide) (by decide)) (g := (mkF m 166 #[.val (.int p0), .val (.long q1), .second, .val (.long q2), .second, .val (.long q3), .second, .val (.long q4), .second, .val (.int i9), .val (.int i10), .val (.int i11), .val (.int i12), .val (.int (0 : Int32)), .val (.ref b400), .val (.ref b443), .val (.int (0 : Int32)), .val (.long (4294967295 : Int64)), .second, .val (.long j19), .second, .unset, .unset, .unset, .unset, .unset, .unset, .unset, .unset, .unset, .unset, .unset, .unset, .unset, .unset] [(.long (q2 &&& (4294967295 : Int64))), (.long (q1 &&& (4294967295 : Int64)))])) rfl (by rw [hml]; rfl) (argsL := [(.long (q1 &&& (4294967295 : Int64))), (.long (q2 &&& (4294967295 : Int64)))]) (rest := []) (lenOf pd_6 rfl) rfl (by show 2 * 0 + _ ≤ _; exact Nat.le_of_eq rfl) (hb hby at_166) (fun _ _ => ⟨rfl, hs529, (by decide : 6 + 0 ≤ _), (by decide : 16 + 0 ≤ _)⟩)
      dsimp only [Pt.U, Pt.locs, Pt.cells, Pt.slots] at X531 l531 y531 z531 st531 hQ531
      subst l531 y531 z531
      obtain ⟨rfl, Nq531, hs531⟩ := hQ531
      have N532 := Fr.app N530 Nq531
      refine OFin.of (S' := T531.setTop (mkF m 169 #[.val (.int p0), .val (.long q1), .second, .val (.long q2), .second, .val (.long q3), .second, .val (.long q4), .second, .val (.int i9), .val (.int i10), .val (.int i11), .val (.int i12), .val (.int (0 : Int32)), .val (.ref b400), .val (.ref b443), .val (.int (0 : Int32)), .val (.long (4294967295 : Int64)), .second, .val (.long j19), .second, .unset, .unset, .unset, .unset, .unset, .unset, .unset, .unset, .unset, .unset, .unset, .unset, .unset, .unset] [(.long (own_lmax (q1 &&& (4294967295 : Int64)) (q2 &&& (4294967295 : Int64))))])) (fun t ht => st531 t ht) ?_
      obtain ⟨j21, h_j21⟩ : ∃ z : Int64, z = (own_lmax (q1 &&& (4294967295 : Int64)) (q2 &&& (4294967295 : Int64))) := ⟨_, rfl⟩
      rw [← h_j21]
      refine OFin.of (S' := T531.setTop (mkF m 176 #[.val (.int p0), .val (.long q1), .second, .val (.long q2), .second, .val (.long q3), .second, .val (.long q4), .second, .val (.int i9), .val (.int i10), .val (.int i11), .val (.int i12), .val (.int (0 : Int32)), .val (.ref b400), .val (.ref b443), .val (.int (0 : Int32)), .val (.long (4294967295 : Int64)), .second, .val (.long j19), .second, .val (.long j21), .second, .unset, .unset, .unset, .unset, .unset, .unset, .unset, .unset, .unset, .unset, .unset, .unset] [(.int (lcmpW j19 j21))])) (fun t ht => ?_) ?_
      · refine XS.lstore X531.here hx rfl (hb hby at_169) rfl (l' := #[.val (.int p0), .val (.long q1), .second, .val (.long q2), .second, .val (.long q3), .second, .val (.long q4), .second, .val (.int i9), .val (.int i10), .val (.int i11), .val (.int i12), .val (.int (0 : Int32)), .val (.ref b400), .val (.ref b443), .val (.int (0 : Int32)), .val (.long (4294967295 : Int64)), .second, .val (.long j19), .second, .val (.long j21), .second, .unset, .unset, .unset, .unset, .unset, .unset, .unset, .unset, .unset, .unset, .unset, .unset]) rfl ?_
        show Steps p.tables e below (T531.setTop (mkF m 171 #[.val (.int p0), .val (.long q1), .second, .val (.long q2), .second, .val (.long q3), .second, .val (.long q4), .second, .val (.int i9), .val (.int i10), .val (.int i11), .val (.int i12), .val (.int (0 : Int32)), .val (.ref b400), .val (.ref b443), .val (.int (0 : Int32)), .val (.long (4294967295 : Int64)), .second, .val (.long j19), .second, .val (.long j21), .second, .unset, .unset, .unset, .unset, .unset, .unset, .unset, .unset, .unset, .unset, .unset, .unset] [])) _
        refine XS.lload X531.here hx rfl (hb hby at_171) rfl ?_
        show Steps p.tables e below (T531.setTop (mkF m 173 _ [(.long j19)])) _
        refine XS.lload X531.here hx rfl (hb hby at_173) rfl ?_
        show Steps p.tables e below (T531.setTop (mkF m 175 _ [(.long j21), (.long j19)])) _
        refine XS.lcmp X531.here hx rfl (hb hby at_175) rfl ?_
        exact ht
      by_cases hc533 : (lcmpW j19 j21) = (0 : Int32)
      · refine OFin.of (S' := T531.setTop (mkF m 180 #[.val (.int p0), .val (.long q1), .second, .val (.long q2), .second, .val (.long q3), .second, .val (.long q4), .second, .val (.int i9), .val (.int i10), .val (.int i11), .val (.int i12), .val (.int (0 : Int32)), .val (.ref b400), .val (.ref b443), .val (.int (0 : Int32)), .val (.long (4294967295 : Int64)), .second, .val (.long j19), .second, .val (.long j21), .second, .unset, .unset, .unset, .unset, .unset, .unset, .unset, .unset, .unset, .unset, .unset, .unset] [(.int (1 : Int32))])) (fun t ht => ?_) ?_
        · refine XS.ifNo X531.here hx rfl (hb hby at_176) rfl ((if0 _ _).trans (teq (hc533 : (lcmpW j19 j21) = (0 : Int32))).2) ?_
          show Steps p.tables e below (T531.setTop (mkF m 179 _ [])) _
          refine XS.iconst X531.here hx rfl (hb hby at_179) ?_
          exact ht
        exact OFin.retB X531 hx hlk (t := .boolean) (by simp) hret (hb hby at_180) (by decide) (by decide) (by rw [hs531]; exact ⟨rfl, N532⟩)
      · refine OFin.of (S' := T531.setTop (mkF m 187 #[.val (.int p0), .val (.long q1), .second, .val (.long q2), .second, .val (.long q3), .second, .val (.long q4), .second, .val (.int i9), .val (.int i10), .val (.int i11), .val (.int i12), .val (.int (0 : Int32)), .val (.ref b400), .val (.ref b443), .val (.int (0 : Int32)), .val (.long (4294967295 : Int64)), .second, .val (.long j19), .second, .val (.long j21), .second, .unset, .unset, .unset, .unset, .unset, .unset, .unset, .unset, .unset, .unset, .unset, .unset] [(.int (((p0.toUInt32 >>> ((19 : Int32) &&& 31).toUInt32).toInt32) &&& (1 : Int32)))])) (fun t ht => ?_) ?_
        · refine XS.ifYes X531.here hx rfl (pc0 := 176) (pc' := 181) rfl (hb hby at_176) rfl ((if0 _ _).trans (feq (hc533 : ¬ ((lcmpW j19 j21) = (0 : Int32)))).2) (by decide) (by decide) ?_
          show Steps p.tables e below (T531.setTop (mkF m 181 _ [])) _
          refine XS.iloadN X531.here hx rfl (hb hby at_181) rfl ?_
          show Steps p.tables e below (T531.setTop (mkF m 182 _ [(.int p0)])) _
          refine XS.bipush X531.here hx rfl (hb hby at_182) ?_
          show Steps p.tables e below (T531.setTop (mkF m 184 _ [(.int (19 : Int32)), (.int p0)])) _
          refine XS.iushr X531.here hx rfl (hb hby at_184) rfl ?_
          show Steps p.tables e below (T531.setTop (mkF m 185 _ [(.int ((p0.toUInt32 >>> ((19 : Int32) &&& 31).toUInt32).toInt32))])) _
          refine XS.iconst X531.here hx rfl (hb hby at_185) ?_
          show Steps p.tables e below (T531.setTop (mkF m 186 _ [(.int (1 : Int32)), (.int ((p0.toUInt32 >>> ((19 : Int32) &&& 31).toUInt32).toInt32))])) _
          refine XS.iand X531.here hx rfl (hb hby at_186) rfl ?_
          exact ht
        by_cases hc534 : (((p0.toUInt32 >>> ((19 : Int32) &&& 31).toUInt32).toInt32) &&& (1 : Int32)) = (0 : Int32)
        · refine OFin.of (S' := T531.setTop (mkF m 200 #[.val (.int p0), .val (.long q1), .second, .val (.long q2), .second, .val (.long q3), .second, .val (.long q4), .second, .val (.int i9), .val (.int i10), .val (.int i11), .val (.int i12), .val (.int (0 : Int32)), .val (.ref b400), .val (.ref b443), .val (.int (0 : Int32)), .val (.long (4294967295 : Int64)), .second, .val (.long j19), .second, .val (.long j21), .second, .unset, .unset, .unset, .unset, .unset, .unset, .unset, .unset, .unset, .unset, .unset, .unset] [(.long (q3 &&& (4294967295 : Int64)))])) (fun t ht => ?_) ?_
          · refine XS.ifYes X531.here hx rfl (pc0 := 187) (pc' := 195) rfl (hb hby at_187) rfl ((if0 _ _).trans (teq (hc534 : (((p0.toUInt32 >>> ((19 : Int32) &&& 31).toUInt32).toInt32) &&& (1 : Int32)) = (0 : Int32))).1) (by decide) (by decide) ?_
            show Steps p.tables e below (T531.setTop (mkF m 195 _ [])) _
            refine XS.lload X531.here hx rfl (hb hby at_195) rfl ?_
            show Steps p.tables e below (T531.setTop (mkF m 197 _ [(.long q3)])) _
            refine XS.lload X531.here hx rfl (hb hby at_197) rfl ?_
            show Steps p.tables e below (T531.setTop (mkF m 199 _ [(.long (4294967295 : Int64)), (.long q3)])) _
            refine XS.land X531.here hx rfl (hb hby at_199) rfl ?_
            exact ht
          obtain ⟨j23, h_j23⟩ : ∃ z : Int64, z = (q3 &&& (4294967295 : Int64)) := ⟨_, rfl⟩
          rw [← h_j23]
          refine OFin.of (S' := T531.setTop (mkF m 208 #[.val (.int p0), .val (.long q1), .second, .val (.long q2), .second, .val (.long q3), .second, .val (.long q4), .second, .val (.int i9), .val (.int i10), .val (.int i11), .val (.int i12), .val (.int (0 : Int32)), .val (.ref b400), .val (.ref b443), .val (.int (0 : Int32)), .val (.long (4294967295 : Int64)), .second, .val (.long j19), .second, .val (.long j21), .second, .val (.long j23), .second, .unset, .unset, .unset, .unset, .unset, .unset, .unset, .unset, .unset, .unset] [(.int (((p0.toUInt32 >>> ((20 : Int32) &&& 31).toUInt32).toInt32) &&& (1 : Int32)))])) (fun t ht => ?_) ?_
          · refine XS.lstore X531.here hx rfl (hb hby at_200) rfl (l' := #[.val (.int p0), .val (.long q1), .second, .val (.long q2), .second, .val (.long q3), .second, .val (.long q4), .second, .val (.int i9), .val (.int i10), .val (.int i11), .val (.int i12), .val (.int (0 : Int32)), .val (.ref b400), .val (.ref b443), .val (.int (0 : Int32)), .val (.long (4294967295 : Int64)), .second, .val (.long j19), .second, .val (.long j21), .second, .val (.long j23), .second, .unset, .unset, .unset, .unset, .unset, .unset, .unset, .unset, .unset, .unset]) rfl ?_
            show Steps p.tables e below (T531.setTop (mkF m 202 #[.val (.int p0), .val (.long q1), .second, .val (.long q2), .second, .val (.long q3), .second, .val (.long q4), .second, .val (.int i9), .val (.int i10), .val (.int i11), .val (.int i12), .val (.int (0 : Int32)), .val (.ref b400), .val (.ref b443), .val (.int (0 : Int32)), .val (.long (4294967295 : Int64)), .second, .val (.long j19), .second, .val (.long j21), .second, .val (.long j23), .second, .unset, .unset, .unset, .unset, .unset, .unset, .unset, .unset, .unset, .unset] [])) _
            refine XS.iloadN X531.here hx rfl (hb hby at_202) rfl ?_
            show Steps p.tables e below (T531.setTop (mkF m 203 _ [(.int p0)])) _
            refine XS.bipush X531.here hx rfl (hb hby at_203) ?_
            show Steps p.tables e below (T531.setTop (mkF m 205 _ [(.int (20 : Int32)), (.int p0)])) _
            refine XS.iushr X531.here hx rfl (hb hby at_205) rfl ?_
            show Steps p.tables e below (T531.setTop (mkF m 206 _ [(.int ((p0.toUInt32 >>> ((20 : Int32) &&& 31).toUInt32).toInt32))])) _
            refine XS.iconst X531.here hx rfl (hb hby at_206) ?_
            show Steps p.tables e below (T531.setTop (mkF m 207 _ [(.int (1 : Int32)), (.int ((p0.toUInt32 >>> ((20 : Int32) &&& 31).toUInt32).toInt32))])) _
            refine XS.iand X531.here hx rfl (hb hby at_207) rfl ?_
            exact ht
          by_cases hc535 : (((p0.toUInt32 >>> ((20 : Int32) &&& 31).toUInt32).toInt32) &&& (1 : Int32)) = (0 : Int32)
          · refine OFin.of (S' := T531.setTop (mkF m 221 #[.val (.int p0), .val (.long q1), .second, .val (.long q2), .second, .val (.long q3), .second, .val (.long q4), .second, .val (.int i9), .val (.int i10), .val (.int i11), .val (.int i12), .val (.int (0 : Int32)), .val (.ref b400), .val (.ref b443), .val (.int (0 : Int32)), .val (.long (4294967295 : Int64)), .second, .val (.long j19), .second, .val (.long j21), .second, .val (.long j23), .second, .unset, .unset, .unset, .unset, .unset, .unset, .unset, .unset, .unset, .unset] [(.long (q4 &&& (4294967295 : Int64)))])) (fun t ht => ?_) ?_
            · refine XS.ifYes X531.here hx rfl (pc0 := 208) (pc' := 216) rfl (hb hby at_208) rfl ((if0 _ _).trans (teq (hc535 : (((p0.toUInt32 >>> ((20 : Int32) &&& 31).toUInt32).toInt32) &&& (1 : Int32)) = (0 : Int32))).1) (by decide) (by decide) ?_
              show Steps p.tables e below (T531.setTop (mkF m 216 _ [])) _
              refine XS.lload X531.here hx rfl (hb hby at_216) rfl ?_
              show Steps p.tables e below (T531.setTop (mkF m 218 _ [(.long q4)])) _
              refine XS.lload X531.here hx rfl (hb hby at_218) rfl ?_
              show Steps p.tables e below (T531.setTop (mkF m 220 _ [(.long (4294967295 : Int64)), (.long q4)])) _
              refine XS.land X531.here hx rfl (hb hby at_220) rfl ?_
              exact ht
            obtain ⟨j25, h_j25⟩ : ∃ z : Int64, z = (q4 &&& (4294967295 : Int64)) := ⟨_, rfl⟩
            rw [← h_j25]
            refine OFin.of (S' := T531.setTop (mkF m 223 #[.val (.int p0), .val (.long q1), .second, .val (.long q2), .second, .val (.long q3), .second, .val (.long q4), .second, .val (.int i9), .val (.int i10), .val (.int i11), .val (.int i12), .val (.int (0 : Int32)), .val (.ref b400), .val (.ref b443), .val (.int (0 : Int32)), .val (.long (4294967295 : Int64)), .second, .val (.long j19), .second, .val (.long j21), .second, .val (.long j23), .second, .val (.long j25), .second, .unset, .unset, .unset, .unset, .unset, .unset, .unset, .unset] [])) (fun t ht => ?_) ?_
            · refine XS.lstore X531.here hx rfl (hb hby at_221) rfl (l' := #[.val (.int p0), .val (.long q1), .second, .val (.long q2), .second, .val (.long q3), .second, .val (.long q4), .second, .val (.int i9), .val (.int i10), .val (.int i11), .val (.int i12), .val (.int (0 : Int32)), .val (.ref b400), .val (.ref b443), .val (.int (0 : Int32)), .val (.long (4294967295 : Int64)), .second, .val (.long j19), .second, .val (.long j21), .second, .val (.long j23), .second, .val (.long j25), .second, .unset, .unset, .unset, .unset, .unset, .unset, .unset, .unset]) rfl ?_
              exact ht
            exact seg2 Z _ hw hx hby hlk hret hml hown hZ n0 p0 q1 q2 q3 q4 i9 i10 i11 i12 (0 : Int32) b400 b443 (0 : Int32) (4294967295 : Int64) j19 j21 j23 j25 cs b431 b500 kb_431 kb_500 (((nar .char i9).toInt8.toInt32).toInt8.toInt32) (((nar .char i10).toInt8.toInt32).toInt8.toInt32) (((nar .char i11).toInt8.toInt32).toInt8.toInt32) (((nar .char i12).toInt8.toInt32).toInt8.toInt32) (X531.more (by decide) (by decide)) hs531 Z519 N532 f511 f512 f514 f515 f516 f517 f501 f502 f503 ne445 hcs (Or.inr ⟨rfl, (by rw [h_i12, h_i11, h_i10, h_i9]; exact own_diff hc520 hc399)⟩) (own_leqc _ _ _ _) (fun _ _ q => ⟨rfl, q⟩)
          · refine OFin.of (S' := T531.setTop (mkF m 223 #[.val (.int p0), .val (.long q1), .second, .val (.long q2), .second, .val (.long q3), .second, .val (.long q4), .second, .val (.int i9), .val (.int i10), .val (.int i11), .val (.int i12), .val (.int (0 : Int32)), .val (.ref b400), .val (.ref b443), .val (.int (0 : Int32)), .val (.long (4294967295 : Int64)), .second, .val (.long j19), .second, .val (.long j21), .second, .val (.long j23), .second, .val (.long j21), .second, .unset, .unset, .unset, .unset, .unset, .unset, .unset, .unset] [])) (fun t ht => ?_) ?_
            · refine XS.ifNo X531.here hx rfl (hb hby at_208) rfl ((if0 _ _).trans (feq (hc535 : ¬ ((((p0.toUInt32 >>> ((20 : Int32) &&& 31).toUInt32).toInt32) &&& (1 : Int32)) = (0 : Int32)))).1) ?_
              show Steps p.tables e below (T531.setTop (mkF m 211 _ [])) _
              refine XS.lload X531.here hx rfl (hb hby at_211) rfl ?_
              show Steps p.tables e below (T531.setTop (mkF m 213 _ [(.long j21)])) _
              refine XS.goto X531.here hx rfl (pc0 := 213) (pc' := 221) rfl (hb hby at_213) (by decide) (by decide) ?_
              show Steps p.tables e below (T531.setTop (mkF m 221 _ [(.long j21)])) _
              refine XS.lstore X531.here hx rfl (hb hby at_221) rfl (l' := #[.val (.int p0), .val (.long q1), .second, .val (.long q2), .second, .val (.long q3), .second, .val (.long q4), .second, .val (.int i9), .val (.int i10), .val (.int i11), .val (.int i12), .val (.int (0 : Int32)), .val (.ref b400), .val (.ref b443), .val (.int (0 : Int32)), .val (.long (4294967295 : Int64)), .second, .val (.long j19), .second, .val (.long j21), .second, .val (.long j23), .second, .val (.long j21), .second, .unset, .unset, .unset, .unset, .unset, .unset, .unset, .unset]) rfl ?_
              exact ht
            exact seg2 Z _ hw hx hby hlk hret hml hown hZ n0 p0 q1 q2 q3 q4 i9 i10 i11 i12 (0 : Int32) b400 b443 (0 : Int32) (4294967295 : Int64) j19 j21 j23 j21 cs b431 b500 kb_431 kb_500 (((nar .char i9).toInt8.toInt32).toInt8.toInt32) (((nar .char i10).toInt8.toInt32).toInt8.toInt32) (((nar .char i11).toInt8.toInt32).toInt8.toInt32) (((nar .char i12).toInt8.toInt32).toInt8.toInt32) (X531.more (by decide) (by decide)) hs531 Z519 N532 f511 f512 f514 f515 f516 f517 f501 f502 f503 ne445 hcs (Or.inr ⟨rfl, (by rw [h_i12, h_i11, h_i10, h_i9]; exact own_diff hc520 hc399)⟩) (own_leqc _ _ _ _) (fun _ _ q => ⟨rfl, q⟩)
        · refine OFin.of (S' := T531.setTop (mkF m 208 #[.val (.int p0), .val (.long q1), .second, .val (.long q2), .second, .val (.long q3), .second, .val (.long q4), .second, .val (.int i9), .val (.int i10), .val (.int i11), .val (.int i12), .val (.int (0 : Int32)), .val (.ref b400), .val (.ref b443), .val (.int (0 : Int32)), .val (.long (4294967295 : Int64)), .second, .val (.long j19), .second, .val (.long j21), .second, .val (.long j19), .second, .unset, .unset, .unset, .unset, .unset, .unset, .unset, .unset, .unset, .unset] [(.int (((p0.toUInt32 >>> ((20 : Int32) &&& 31).toUInt32).toInt32) &&& (1 : Int32)))])) (fun t ht => ?_) ?_
          · refine XS.ifNo X531.here hx rfl (hb hby at_187) rfl ((if0 _ _).trans (feq (hc534 : ¬ ((((p0.toUInt32 >>> ((19 : Int32) &&& 31).toUInt32).toInt32) &&& (1 : Int32)) = (0 : Int32)))).1) ?_
            show Steps p.tables e below (T531.setTop (mkF m 190 _ [])) _
            refine XS.lload X531.here hx rfl (hb hby at_190) rfl ?_
            show Steps p.tables e below (T531.setTop (mkF m 192 _ [(.long j19)])) _
            refine XS.goto X531.here hx rfl (pc0 := 192) (pc' := 200) rfl (hb hby at_192) (by decide) (by decide) ?_
            show Steps p.tables e below (T531.setTop (mkF m 200 _ [(.long j19)])) _
            refine XS.lstore X531.here hx rfl (hb hby at_200) rfl (l' := #[.val (.int p0), .val (.long q1), .second, .val (.long q2), .second, .val (.long q3), .second, .val (.long q4), .second, .val (.int i9), .val (.int i10), .val (.int i11), .val (.int i12), .val (.int (0 : Int32)), .val (.ref b400), .val (.ref b443), .val (.int (0 : Int32)), .val (.long (4294967295 : Int64)), .second, .val (.long j19), .second, .val (.long j21), .second, .val (.long j19), .second, .unset, .unset, .unset, .unset, .unset, .unset, .unset, .unset, .unset, .unset]) rfl ?_
            show Steps p.tables e below (T531.setTop (mkF m 202 #[.val (.int p0), .val (.long q1), .second, .val (.long q2), .second, .val (.long q3), .second, .val (.long q4), .second, .val (.int i9), .val (.int i10), .val (.int i11), .val (.int i12), .val (.int (0 : Int32)), .val (.ref b400), .val (.ref b443), .val (.int (0 : Int32)), .val (.long (4294967295 : Int64)), .second, .val (.long j19), .second, .val (.long j21), .second, .val (.long j19), .second, .unset, .unset, .unset, .unset, .unset, .unset, .unset, .unset, .unset, .unset] [])) _
            refine XS.iloadN X531.here hx rfl (hb hby at_202) rfl ?_
            show Steps p.tables e below (T531.setTop (mkF m 203 _ [(.int p0)])) _
            refine XS.bipush X531.here hx rfl (hb hby at_203) ?_
            show Steps p.tables e below (T531.setTop (mkF m 205 _ [(.int (20 : Int32)), (.int p0)])) _
            refine XS.iushr X531.here hx rfl (hb hby at_205) rfl ?_
            show Steps p.tables e below (T531.setTop (mkF m 206 _ [(.int ((p0.toUInt32 >>> ((20 : Int32) &&& 31).toUInt32).toInt32))])) _
            refine XS.iconst X531.here hx rfl (hb hby at_206) ?_
            show Steps p.tables e below (T531.setTop (mkF m 207 _ [(.int (1 : Int32)), (.int ((p0.toUInt32 >>> ((20 : Int32) &&& 31).toUInt32).toInt32))])) _
            refine XS.iand X531.here hx rfl (hb hby at_207) rfl ?_
            exact ht
          by_cases hc536 : (((p0.toUInt32 >>> ((20 : Int32) &&& 31).toUInt32).toInt32) &&& (1 : Int32)) = (0 : Int32)
          · refine OFin.of (S' := T531.setTop (mkF m 221 #[.val (.int p0), .val (.long q1), .second, .val (.long q2), .second, .val (.long q3), .second, .val (.long q4), .second, .val (.int i9), .val (.int i10), .val (.int i11), .val (.int i12), .val (.int (0 : Int32)), .val (.ref b400), .val (.ref b443), .val (.int (0 : Int32)), .val (.long (4294967295 : Int64)), .second, .val (.long j19), .second, .val (.long j21), .second, .val (.long j19), .second, .unset, .unset, .unset, .unset, .unset, .unset, .unset, .unset, .unset, .unset] [(.long (q4 &&& (4294967295 : Int64)))])) (fun t ht => ?_) ?_
            · refine XS.ifYes X531.here hx rfl (pc0 := 208) (pc' := 216) rfl (hb hby at_208) rfl ((if0 _ _).trans (teq (hc536 : (((p0.toUInt32 >>> ((20 : Int32) &&& 31).toUInt32).toInt32) &&& (1 : Int32)) = (0 : Int32))).1) (by decide) (by decide) ?_
              show Steps p.tables e below (T531.setTop (mkF m 216 _ [])) _
              refine XS.lload X531.here hx rfl (hb hby at_216) rfl ?_
              show Steps p.tables e below (T531.setTop (mkF m 218 _ [(.long q4)])) _
              refine XS.lload X531.here hx rfl (hb hby at_218) rfl ?_
              show Steps p.tables e below (T531.setTop (mkF m 220 _ [(.long (4294967295 : Int64)), (.long q4)])) _
              refine XS.land X531.here hx rfl (hb hby at_220) rfl ?_
              exact ht
            obtain ⟨j25, h_j25⟩ : ∃ z : Int64, z = (q4 &&& (4294967295 : Int64)) := ⟨_, rfl⟩
            rw [← h_j25]
            refine OFin.of (S' := T531.setTop (mkF m 223 #[.val (.int p0), .val (.long q1), .second, .val (.long q2), .second, .val (.long q3), .second, .val (.long q4), .second, .val (.int i9), .val (.int i10), .val (.int i11), .val (.int i12), .val (.int (0 : Int32)), .val (.ref b400), .val (.ref b443), .val (.int (0 : Int32)), .val (.long (4294967295 : Int64)), .second, .val (.long j19), .second, .val (.long j21), .second, .val (.long j19), .second, .val (.long j25), .second, .unset, .unset, .unset, .unset, .unset, .unset, .unset, .unset] [])) (fun t ht => ?_) ?_
            · refine XS.lstore X531.here hx rfl (hb hby at_221) rfl (l' := #[.val (.int p0), .val (.long q1), .second, .val (.long q2), .second, .val (.long q3), .second, .val (.long q4), .second, .val (.int i9), .val (.int i10), .val (.int i11), .val (.int i12), .val (.int (0 : Int32)), .val (.ref b400), .val (.ref b443), .val (.int (0 : Int32)), .val (.long (4294967295 : Int64)), .second, .val (.long j19), .second, .val (.long j21), .second, .val (.long j19), .second, .val (.long j25), .second, .unset, .unset, .unset, .unset, .unset, .unset, .unset, .unset]) rfl ?_
              exact ht
            exact seg2 Z _ hw hx hby hlk hret hml hown hZ n0 p0 q1 q2 q3 q4 i9 i10 i11 i12 (0 : Int32) b400 b443 (0 : Int32) (4294967295 : Int64) j19 j21 j19 j25 cs b431 b500 kb_431 kb_500 (((nar .char i9).toInt8.toInt32).toInt8.toInt32) (((nar .char i10).toInt8.toInt32).toInt8.toInt32) (((nar .char i11).toInt8.toInt32).toInt8.toInt32) (((nar .char i12).toInt8.toInt32).toInt8.toInt32) (X531.more (by decide) (by decide)) hs531 Z519 N532 f511 f512 f514 f515 f516 f517 f501 f502 f503 ne445 hcs (Or.inr ⟨rfl, (by rw [h_i12, h_i11, h_i10, h_i9]; exact own_diff hc520 hc399)⟩) (own_leqc _ _ _ _) (fun _ _ q => ⟨rfl, q⟩)
          · refine OFin.of (S' := T531.setTop (mkF m 223 #[.val (.int p0), .val (.long q1), .second, .val (.long q2), .second, .val (.long q3), .second, .val (.long q4), .second, .val (.int i9), .val (.int i10), .val (.int i11), .val (.int i12), .val (.int (0 : Int32)), .val (.ref b400), .val (.ref b443), .val (.int (0 : Int32)), .val (.long (4294967295 : Int64)), .second, .val (.long j19), .second, .val (.long j21), .second, .val (.long j19), .second, .val (.long j21), .second, .unset, .unset, .unset, .unset, .unset, .unset, .unset, .unset] [])) (fun t ht => ?_) ?_
            · refine XS.ifNo X531.here hx rfl (hb hby at_208) rfl ((if0 _ _).trans (feq (hc536 : ¬ ((((p0.toUInt32 >>> ((20 : Int32) &&& 31).toUInt32).toInt32) &&& (1 : Int32)) = (0 : Int32)))).1) ?_
              show Steps p.tables e below (T531.setTop (mkF m 211 _ [])) _
              refine XS.lload X531.here hx rfl (hb hby at_211) rfl ?_
              show Steps p.tables e below (T531.setTop (mkF m 213 _ [(.long j21)])) _
              refine XS.goto X531.here hx rfl (pc0 := 213) (pc' := 221) rfl (hb hby at_213) (by decide) (by decide) ?_
              show Steps p.tables e below (T531.setTop (mkF m 221 _ [(.long j21)])) _
              refine XS.lstore X531.here hx rfl (hb hby at_221) rfl (l' := #[.val (.int p0), .val (.long q1), .second, .val (.long q2), .second, .val (.long q3), .second, .val (.long q4), .second, .val (.int i9), .val (.int i10), .val (.int i11), .val (.int i12), .val (.int (0 : Int32)), .val (.ref b400), .val (.ref b443), .val (.int (0 : Int32)), .val (.long (4294967295 : Int64)), .second, .val (.long j19), .second, .val (.long j21), .second, .val (.long j19), .second, .val (.long j21), .second, .unset, .unset, .unset, .unset, .unset, .unset, .unset, .unset]) rfl ?_
              exact ht
            exact seg2 Z _ hw hx hby hlk hret hml hown hZ n0 p0 q1 q2 q3 q4 i9 i10 i11 i12 (0 : Int32) b400 b443 (0 : Int32) (4294967295 : Int64) j19 j21 j19 j21 cs b431 b500 kb_431 kb_500 (((nar .char i9).toInt8.toInt32).toInt8.toInt32) (((nar .char i10).toInt8.toInt32).toInt8.toInt32) (((nar .char i11).toInt8.toInt32).toInt8.toInt32) (((nar .char i12).toInt8.toInt32).toInt8.toInt32) (X531.more (by decide) (by decide)) hs531 Z519 N532 f511 f512 f514 f515 f516 f517 f501 f502 f503 ne445 hcs (Or.inr ⟨rfl, (by rw [h_i12, h_i11, h_i10, h_i9]; exact own_diff hc520 hc399)⟩) (own_leqc _ _ _ _) (fun _ _ q => ⟨rfl, q⟩)
  · refine OFin.of (S' := s₁.setTop (mkF m 59 #[.val (.int p0), .val (.long q1), .second, .val (.long q2), .second, .val (.long q3), .second, .val (.long q4), .second, .val (.int i9), .val (.int i10), .val (.int i11), .val (.int i12), .val (.int (1 : Int32)), .unset, .unset, .unset, .unset, .unset, .unset, .unset, .unset, .unset, .unset, .unset, .unset, .unset, .unset, .unset, .unset, .unset, .unset, .unset, .unset, .unset] [])) (fun t ht => ?_) ?_
    · refine XS.ifNo X0.here hx rfl (hb hby at_49) rfl ((if0 _ _).trans (feq (hc399 : ¬ ((((p0.toUInt32 >>> ((18 : Int32) &&& 31).toUInt32).toInt32) &&& (1 : Int32)) = (0 : Int32)))).1) ?_
      show Steps p.tables e below (s₁.setTop (mkF m 52 _ [])) _
      refine XS.iconst X0.here hx rfl (hb hby at_52) ?_
      show Steps p.tables e below (s₁.setTop (mkF m 53 _ [(.int (1 : Int32))])) _
      refine XS.goto X0.here hx rfl (pc0 := 53) (pc' := 57) rfl (hb hby at_53) (by decide) (by decide) ?_
      show Steps p.tables e below (s₁.setTop (mkF m 57 _ [(.int (1 : Int32))])) _
      refine XS.istore X0.here hx rfl (hb hby at_57) rfl (l' := #[.val (.int p0), .val (.long q1), .second, .val (.long q2), .second, .val (.long q3), .second, .val (.long q4), .second, .val (.int i9), .val (.int i10), .val (.int i11), .val (.int i12), .val (.int (1 : Int32)), .unset, .unset, .unset, .unset, .unset, .unset, .unset, .unset, .unset, .unset, .unset, .unset, .unset, .unset, .unset, .unset, .unset, .unset, .unset, .unset, .unset]) rfl ?_
      exact ht
    obtain ⟨T537, h537, X537, e537, E537, A537, D537, -, st537⟩ := newO X0 hx hZ hown (hw _ (List.mem_of_getElem? (i := 0) rfl)) (hw _ (List.mem_of_getElem? (i := 1) rfl)) (hw _ (List.mem_of_getElem? (i := 2) rfl)) e0 (g := (mkF m 59 #[.val (.int p0), .val (.long q1), .second, .val (.long q2), .second, .val (.long q3), .second, .val (.long q4), .second, .val (.int i9), .val (.int i10), .val (.int i11), .val (.int i12), .val (.int (1 : Int32)), .unset, .unset, .unset, .unset, .unset, .unset, .unset, .unset, .unset, .unset, .unset, .unset, .unset, .unset, .unset, .unset, .unset, .unset, .unset, .unset, .unset] [])) rfl (hb hby at_59) (by decide) (by decide)
    obtain ⟨b537, gq537⟩ : ∃ z, z = h0.size := ⟨_, rfl⟩
    rw [← gq537] at A537 D537 st537
    have g538 : n0 ≤ b537 := (Nat.le_trans Z0 (Nat.le_of_eq gq537.symm))
    have f539 := Scs.ext E537
    have Z540 : n0 ≤ h537.size := (Nat.le_trans Z0 E537.1)
    have f541 : Fld Z h537 b537 "java/lang/String" "coder" "B" (.int (0 : Int32)) := D537 (Or.inr (hw _ (List.mem_of_getElem? (i := 27) rfl))) (ty := .byte) (by decide)
    have f542 : Fld Z h537 b537 "java/lang/String" "value" "[B" .null := D537 (Or.inr (hw _ (List.mem_of_getElem? (i := 29) rfl))) (ty := (.array .byte)) (by decide)
    refine OFin.of (S' := T537.setTop (mkF m 62 #[.val (.int p0), .val (.long q1), .second, .val (.long q2), .second, .val (.long q3), .second, .val (.long q4), .second, .val (.int i9), .val (.int i10), .val (.int i11), .val (.int i12), .val (.int (1 : Int32)), .unset, .unset, .unset, .unset, .unset, .unset, .unset, .unset, .unset, .unset, .unset, .unset, .unset, .unset, .unset, .unset, .unset, .unset, .unset, .unset, .unset] [(.ref b537)])) (fun t ht => st537 t ht) ?_
    refine OFin.of (S' := T537.setTop (mkF m 64 #[.val (.int p0), .val (.long q1), .second, .val (.long q2), .second, .val (.long q3), .second, .val (.long q4), .second, .val (.int i9), .val (.int i10), .val (.int i11), .val (.int i12), .val (.int (1 : Int32)), .unset, .unset, .unset, .unset, .unset, .unset, .unset, .unset, .unset, .unset, .unset, .unset, .unset, .unset, .unset, .unset, .unset, .unset, .unset, .unset, .unset] [(.int (2 : Int32)), (.ref b537), (.ref b537)])) (fun t ht => ?_) ?_
    · refine XS.dup X537.here hx rfl (hb hby at_62) rfl rfl ?_
      show Steps p.tables e below (T537.setTop (mkF m 63 _ [(.ref b537), (.ref b537)])) _
      refine XS.iconst X537.here hx rfl (hb hby at_63) ?_
      exact ht
    obtain ⟨T543, h543, k543, X543, e543, E543, A543, st543⟩ := newP X537 hx hZ (hw _ (List.mem_of_getElem? (i := 3) rfl)) e537 (g := (mkF m 64 #[.val (.int p0), .val (.long q1), .second, .val (.long q2), .second, .val (.long q3), .second, .val (.long q4), .second, .val (.int i9), .val (.int i10), .val (.int i11), .val (.int i12), .val (.int (1 : Int32)), .unset, .unset, .unset, .unset, .unset, .unset, .unset, .unset, .unset, .unset, .unset, .unset, .unset, .unset, .unset, .unset, .unset, .unset, .unset, .unset, .unset] [(.int (2 : Int32)), (.ref b537), (.ref b537)])) rfl (hb hby at_64) rfl (by decide) (cap := 2) (by decide) (by decide) (by decide) (by decide)
    obtain ⟨b543, gq543⟩ : ∃ z, z = h537.size := ⟨_, rfl⟩
    rw [← gq543] at A543 st543
    have g544 : n0 ≤ b543 := (Nat.le_trans Z540 (Nat.le_of_eq gq543.symm))
    have ne545 : b537 ≠ b543 := (Nat.ne_of_lt (Nat.lt_of_lt_of_le A537.lt (Nat.le_of_eq gq543.symm)))
    have f546 := f539.ext E543
    have f547 := A537.ext E543
    have f548 := f541.ext E543
    have f549 := f542.ext E543
    have Z550 : n0 ≤ h543.size := (Nat.le_trans Z540 E543.1)
    have f551 : Arv Z h543 b543 k543 .char (2 : Int32) [(.int (0 : Int32)), (.int (0 : Int32))] (.int (0 : Int32)) := ((Arv.new A543 (by decide)).pad (pad_rep [] (.int (0 : Int32)) 2))
    refine OFin.of (S' := T543.setTop (mkF m 66 #[.val (.int p0), .val (.long q1), .second, .val (.long q2), .second, .val (.long q3), .second, .val (.long q4), .second, .val (.int i9), .val (.int i10), .val (.int i11), .val (.int i12), .val (.int (1 : Int32)), .unset, .unset, .unset, .unset, .unset, .unset, .unset, .unset, .unset, .unset, .unset, .unset, .unset, .unset, .unset, .unset, .unset, .unset, .unset, .unset, .unset] [(.ref b543), (.ref b537), (.ref b537)])) (fun t ht => st543 t ht) ?_
    refine OFin.of (S' := T543.setTop (mkF m 70 #[.val (.int p0), .val (.long q1), .second, .val (.long q2), .second, .val (.long q3), .second, .val (.long q4), .second, .val (.int i9), .val (.int i10), .val (.int i11), .val (.int i12), .val (.int (1 : Int32)), .unset, .unset, .unset, .unset, .unset, .unset, .unset, .unset, .unset, .unset, .unset, .unset, .unset, .unset, .unset, .unset, .unset, .unset, .unset, .unset, .unset] [(.int i9), (.int (0 : Int32)), (.ref b543), (.ref b543), (.ref b537), (.ref b537)])) (fun t ht => ?_) ?_
    · refine XS.dup X543.here hx rfl (hb hby at_66) rfl rfl ?_
      show Steps p.tables e below (T543.setTop (mkF m 67 _ [(.ref b543), (.ref b543), (.ref b537), (.ref b537)])) _
      refine XS.iconst X543.here hx rfl (hb hby at_67) ?_
      show Steps p.tables e below (T543.setTop (mkF m 68 _ [(.int (0 : Int32)), (.ref b543), (.ref b543), (.ref b537), (.ref b537)])) _
      refine XS.iload X543.here hx rfl (hb hby at_68) rfl ?_
      exact ht
    obtain ⟨cl552, Ar552, q552, S552, Ng552, H552, G552⟩ := id f551
    have hin552 := inb_of (j := (0 : Int32)) S552 ⟨by decide, by decide⟩
    obtain ⟨T552, h552, X552, e552, W552, st552⟩ := stC X543 hx hZ e543 Ar552 (j := (0 : Int32)) hin552 (g := (mkF m 70 #[.val (.int p0), .val (.long q1), .second, .val (.long q2), .second, .val (.long q3), .second, .val (.long q4), .second, .val (.int i9), .val (.int i10), .val (.int i11), .val (.int i12), .val (.int (1 : Int32)), .unset, .unset, .unset, .unset, .unset, .unset, .unset, .unset, .unset, .unset, .unset, .unset, .unset, .unset, .unset, .unset, .unset, .unset, .unset, .unset, .unset] [(.int i9), (.int (0 : Int32)), (.ref b543), (.ref b543), (.ref b537), (.ref b537)])) rfl rfl (hb hby at_70)
    have f553 := (f546.wr W552)
    have f554 := (f547.wr W552)
    have f555 := (f548.other W552 (Or.inl ne545))
    have f556 := (f549.other W552 (Or.inl ne545))
    have Z557 : n0 ≤ h552.size := (Nat.le_trans Z550 (Keep.of_wr W552).1)
    have N558 := Fr.snoc X552 N0 g544
    have f559 : Arv Z h552 b543 k543 .char (2 : Int32) [(.int (nar .char i9)), (.int (0 : Int32))] (.int (0 : Int32)) := Arv.set Ar552 q552 S552 Ng552 H552 G552 (fits_nar_char _) W552 0 rfl (Nat.le_of_ble_eq_true rfl)
    refine OFin.of (S' := T552.setTop (mkF m 71 #[.val (.int p0), .val (.long q1), .second, .val (.long q2), .second, .val (.long q3), .second, .val (.long q4), .second, .val (.int i9), .val (.int i10), .val (.int i11), .val (.int i12), .val (.int (1 : Int32)), .unset, .unset, .unset, .unset, .unset, .unset, .unset, .unset, .unset, .unset, .unset, .unset, .unset, .unset, .unset, .unset, .unset, .unset, .unset, .unset, .unset] [(.ref b543), (.ref b537), (.ref b537)])) (fun t ht => st552 t ht) ?_
    refine OFin.of (S' := T552.setTop (mkF m 75 #[.val (.int p0), .val (.long q1), .second, .val (.long q2), .second, .val (.long q3), .second, .val (.long q4), .second, .val (.int i9), .val (.int i10), .val (.int i11), .val (.int i12), .val (.int (1 : Int32)), .unset, .unset, .unset, .unset, .unset, .unset, .unset, .unset, .unset, .unset, .unset, .unset, .unset, .unset, .unset, .unset, .unset, .unset, .unset, .unset, .unset] [(.int i10), (.int (1 : Int32)), (.ref b543), (.ref b543), (.ref b537), (.ref b537)])) (fun t ht => ?_) ?_
    · refine XS.dup X552.here hx rfl (hb hby at_71) rfl rfl ?_
      show Steps p.tables e below (T552.setTop (mkF m 72 _ [(.ref b543), (.ref b543), (.ref b537), (.ref b537)])) _
      refine XS.iconst X552.here hx rfl (hb hby at_72) ?_
      show Steps p.tables e below (T552.setTop (mkF m 73 _ [(.int (1 : Int32)), (.ref b543), (.ref b543), (.ref b537), (.ref b537)])) _
      refine XS.iload X552.here hx rfl (hb hby at_73) rfl ?_
      exact ht
    obtain ⟨cl560, Ar560, q560, S560, Ng560, H560, G560⟩ := id f559
    have hin560 := inb_of (j := (1 : Int32)) S560 ⟨by decide, by decide⟩
    obtain ⟨T560, h560, X560, e560, W560, st560⟩ := stC X552 hx hZ e552 Ar560 (j := (1 : Int32)) hin560 (g := (mkF m 75 #[.val (.int p0), .val (.long q1), .second, .val (.long q2), .second, .val (.long q3), .second, .val (.long q4), .second, .val (.int i9), .val (.int i10), .val (.int i11), .val (.int i12), .val (.int (1 : Int32)), .unset, .unset, .unset, .unset, .unset, .unset, .unset, .unset, .unset, .unset, .unset, .unset, .unset, .unset, .unset, .unset, .unset, .unset, .unset, .unset, .unset] [(.int i10), (.int (1 : Int32)), (.ref b543), (.ref b543), (.ref b537), (.ref b537)])) rfl rfl (hb hby at_75)
    have f561 := (f553.wr W560)
    have f562 := (f554.wr W560)
    have f563 := (f555.other W560 (Or.inl ne545))
    have f564 := (f556.other W560 (Or.inl ne545))
    have Z565 : n0 ≤ h560.size := (Nat.le_trans Z557 (Keep.of_wr W560).1)
    have N566 := Fr.snoc X560 N558 g544
    have f567 : Arv Z h560 b543 k543 .char (2 : Int32) [(.int (nar .char i9)), (.int (nar .char i10))] (.int (0 : Int32)) := Arv.set Ar560 q560 S560 Ng560 H560 G560 (fits_nar_char _) W560 1 rfl (Nat.le_of_ble_eq_true rfl)
    refine OFin.of (S' := T560.setTop (mkF m 76 #[.val (.int p0), .val (.long q1), .second, .val (.long q2), .second, .val (.long q3), .second, .val (.long q4), .second, .val (.int i9), .val (.int i10), .val (.int i11), .val (.int i12), .val (.int (1 : Int32)), .unset, .unset, .unset, .unset, .unset, .unset, .unset, .unset, .unset, .unset, .unset, .unset, .unset, .unset, .unset, .unset, .unset, .unset, .unset, .unset, .unset] [(.ref b543), (.ref b537), (.ref b537)])) (fun t ht => st560 t ht) ?_
    obtain ⟨_, _, ⟨T568, L568, k568, n568⟩, -, X568, ⟨Lc568, hQ568, l568, y568, z568⟩, st568⟩ := X560.specialBack hx (y := (⟨"java/lang/String", "<init>", "([C)V"⟩ : MethodName)) rfl hown (mvT hZ (hw _ (List.mem_of_getElem? (i := 4) rfl))) (mvT hZ (hw _ (List.mem_of_getElem? (i := 5) rfl))) (mvT hZ (hw _ (List.mem_of_getElem? (i := 6) rfl))) (by decide) (backOf (W := 1) (rmSi2 l Z _ hw [] b537 b543 k543 cs (nar .char i9) (nar .char i10) h560 n0 Z565 f562 f563 f564 f567 g538 (Ne.symm ne545) f561 hcs (by rw [h_i9]; exact own_hp _) (by rw [h_i10]; exact own_hp _)) hZ (hw _ (List.mem_of_getElem? (i := 6) rfl)) (hw _ (List.mem_of_getElem? (i := 2) rfl)) (by decide) (by decide)) (g := (mkF m 76 #[.val (.int p0), .val (.long q1), .second, .val (.long q2), .second, .val (.long q3), .second, .val (.long q4), .second, .val (.int i9), .val (.int i10), .val (.int i11), .val (.int i12), .val (.int (1 : Int32)), .unset, .unset, .unset, .unset, .unset, .unset, .unset, .unset, .unset, .unset, .unset, .unset, .unset, .unset, .unset, .unset, .unset, .unset, .unset, .unset, .unset] [(.ref b543), (.ref b537), (.ref b537)])) rfl (by rw [hml]; rfl) (Steps.refl _) (a := b537) (argsL := [(.ref b543)]) (rest := [(.ref b537)]) (lenOf pd_9 rfl) rfl (by show 2 * 0 + _ ≤ _; exact Nat.le_of_eq rfl) (hb hby at_76) (fun _ _ => ⟨rfl, e560, (by decide : 2 + 1 ≤ _), (by decide : 6 + 2 ≤ _)⟩)
    dsimp only [Pt.U, Pt.locs, Pt.cells, Pt.slots] at X568 l568 y568 z568 st568 hQ568
    subst l568 y568 z568
    obtain ⟨rfl, Nq568, Kq568, f569, f570, ⟨kb_568, f571⟩⟩ := hQ568
    have N572 := Fr.app N566 Nq568
    obtain ⟨b568, gq568⟩ : ∃ z, z = h560.size := ⟨_, rfl⟩
    rw [← gq568] at f570 f571
    have g573 : n0 ≤ b568 := (Nat.le_trans Z565 (Nat.le_of_eq gq568.symm))
    have ne574 : b537 ≠ b568 := (Nat.ne_of_lt (Nat.lt_of_lt_of_le f562.lt (Nat.le_of_eq gq568.symm)))
    have ne575 : b543 ≠ b568 := (Nat.ne_of_lt (Nat.lt_of_lt_of_le f567.lt (Nat.le_of_eq gq568.symm)))
    have f576 := (own_staKeep f561 Kq568 (own_snS f562 own_sn0))
    have f577 := (f562.keep Kq568)
    have f578 := (f567.keep Kq568 (ninS (Ne.symm ne545) nin0))
    have Z579 : n0 ≤ T568.heap.size := (Nat.le_trans Z565 Kq568.1)
    refine OFin.to (S' := T568.setTop (mkF m 79 #[.val (.int p0), .val (.long q1), .second, .val (.long q2), .second, .val (.long q3), .second, .val (.long q4), .second, .val (.int i9), .val (.int i10), .val (.int i11), .val (.int i12), .val (.int (1 : Int32)), .unset, .unset, .unset, .unset, .unset, .unset, .unset, .unset, .unset, .unset, .unset, .unset, .unset, .unset, .unset, .unset, .unset, .unset, .unset, .unset, .unset] [(.ref b537)])) st568 ?_
    refine OFin.of (S' := T568.setTop (mkF m 86 #[.val (.int p0), .val (.long q1), .second, .val (.long q2), .second, .val (.long q3), .second, .val (.long q4), .second, .val (.int i9), .val (.int i10), .val (.int i11), .val (.int i12), .val (.int (1 : Int32)), .val (.ref b537), .unset, .unset, .unset, .unset, .unset, .unset, .unset, .unset, .unset, .unset, .unset, .unset, .unset, .unset, .unset, .unset, .unset, .unset, .unset, .unset] [])) (fun t ht => ?_) ?_
    · refine XS.astore X568.here hx rfl (hb hby at_79) rfl rfl (l' := #[.val (.int p0), .val (.long q1), .second, .val (.long q2), .second, .val (.long q3), .second, .val (.long q4), .second, .val (.int i9), .val (.int i10), .val (.int i11), .val (.int i12), .val (.int (1 : Int32)), .val (.ref b537), .unset, .unset, .unset, .unset, .unset, .unset, .unset, .unset, .unset, .unset, .unset, .unset, .unset, .unset, .unset, .unset, .unset, .unset, .unset, .unset]) rfl ?_
      show Steps p.tables e below (T568.setTop (mkF m 81 #[.val (.int p0), .val (.long q1), .second, .val (.long q2), .second, .val (.long q3), .second, .val (.long q4), .second, .val (.int i9), .val (.int i10), .val (.int i11), .val (.int i12), .val (.int (1 : Int32)), .val (.ref b537), .unset, .unset, .unset, .unset, .unset, .unset, .unset, .unset, .unset, .unset, .unset, .unset, .unset, .unset, .unset, .unset, .unset, .unset, .unset, .unset] [])) _
      refine XS.iload X568.here hx rfl (hb hby at_81) rfl ?_
      show Steps p.tables e below (T568.setTop (mkF m 83 _ [(.int (1 : Int32))])) _
      refine XS.ifNo X568.here hx rfl (hb hby at_83) rfl ((if0 _ _).trans (feq (by decide : ¬ ((1 : Int32) = (0 : Int32)))).1) ?_
      exact ht
    obtain ⟨T580, h580, X580, e580, E580, A580, D580, -, st580⟩ := newO X568 hx hZ hown (hw _ (List.mem_of_getElem? (i := 0) rfl)) (hw _ (List.mem_of_getElem? (i := 1) rfl)) (hw _ (List.mem_of_getElem? (i := 2) rfl)) (rfl : T568.heap = T568.heap) (g := (mkF m 86 #[.val (.int p0), .val (.long q1), .second, .val (.long q2), .second, .val (.long q3), .second, .val (.long q4), .second, .val (.int i9), .val (.int i10), .val (.int i11), .val (.int i12), .val (.int (1 : Int32)), .val (.ref b537), .unset, .unset, .unset, .unset, .unset, .unset, .unset, .unset, .unset, .unset, .unset, .unset, .unset, .unset, .unset, .unset, .unset, .unset, .unset, .unset] [])) rfl (hb hby at_86) (by decide) (by decide)
    obtain ⟨b580, gq580⟩ : ∃ z, z = T568.heap.size := ⟨_, rfl⟩
    rw [← gq580] at A580 D580 st580
    have g581 : n0 ≤ b580 := (Nat.le_trans Z579 (Nat.le_of_eq gq580.symm))
    have ne582 : b537 ≠ b580 := (Nat.ne_of_lt (Nat.lt_of_lt_of_le f577.lt (Nat.le_of_eq gq580.symm)))
    have ne583 : b543 ≠ b580 := (Nat.ne_of_lt (Nat.lt_of_lt_of_le f578.lt (Nat.le_of_eq gq580.symm)))
    have ne584 : b568 ≠ b580 := (Nat.ne_of_lt (Nat.lt_of_lt_of_le f571.lt (Nat.le_of_eq gq580.symm)))
    have f585 := f576.ext E580
    have f586 := f577.ext E580
    have f587 := f578.ext E580
    have f588 := f569.ext E580
    have f589 := f570.ext E580
    have f590 := f571.ext E580
    have Z591 : n0 ≤ h580.size := (Nat.le_trans Z579 E580.1)
    have f592 : Fld Z h580 b580 "java/lang/String" "coder" "B" (.int (0 : Int32)) := D580 (Or.inr (hw _ (List.mem_of_getElem? (i := 27) rfl))) (ty := .byte) (by decide)
    have f593 : Fld Z h580 b580 "java/lang/String" "value" "[B" .null := D580 (Or.inr (hw _ (List.mem_of_getElem? (i := 29) rfl))) (ty := (.array .byte)) (by decide)
    refine OFin.of (S' := T580.setTop (mkF m 89 #[.val (.int p0), .val (.long q1), .second, .val (.long q2), .second, .val (.long q3), .second, .val (.long q4), .second, .val (.int i9), .val (.int i10), .val (.int i11), .val (.int i12), .val (.int (1 : Int32)), .val (.ref b537), .unset, .unset, .unset, .unset, .unset, .unset, .unset, .unset, .unset, .unset, .unset, .unset, .unset, .unset, .unset, .unset, .unset, .unset, .unset, .unset] [(.ref b580)])) (fun t ht => st580 t ht) ?_
    refine OFin.of (S' := T580.setTop (mkF m 91 #[.val (.int p0), .val (.long q1), .second, .val (.long q2), .second, .val (.long q3), .second, .val (.long q4), .second, .val (.int i9), .val (.int i10), .val (.int i11), .val (.int i12), .val (.int (1 : Int32)), .val (.ref b537), .unset, .unset, .unset, .unset, .unset, .unset, .unset, .unset, .unset, .unset, .unset, .unset, .unset, .unset, .unset, .unset, .unset, .unset, .unset, .unset] [(.int (1 : Int32)), (.ref b580), (.ref b580)])) (fun t ht => ?_) ?_
    · refine XS.dup X580.here hx rfl (hb hby at_89) rfl rfl ?_
      show Steps p.tables e below (T580.setTop (mkF m 90 _ [(.ref b580), (.ref b580)])) _
      refine XS.iconst X580.here hx rfl (hb hby at_90) ?_
      exact ht
    obtain ⟨T594, h594, k594, X594, e594, E594, A594, st594⟩ := newP X580 hx hZ (hw _ (List.mem_of_getElem? (i := 3) rfl)) e580 (g := (mkF m 91 #[.val (.int p0), .val (.long q1), .second, .val (.long q2), .second, .val (.long q3), .second, .val (.long q4), .second, .val (.int i9), .val (.int i10), .val (.int i11), .val (.int i12), .val (.int (1 : Int32)), .val (.ref b537), .unset, .unset, .unset, .unset, .unset, .unset, .unset, .unset, .unset, .unset, .unset, .unset, .unset, .unset, .unset, .unset, .unset, .unset, .unset, .unset] [(.int (1 : Int32)), (.ref b580), (.ref b580)])) rfl (hb hby at_91) rfl (by decide) (cap := 1) (by decide) (by decide) (by decide) (by decide)
    obtain ⟨b594, gq594⟩ : ∃ z, z = h580.size := ⟨_, rfl⟩
    rw [← gq594] at A594 st594
    have g595 : n0 ≤ b594 := (Nat.le_trans Z591 (Nat.le_of_eq gq594.symm))
    have ne596 : b537 ≠ b594 := (Nat.ne_of_lt (Nat.lt_of_lt_of_le f586.lt (Nat.le_of_eq gq594.symm)))
    have ne597 : b543 ≠ b594 := (Nat.ne_of_lt (Nat.lt_of_lt_of_le f587.lt (Nat.le_of_eq gq594.symm)))
    have ne598 : b568 ≠ b594 := (Nat.ne_of_lt (Nat.lt_of_lt_of_le f590.lt (Nat.le_of_eq gq594.symm)))
    have ne599 : b580 ≠ b594 := (Nat.ne_of_lt (Nat.lt_of_lt_of_le A580.lt (Nat.le_of_eq gq594.symm)))
    have f600 := f585.ext E594
    have f601 := f586.ext E594
    have f602 := f587.ext E594
    have f603 := f588.ext E594
    have f604 := f589.ext E594
    have f605 := f590.ext E594
    have f606 := A580.ext E594
    have f607 := f592.ext E594
    have f608 := f593.ext E594
    have Z609 : n0 ≤ h594.size := (Nat.le_trans Z591 E594.1)
    have f610 : Arv Z h594 b594 k594 .char (1 : Int32) [(.int (0 : Int32))] (.int (0 : Int32)) := ((Arv.new A594 (by decide)).pad (pad_rep [] (.int (0 : Int32)) 1))
    refine OFin.of (S' := T594.setTop (mkF m 93 #[.val (.int p0), .val (.long q1), .second, .val (.long q2), .second, .val (.long q3), .second, .val (.long q4), .second, .val (.int i9), .val (.int i10), .val (.int i11), .val (.int i12), .val (.int (1 : Int32)), .val (.ref b537), .unset, .unset, .unset, .unset, .unset, .unset, .unset, .unset, .unset, .unset, .unset, .unset, .unset, .unset, .unset, .unset, .unset, .unset, .unset, .unset] [(.ref b594), (.ref b580), (.ref b580)])) (fun t ht => st594 t ht) ?_
    refine OFin.of (S' := T594.setTop (mkF m 97 #[.val (.int p0), .val (.long q1), .second, .val (.long q2), .second, .val (.long q3), .second, .val (.long q4), .second, .val (.int i9), .val (.int i10), .val (.int i11), .val (.int i12), .val (.int (1 : Int32)), .val (.ref b537), .unset, .unset, .unset, .unset, .unset, .unset, .unset, .unset, .unset, .unset, .unset, .unset, .unset, .unset, .unset, .unset, .unset, .unset, .unset, .unset] [(.int i11), (.int (0 : Int32)), (.ref b594), (.ref b594), (.ref b580), (.ref b580)])) (fun t ht => ?_) ?_
    · refine XS.dup X594.here hx rfl (hb hby at_93) rfl rfl ?_
      show Steps p.tables e below (T594.setTop (mkF m 94 _ [(.ref b594), (.ref b594), (.ref b580), (.ref b580)])) _
      refine XS.iconst X594.here hx rfl (hb hby at_94) ?_
      show Steps p.tables e below (T594.setTop (mkF m 95 _ [(.int (0 : Int32)), (.ref b594), (.ref b594), (.ref b580), (.ref b580)])) _
      refine XS.iload X594.here hx rfl (hb hby at_95) rfl ?_
      exact ht
    obtain ⟨cl611, Ar611, q611, S611, Ng611, H611, G611⟩ := id f610
    have hin611 := inb_of (j := (0 : Int32)) S611 ⟨by decide, by decide⟩
    obtain ⟨T611, h611, X611, e611, W611, st611⟩ := stC X594 hx hZ e594 Ar611 (j := (0 : Int32)) hin611 (g := (mkF m 97 #[.val (.int p0), .val (.long q1), .second, .val (.long q2), .second, .val (.long q3), .second, .val (.long q4), .second, .val (.int i9), .val (.int i10), .val (.int i11), .val (.int i12), .val (.int (1 : Int32)), .val (.ref b537), .unset, .unset, .unset, .unset, .unset, .unset, .unset, .unset, .unset, .unset, .unset, .unset, .unset, .unset, .unset, .unset, .unset, .unset, .unset, .unset] [(.int i11), (.int (0 : Int32)), (.ref b594), (.ref b594), (.ref b580), (.ref b580)])) rfl rfl (hb hby at_97)
    have f612 := (f600.wr W611)
    have f613 := (f601.wr W611)
    have f614 := (f602.other W611 ne597)
    have f615 := (f603.other W611 (Or.inl ne596))
    have f616 := (f604.other W611 (Or.inl ne596))
    have f617 := (f605.other W611 ne598)
    have f618 := (f606.wr W611)
    have f619 := (f607.other W611 (Or.inl ne599))
    have f620 := (f608.other W611 (Or.inl ne599))
    have Z621 : n0 ≤ h611.size := (Nat.le_trans Z609 (Keep.of_wr W611).1)
    have N622 := Fr.snoc X611 N572 g595
    have f623 : Arv Z h611 b594 k594 .char (1 : Int32) [(.int (nar .char i11))] (.int (0 : Int32)) := Arv.set Ar611 q611 S611 Ng611 H611 G611 (fits_nar_char _) W611 0 rfl (Nat.le_of_ble_eq_true rfl)
    refine OFin.of (S' := T611.setTop (mkF m 98 #[.val (.int p0), .val (.long q1), .second, .val (.long q2), .second, .val (.long q3), .second, .val (.long q4), .second, .val (.int i9), .val (.int i10), .val (.int i11), .val (.int i12), .val (.int (1 : Int32)), .val (.ref b537), .unset, .unset, .unset, .unset, .unset, .unset, .unset, .unset, .unset, .unset, .unset, .unset, .unset, .unset, .unset, .unset, .unset, .unset, .unset, .unset] [(.ref b594), (.ref b580), (.ref b580)])) (fun t ht => st611 t ht) ?_
    obtain ⟨_, _, ⟨T624, L624, k624, n624⟩, -, X624, ⟨Lc624, hQ624, l624, y624, z624⟩, st624⟩ := X611.specialBack hx (y := (⟨"java/lang/String", "<init>", "([C)V"⟩ : MethodName)) rfl hown (mvT hZ (hw _ (List.mem_of_getElem? (i := 4) rfl))) (mvT hZ (hw _ (List.mem_of_getElem? (i := 5) rfl))) (mvT hZ (hw _ (List.mem_of_getElem? (i := 6) rfl))) (by decide) (backOf (W := 1) (rmSi1 l Z _ hw [] b580 b594 k594 cs (nar .char i11) h611 n0 Z621 f618 f619 f620 f623 g581 (Ne.symm ne599) f612 hcs (by rw [h_i11, h_i9]; exact own_hpx _ _)) hZ (hw _ (List.mem_of_getElem? (i := 6) rfl)) (hw _ (List.mem_of_getElem? (i := 2) rfl)) (by decide) (by decide)) (g := (mkF m 98 #[.val (.int p0), .val (.long q1), .second, .val (.long q2), .second, .val (.long q3), .second, .val (.long q4), .second, .val (.int i9), .val (.int i10), .val (.int i11), .val (.int i12), .val (.int (1 : Int32)), .val (.ref b537), .unset, .unset, .unset, .unset, .unset, .unset, .unset, .unset, .unset, .unset, .unset, .unset, .unset, .unset, .unset, .unset, .unset, .unset, .unset, .unset] [(.ref b594), (.ref b580), (.ref b580)])) rfl (by rw [hml]; rfl) (Steps.refl _) (a := b580) (argsL := [(.ref b594)]) (rest := [(.ref b580)]) (lenOf pd_9 rfl) rfl (by show 2 * 0 + _ ≤ _; exact Nat.le_of_eq rfl) (hb hby at_98) (fun _ _ => ⟨rfl, e611, (by decide : 5 + 1 ≤ _), (by decide : 13 + 1 ≤ _)⟩)
    dsimp only [Pt.U, Pt.locs, Pt.cells, Pt.slots] at X624 l624 y624 z624 st624 hQ624
    subst l624 y624 z624
    obtain ⟨rfl, Nq624, Kq624, f625, f626, ⟨kb_624, f627⟩⟩ := hQ624
    have N628 := Fr.app N622 Nq624
    obtain ⟨b624, gq624⟩ : ∃ z, z = h611.size := ⟨_, rfl⟩
    rw [← gq624] at f626 f627
    have g629 : n0 ≤ b624 := (Nat.le_trans Z621 (Nat.le_of_eq gq624.symm))
    have ne630 : b537 ≠ b624 := (Nat.ne_of_lt (Nat.lt_of_lt_of_le f613.lt (Nat.le_of_eq gq624.symm)))
    have ne631 : b543 ≠ b624 := (Nat.ne_of_lt (Nat.lt_of_lt_of_le f614.lt (Nat.le_of_eq gq624.symm)))
    have ne632 : b568 ≠ b624 := (Nat.ne_of_lt (Nat.lt_of_lt_of_le f617.lt (Nat.le_of_eq gq624.symm)))
    have ne633 : b580 ≠ b624 := (Nat.ne_of_lt (Nat.lt_of_lt_of_le f618.lt (Nat.le_of_eq gq624.symm)))
    have ne634 : b594 ≠ b624 := (Nat.ne_of_lt (Nat.lt_of_lt_of_le f623.lt (Nat.le_of_eq gq624.symm)))
    have f635 := (own_staKeep f612 Kq624 (own_snS f618 own_sn0))
    have f636 := (f613.keep Kq624)
    have f637 := (f614.keep Kq624 (ninS ne583 nin0))
    have f638 := (f615.keep Kq624 (ninS ne582 nin0))
    have f639 := (f616.keep Kq624 (ninS ne582 nin0))
    have f640 := (f617.keep Kq624 (ninS ne584 nin0))
    have f641 := (f618.keep Kq624)
    have f642 := (f623.keep Kq624 (ninS (Ne.symm ne599) nin0))
    have Z643 : n0 ≤ T624.heap.size := (Nat.le_trans Z621 Kq624.1)
    refine OFin.to (S' := T624.setTop (mkF m 101 #[.val (.int p0), .val (.long q1), .second, .val (.long q2), .second, .val (.long q3), .second, .val (.long q4), .second, .val (.int i9), .val (.int i10), .val (.int i11), .val (.int i12), .val (.int (1 : Int32)), .val (.ref b537), .unset, .unset, .unset, .unset, .unset, .unset, .unset, .unset, .unset, .unset, .unset, .unset, .unset, .unset, .unset, .unset, .unset, .unset, .unset, .unset] [(.ref b580)])) st624 ?_
    refine OFin.of (S' := T624.setTop (mkF m 153 #[.val (.int p0), .val (.long q1), .second, .val (.long q2), .second, .val (.long q3), .second, .val (.long q4), .second, .val (.int i9), .val (.int i10), .val (.int i11), .val (.int i12), .val (.int (1 : Int32)), .val (.ref b537), .val (.ref b580), .val (.int (0 : Int32)), .val (.long (4294967295 : Int64)), .second, .unset, .unset, .unset, .unset, .unset, .unset, .unset, .unset, .unset, .unset, .unset, .unset, .unset, .unset, .unset, .unset] [(.long (q2 &&& (4294967295 : Int64))), (.long (q1 &&& (4294967295 : Int64)))])) (fun t ht => ?_) ?_
    · refine XS.goto X624.here hx rfl (pc0 := 101) (pc' := 124) rfl (hb hby at_101) (by decide) (by decide) ?_
      show Steps p.tables e below (T624.setTop (mkF m 124 _ [(.ref b580)])) _
      refine XS.astore X624.here hx rfl (hb hby at_124) rfl rfl (l' := #[.val (.int p0), .val (.long q1), .second, .val (.long q2), .second, .val (.long q3), .second, .val (.long q4), .second, .val (.int i9), .val (.int i10), .val (.int i11), .val (.int i12), .val (.int (1 : Int32)), .val (.ref b537), .val (.ref b580), .unset, .unset, .unset, .unset, .unset, .unset, .unset, .unset, .unset, .unset, .unset, .unset, .unset, .unset, .unset, .unset, .unset, .unset, .unset]) rfl ?_
      show Steps p.tables e below (T624.setTop (mkF m 126 #[.val (.int p0), .val (.long q1), .second, .val (.long q2), .second, .val (.long q3), .second, .val (.long q4), .second, .val (.int i9), .val (.int i10), .val (.int i11), .val (.int i12), .val (.int (1 : Int32)), .val (.ref b537), .val (.ref b580), .unset, .unset, .unset, .unset, .unset, .unset, .unset, .unset, .unset, .unset, .unset, .unset, .unset, .unset, .unset, .unset, .unset, .unset, .unset] [])) _
      refine XS.iloadN X624.here hx rfl (hb hby at_126) rfl ?_
      show Steps p.tables e below (T624.setTop (mkF m 127 _ [(.int p0)])) _
      refine X624.ldcInt hx hown (mvT hZ (hw _ (List.mem_of_getElem? (i := 30) rfl))) (g := (mkF m 127 #[.val (.int p0), .val (.long q1), .second, .val (.long q2), .second, .val (.long q3), .second, .val (.long q4), .second, .val (.int i9), .val (.int i10), .val (.int i11), .val (.int i12), .val (.int (1 : Int32)), .val (.ref b537), .val (.ref b580), .unset, .unset, .unset, .unset, .unset, .unset, .unset, .unset, .unset, .unset, .unset, .unset, .unset, .unset, .unset, .unset, .unset, .unset, .unset] [(.int p0)])) rfl (hb hby at_127) _ ?_
      show Steps p.tables e below (T624.setTop (mkF m 129 _ [(.int (458752 : Int32)), (.int p0)])) _
      refine XS.iand X624.here hx rfl (hb hby at_129) rfl ?_
      show Steps p.tables e below (T624.setTop (mkF m 130 _ [(.int (p0 &&& (458752 : Int32)))])) _
      refine XS.ifYes X624.here hx rfl (pc0 := 130) (pc' := 137) rfl (hb hby at_130) rfl ((if0 _ _).trans (feq (own_short hc399 : ¬ ((p0 &&& (458752 : Int32)) = (0 : Int32)))).2) (by decide) (by decide) ?_
      show Steps p.tables e below (T624.setTop (mkF m 137 _ [])) _
      refine XS.iconst X624.here hx rfl (hb hby at_137) ?_
      show Steps p.tables e below (T624.setTop (mkF m 138 _ [(.int (0 : Int32))])) _
      refine XS.istore X624.here hx rfl (hb hby at_138) rfl (l' := #[.val (.int p0), .val (.long q1), .second, .val (.long q2), .second, .val (.long q3), .second, .val (.long q4), .second, .val (.int i9), .val (.int i10), .val (.int i11), .val (.int i12), .val (.int (1 : Int32)), .val (.ref b537), .val (.ref b580), .val (.int (0 : Int32)), .unset, .unset, .unset, .unset, .unset, .unset, .unset, .unset, .unset, .unset, .unset, .unset, .unset, .unset, .unset, .unset, .unset, .unset]) rfl ?_
      show Steps p.tables e below (T624.setTop (mkF m 140 #[.val (.int p0), .val (.long q1), .second, .val (.long q2), .second, .val (.long q3), .second, .val (.long q4), .second, .val (.int i9), .val (.int i10), .val (.int i11), .val (.int i12), .val (.int (1 : Int32)), .val (.ref b537), .val (.ref b580), .val (.int (0 : Int32)), .unset, .unset, .unset, .unset, .unset, .unset, .unset, .unset, .unset, .unset, .unset, .unset, .unset, .unset, .unset, .unset, .unset, .unset] [])) _
      refine X624.ldc2Long hx hown (mvT hZ (hw _ (List.mem_of_getElem? (i := 31) rfl))) (g := (mkF m 140 #[.val (.int p0), .val (.long q1), .second, .val (.long q2), .second, .val (.long q3), .second, .val (.long q4), .second, .val (.int i9), .val (.int i10), .val (.int i11), .val (.int i12), .val (.int (1 : Int32)), .val (.ref b537), .val (.ref b580), .val (.int (0 : Int32)), .unset, .unset, .unset, .unset, .unset, .unset, .unset, .unset, .unset, .unset, .unset, .unset, .unset, .unset, .unset, .unset, .unset, .unset] [])) rfl (hb hby at_140) _ ?_
      show Steps p.tables e below (T624.setTop (mkF m 143 _ [(.long (4294967295 : Int64))])) _
      refine XS.lstore X624.here hx rfl (hb hby at_143) rfl (l' := #[.val (.int p0), .val (.long q1), .second, .val (.long q2), .second, .val (.long q3), .second, .val (.long q4), .second, .val (.int i9), .val (.int i10), .val (.int i11), .val (.int i12), .val (.int (1 : Int32)), .val (.ref b537), .val (.ref b580), .val (.int (0 : Int32)), .val (.long (4294967295 : Int64)), .second, .unset, .unset, .unset, .unset, .unset, .unset, .unset, .unset, .unset, .unset, .unset, .unset, .unset, .unset, .unset, .unset]) rfl ?_
      show Steps p.tables e below (T624.setTop (mkF m 145 #[.val (.int p0), .val (.long q1), .second, .val (.long q2), .second, .val (.long q3), .second, .val (.long q4), .second, .val (.int i9), .val (.int i10), .val (.int i11), .val (.int i12), .val (.int (1 : Int32)), .val (.ref b537), .val (.ref b580), .val (.int (0 : Int32)), .val (.long (4294967295 : Int64)), .second, .unset, .unset, .unset, .unset, .unset, .unset, .unset, .unset, .unset, .unset, .unset, .unset, .unset, .unset, .unset, .unset] [])) _
      refine XS.lloadN X624.here hx rfl (hb hby at_145) rfl ?_
      show Steps p.tables e below (T624.setTop (mkF m 146 _ [(.long q1)])) _
      refine XS.lload X624.here hx rfl (hb hby at_146) rfl ?_
      show Steps p.tables e below (T624.setTop (mkF m 148 _ [(.long (4294967295 : Int64)), (.long q1)])) _
      refine XS.land X624.here hx rfl (hb hby at_148) rfl ?_
      show Steps p.tables e below (T624.setTop (mkF m 149 _ [(.long (q1 &&& (4294967295 : Int64)))])) _
      refine XS.lloadN X624.here hx rfl (hb hby at_149) rfl ?_
      show Steps p.tables e below (T624.setTop (mkF m 150 _ [(.long q2), (.long (q1 &&& (4294967295 : Int64)))])) _
      refine XS.lload X624.here hx rfl (hb hby at_150) rfl ?_
      show Steps p.tables e below (T624.setTop (mkF m 152 _ [(.long (4294967295 : Int64)), (.long q2), (.long (q1 &&& (4294967295 : Int64)))])) _
      refine XS.land X624.here hx rfl (hb hby at_152) rfl ?_
      exact ht
    obtain ⟨_, _, ⟨T644, L644, k644, n644⟩, -, X644, ⟨Lc644, hQ644, l644, y644, z644⟩, st644⟩ := Jvm.LawKit.callS X624 hx (y := (⟨"java/lang/Math", "min", "(JJ)J"⟩ : MethodName)) hown (mvT hZ (hw _ (List.mem_of_getElem? (i := 32) rfl))) (mvT hZ (hw _ (List.mem_of_getElem? (i := 33) rfl))) (mvT hZ (hw _ (List.mem_of_getElem? (i := 34) rfl))) (mvT hZ (hw _ (List.mem_of_getElem? (i := 35) rfl))) (by decide) (backOf (W := 0) (rmMn l Z _ hw [] (q1 &&& (4294967295 : Int64)) (q2 &&& (4294967295 : Int64)) T624.heap n0 Z643 ) hZ (hw _ (List.mem_of_getElem? (i := 35) rfl)) (hw _ (List.mem_of_getElem? (i := 34) rfl)) (by decide) (by decide)) (g := (mkF m 153 #[.val (.int p0), .val (.long q1), .second, .val (.long q2), .second, .val (.long q3), .second, .val (.long q4), .second, .val (.int i9), .val (.int i10), .val (.int i11), .val (.int i12), .val (.int (1 : Int32)), .val (.ref b537), .val (.ref b580), .val (.int (0 : Int32)), .val (.long (4294967295 : Int64)), .second, .unset, .unset, .unset, .unset, .unset, .unset, .unset, .unset, .unset, .unset, .unset, .unset, .unset, .unset, .unset, .unset] [(.long (q2 &&& (4294967295 : Int64))), (.long (q1 &&& (4294967295 : Int64)))])) rfl (by rw [hml]; rfl) (argsL := [(.long (q1 &&& (4294967295 : Int64))), (.long (q2 &&& (4294967295 : Int64)))]) (rest := []) (lenOf pd_6 rfl) rfl (by show 2 * 0 + _ ≤ _; exact Nat.le_of_eq rfl) (hb hby at_153) (fun _ _ => ⟨rfl, (rfl : T624.heap = T624.heap), (by decide : 6 + 0 ≤ _), (by decide : 14 + 0 ≤ _)⟩)
    dsimp only [Pt.U, Pt.locs, Pt.cells, Pt.slots] at X644 l644 y644 z644 st644 hQ644
    subst l644 y644 z644
    obtain ⟨rfl, Nq644, hs644⟩ := hQ644
    have N645 := Fr.app N628 Nq644
    refine OFin.of (S' := T644.setTop (mkF m 156 #[.val (.int p0), .val (.long q1), .second, .val (.long q2), .second, .val (.long q3), .second, .val (.long q4), .second, .val (.int i9), .val (.int i10), .val (.int i11), .val (.int i12), .val (.int (1 : Int32)), .val (.ref b537), .val (.ref b580), .val (.int (0 : Int32)), .val (.long (4294967295 : Int64)), .second, .unset, .unset, .unset, .unset, .unset, .unset, .unset, .unset, .unset, .unset, .unset, .unset, .unset, .unset, .unset, .unset] [(.long (own_lmin (q1 &&& (4294967295 : Int64)) (q2 &&& (4294967295 : Int64))))])) (fun t ht => st644 t ht) ?_
    obtain ⟨j19, h_j19⟩ : ∃ z : Int64, z = (own_lmin (q1 &&& (4294967295 : Int64)) (q2 &&& (4294967295 : Int64))) := ⟨_, rfl⟩
    rw [← h_j19]
    refine OFin.of (S' := T644.setTop (mkF m 166 #[.val (.int p0), .val (.long q1), .second, .val (.long q2), .second, .val (.long q3), .second, .val (.long q4), .second, .val (.int i9), .val (.int i10), .val (.int i11), .val (.int i12), .val (.int (1 : Int32)), .val (.ref b537), .val (.ref b580), .val (.int (0 : Int32)), .val (.long (4294967295 : Int64)), .second, .val (.long j19), .second, .unset, .unset, .unset, .unset, .unset, .unset, .unset, .unset, .unset, .unset, .unset, .unset, .unset, .unset] [(.long (q2 &&& (4294967295 : Int64))), (.long (q1 &&& (4294967295 : Int64)))])) (fun t ht => ?_) ?_
    · refine XS.lstore X644.here hx rfl (hb hby at_156) rfl (l' := #[.val (.int p0), .val (.long q1), .second, .val (.long q2), .second, .val (.long q3), .second, .val (.long q4), .second, .val (.int i9), .val (.int i10), .val (.int i11), .val (.int i12), .val (.int (1 : Int32)), .val (.ref b537), .val (.ref b580), .val (.int (0 : Int32)), .val (.long (4294967295 : Int64)), .second, .val (.long j19), .second, .unset, .unset, .unset, .unset, .unset, .unset, .unset, .unset, .unset, .unset, .unset, .unset, .unset, .unset]) rfl ?_
      show Steps p.tables e below (T644.setTop (mkF m 158 #[.val (.int p0), .val (.long q1), .second, .val (.long q2), .second, .val (.long q3), .second, .val (.long q4), .second, .val (.int i9), .val (.int i10), .val (.int i11), .val (.int i12), .val (.int (1 : Int32)), .val (.ref b537), .val (.ref b580), .val (.int (0 : Int32)), .val (.long (4294967295 : Int64)), .second, .val (.long j19), .second, .unset, .unset, .unset, .unset, .unset, .unset, .unset, .unset, .unset, .unset, .unset, .unset, .unset, .unset] [])) _
      refine XS.lloadN X644.here hx rfl (hb hby at_158) rfl ?_
      show Steps p.tables e below (T644.setTop (mkF m 159 _ [(.long q1)])) _
      refine XS.lload X644.here hx rfl (hb hby at_159) rfl ?_
      show Steps p.tables e below (T644.setTop (mkF m 161 _ [(.long (4294967295 : Int64)), (.long q1)])) _
      refine XS.land X644.here hx rfl (hb hby at_161) rfl ?_
      show Steps p.tables e below (T644.setTop (mkF m 162 _ [(.long (q1 &&& (4294967295 : Int64)))])) _
      refine XS.lloadN X644.here hx rfl (hb hby at_162) rfl ?_
      show Steps p.tables e below (T644.setTop (mkF m 163 _ [(.long q2), (.long (q1 &&& (4294967295 : Int64)))])) _
      refine XS.lload X644.here hx rfl (hb hby at_163) rfl ?_
      show Steps p.tables e below (T644.setTop (mkF m 165 _ [(.long (4294967295 : Int64)), (.long q2), (.long (q1 &&& (4294967295 : Int64)))])) _
      refine XS.land X644.here hx rfl (hb hby at_165) rfl ?_
      exact ht
    obtain ⟨_, _, ⟨T646, L646, k646, n646⟩, -, X646, ⟨Lc646, hQ646, l646, y646, z646⟩, st646⟩ := Jvm.LawKit.callS X644 hx (y := (⟨"java/lang/Math", "max", "(JJ)J"⟩ : MethodName)) hown (mvT hZ (hw _ (List.mem_of_getElem? (i := 36) rfl))) (mvT hZ (hw _ (List.mem_of_getElem? (i := 37) rfl))) (mvT hZ (hw _ (List.mem_of_getElem? (i := 34) rfl))) (mvT hZ (hw _ (List.mem_of_getElem? (i := 38) rfl))) (by decide) (backOf (W := 0) (rmMx l Z _ hw [] (q1 &&& (4294967295 : Int64)) (q2 &&& (4294967295 : Int64)) T624.heap n0 Z643 ) hZ (hw _ (List.mem_of_getElem? (i := 38) rfl)) (hw _ (List.mem_of_getElem? (i := 34) rfl)) (by decide) (by decide)) (g := (mkF m 166 #[.val (.int p0), .val (.long q1), .second, .val (.long q2), .second, .val (.long q3), .second, .val (.long q4), .second, .val (.int i9), .val (.int i10), .val (.int i11), .val (.int i12), .val (.int (1 : Int32)), .val (.ref b537), .val (.ref b580), .val (.int (0 : Int32)), .val (.long (4294967295 : Int64)), .second, .val (.long j19), .second, .unset, .unset, .unset, .unset, .unset, .unset, .unset, .unset, .unset, .unset, .unset, .unset, .unset, .unset] [(.long (q2 &&& (4294967295 : Int64))), (.long (q1 &&& (4294967295 : Int64)))])) rfl (by rw [hml]; rfl) (argsL := [(.long (q1 &&& (4294967295 : Int64))), (.long (q2 &&& (4294967295 : Int64)))]) (rest := []) (lenOf pd_6 rfl) rfl (by show 2 * 0 + _ ≤ _; exact Nat.le_of_eq rfl) (hb hby at_166) (fun _ _ => ⟨rfl, hs644, (by decide : 6 + 0 ≤ _), (by decide : 14 + 0 ≤ _)⟩)
    dsimp only [Pt.U, Pt.locs, Pt.cells, Pt.slots] at X646 l646 y646 z646 st646 hQ646
    subst l646 y646 z646
    obtain ⟨rfl, Nq646, hs646⟩ := hQ646
    have N647 := Fr.app N645 Nq646
    refine OFin.of (S' := T646.setTop (mkF m 169 #[.val (.int p0), .val (.long q1), .second, .val (.long q2), .second, .val (.long q3), .second, .val (.long q4), .second, .val (.int i9), .val (.int i10), .val (.int i11), .val (.int i12), .val (.int (1 : Int32)), .val (.ref b537), .val (.ref b580), .val (.int (0 : Int32)), .val (.long (4294967295 : Int64)), .second, .val (.long j19), .second, .unset, .unset, .unset, .unset, .unset, .unset, .unset, .unset, .unset, .unset, .unset, .unset, .unset, .unset] [(.long (own_lmax (q1 &&& (4294967295 : Int64)) (q2 &&& (4294967295 : Int64))))])) (fun t ht => st646 t ht) ?_
    obtain ⟨j21, h_j21⟩ : ∃ z : Int64, z = (own_lmax (q1 &&& (4294967295 : Int64)) (q2 &&& (4294967295 : Int64))) := ⟨_, rfl⟩
    rw [← h_j21]
    refine OFin.of (S' := T646.setTop (mkF m 176 #[.val (.int p0), .val (.long q1), .second, .val (.long q2), .second, .val (.long q3), .second, .val (.long q4), .second, .val (.int i9), .val (.int i10), .val (.int i11), .val (.int i12), .val (.int (1 : Int32)), .val (.ref b537), .val (.ref b580), .val (.int (0 : Int32)), .val (.long (4294967295 : Int64)), .second, .val (.long j19), .second, .val (.long j21), .second, .unset, .unset, .unset, .unset, .unset, .unset, .unset, .unset, .unset, .unset, .unset, .unset] [(.int (lcmpW j19 j21))])) (fun t ht => ?_) ?_
    · refine XS.lstore X646.here hx rfl (hb hby at_169) rfl (l' := #[.val (.int p0), .val (.long q1), .second, .val (.long q2), .second, .val (.long q3), .second, .val (.long q4), .second, .val (.int i9), .val (.int i10), .val (.int i11), .val (.int i12), .val (.int (1 : Int32)), .val (.ref b537), .val (.ref b580), .val (.int (0 : Int32)), .val (.long (4294967295 : Int64)), .second, .val (.long j19), .second, .val (.long j21), .second, .unset, .unset, .unset, .unset, .unset, .unset, .unset, .unset, .unset, .unset, .unset, .unset]) rfl ?_
      show Steps p.tables e below (T646.setTop (mkF m 171 #[.val (.int p0), .val (.long q1), .second, .val (.long q2), .second, .val (.long q3), .second, .val (.long q4), .second, .val (.int i9), .val (.int i10), .val (.int i11), .val (.int i12), .val (.int (1 : Int32)), .val (.ref b537), .val (.ref b580), .val (.int (0 : Int32)), .val (.long (4294967295 : Int64)), .second, .val (.long j19), .second, .val (.long j21), .second, .unset, .unset, .unset, .unset, .unset, .unset, .unset, .unset, .unset, .unset, .unset, .unset] [])) _
      refine XS.lload X646.here hx rfl (hb hby at_171) rfl ?_
      show Steps p.tables e below (T646.setTop (mkF m 173 _ [(.long j19)])) _
      refine XS.lload X646.here hx rfl (hb hby at_173) rfl ?_
      show Steps p.tables e below (T646.setTop (mkF m 175 _ [(.long j21), (.long j19)])) _
      refine XS.lcmp X646.here hx rfl (hb hby at_175) rfl ?_
      exact ht
    by_cases hc648 : (lcmpW j19 j21) = (0 : Int32)
    · refine OFin.of (S' := T646.setTop (mkF m 180 #[.val (.int p0), .val (.long q1), .second, .val (.long q2), .second, .val (.long q3), .second, .val (.long q4), .second, .val (.int i9), .val (.int i10), .val (.int i11), .val (.int i12), .val (.int (1 : Int32)), .val (.ref b537), .val (.ref b580), .val (.int (0 : Int32)), .val (.long (4294967295 : Int64)), .second, .val (.long j19), .second, .val (.long j21), .second, .unset, .unset, .unset, .unset, .unset, .unset, .unset, .unset, .unset, .unset, .unset, .unset] [(.int (1 : Int32))])) (fun t ht => ?_) ?_
      · refine XS.ifNo X646.here hx rfl (hb hby at_176) rfl ((if0 _ _).trans (teq (hc648 : (lcmpW j19 j21) = (0 : Int32))).2) ?_
        show Steps p.tables e below (T646.setTop (mkF m 179 _ [])) _
        refine XS.iconst X646.here hx rfl (hb hby at_179) ?_
        exact ht
      exact OFin.retB X646 hx hlk (t := .boolean) (by simp) hret (hb hby at_180) (by decide) (by decide) (by rw [hs646]; exact ⟨rfl, N647⟩)
    · refine OFin.of (S' := T646.setTop (mkF m 187 #[.val (.int p0), .val (.long q1), .second, .val (.long q2), .second, .val (.long q3), .second, .val (.long q4), .second, .val (.int i9), .val (.int i10), .val (.int i11), .val (.int i12), .val (.int (1 : Int32)), .val (.ref b537), .val (.ref b580), .val (.int (0 : Int32)), .val (.long (4294967295 : Int64)), .second, .val (.long j19), .second, .val (.long j21), .second, .unset, .unset, .unset, .unset, .unset, .unset, .unset, .unset, .unset, .unset, .unset, .unset] [(.int (((p0.toUInt32 >>> ((19 : Int32) &&& 31).toUInt32).toInt32) &&& (1 : Int32)))])) (fun t ht => ?_) ?_
      · refine XS.ifYes X646.here hx rfl (pc0 := 176) (pc' := 181) rfl (hb hby at_176) rfl ((if0 _ _).trans (feq (hc648 : ¬ ((lcmpW j19 j21) = (0 : Int32)))).2) (by decide) (by decide) ?_
        show Steps p.tables e below (T646.setTop (mkF m 181 _ [])) _
        refine XS.iloadN X646.here hx rfl (hb hby at_181) rfl ?_
        show Steps p.tables e below (T646.setTop (mkF m 182 _ [(.int p0)])) _
        refine XS.bipush X646.here hx rfl (hb hby at_182) ?_
        show Steps p.tables e below (T646.setTop (mkF m 184 _ [(.int (19 : Int32)), (.int p0)])) _
        refine XS.iushr X646.here hx rfl (hb hby at_184) rfl ?_
        show Steps p.tables e below (T646.setTop (mkF m 185 _ [(.int ((p0.toUInt32 >>> ((19 : Int32) &&& 31).toUInt32).toInt32))])) _
        refine XS.iconst X646.here hx rfl (hb hby at_185) ?_
        show Steps p.tables e below (T646.setTop (mkF m 186 _ [(.int (1 : Int32)), (.int ((p0.toUInt32 >>> ((19 : Int32) &&& 31).toUInt32).toInt32))])) _
        refine XS.iand X646.here hx rfl (hb hby at_186) rfl ?_
        exact ht
      by_cases hc649 : (((p0.toUInt32 >>> ((19 : Int32) &&& 31).toUInt32).toInt32) &&& (1 : Int32)) = (0 : Int32)
      · refine OFin.of (S' := T646.setTop (mkF m 200 #[.val (.int p0), .val (.long q1), .second, .val (.long q2), .second, .val (.long q3), .second, .val (.long q4), .second, .val (.int i9), .val (.int i10), .val (.int i11), .val (.int i12), .val (.int (1 : Int32)), .val (.ref b537), .val (.ref b580), .val (.int (0 : Int32)), .val (.long (4294967295 : Int64)), .second, .val (.long j19), .second, .val (.long j21), .second, .unset, .unset, .unset, .unset, .unset, .unset, .unset, .unset, .unset, .unset, .unset, .unset] [(.long (q3 &&& (4294967295 : Int64)))])) (fun t ht => ?_) ?_
        · refine XS.ifYes X646.here hx rfl (pc0 := 187) (pc' := 195) rfl (hb hby at_187) rfl ((if0 _ _).trans (teq (hc649 : (((p0.toUInt32 >>> ((19 : Int32) &&& 31).toUInt32).toInt32) &&& (1 : Int32)) = (0 : Int32))).1) (by decide) (by decide) ?_
          show Steps p.tables e below (T646.setTop (mkF m 195 _ [])) _
          refine XS.lload X646.here hx rfl (hb hby at_195) rfl ?_
          show Steps p.tables e below (T646.setTop (mkF m 197 _ [(.long q3)])) _
          refine XS.lload X646.here hx rfl (hb hby at_197) rfl ?_
          show Steps p.tables e below (T646.setTop (mkF m 199 _ [(.long (4294967295 : Int64)), (.long q3)])) _
          refine XS.land X646.here hx rfl (hb hby at_199) rfl ?_
          exact ht
        obtain ⟨j23, h_j23⟩ : ∃ z : Int64, z = (q3 &&& (4294967295 : Int64)) := ⟨_, rfl⟩
        rw [← h_j23]
        refine OFin.of (S' := T646.setTop (mkF m 208 #[.val (.int p0), .val (.long q1), .second, .val (.long q2), .second, .val (.long q3), .second, .val (.long q4), .second, .val (.int i9), .val (.int i10), .val (.int i11), .val (.int i12), .val (.int (1 : Int32)), .val (.ref b537), .val (.ref b580), .val (.int (0 : Int32)), .val (.long (4294967295 : Int64)), .second, .val (.long j19), .second, .val (.long j21), .second, .val (.long j23), .second, .unset, .unset, .unset, .unset, .unset, .unset, .unset, .unset, .unset, .unset] [(.int (((p0.toUInt32 >>> ((20 : Int32) &&& 31).toUInt32).toInt32) &&& (1 : Int32)))])) (fun t ht => ?_) ?_
        · refine XS.lstore X646.here hx rfl (hb hby at_200) rfl (l' := #[.val (.int p0), .val (.long q1), .second, .val (.long q2), .second, .val (.long q3), .second, .val (.long q4), .second, .val (.int i9), .val (.int i10), .val (.int i11), .val (.int i12), .val (.int (1 : Int32)), .val (.ref b537), .val (.ref b580), .val (.int (0 : Int32)), .val (.long (4294967295 : Int64)), .second, .val (.long j19), .second, .val (.long j21), .second, .val (.long j23), .second, .unset, .unset, .unset, .unset, .unset, .unset, .unset, .unset, .unset, .unset]) rfl ?_
          show Steps p.tables e below (T646.setTop (mkF m 202 #[.val (.int p0), .val (.long q1), .second, .val (.long q2), .second, .val (.long q3), .second, .val (.long q4), .second, .val (.int i9), .val (.int i10), .val (.int i11), .val (.int i12), .val (.int (1 : Int32)), .val (.ref b537), .val (.ref b580), .val (.int (0 : Int32)), .val (.long (4294967295 : Int64)), .second, .val (.long j19), .second, .val (.long j21), .second, .val (.long j23), .second, .unset, .unset, .unset, .unset, .unset, .unset, .unset, .unset, .unset, .unset] [])) _
          refine XS.iloadN X646.here hx rfl (hb hby at_202) rfl ?_
          show Steps p.tables e below (T646.setTop (mkF m 203 _ [(.int p0)])) _
          refine XS.bipush X646.here hx rfl (hb hby at_203) ?_
          show Steps p.tables e below (T646.setTop (mkF m 205 _ [(.int (20 : Int32)), (.int p0)])) _
          refine XS.iushr X646.here hx rfl (hb hby at_205) rfl ?_
          show Steps p.tables e below (T646.setTop (mkF m 206 _ [(.int ((p0.toUInt32 >>> ((20 : Int32) &&& 31).toUInt32).toInt32))])) _
          refine XS.iconst X646.here hx rfl (hb hby at_206) ?_
          show Steps p.tables e below (T646.setTop (mkF m 207 _ [(.int (1 : Int32)), (.int ((p0.toUInt32 >>> ((20 : Int32) &&& 31).toUInt32).toInt32))])) _
          refine XS.iand X646.here hx rfl (hb hby at_207) rfl ?_
          exact ht
        by_cases hc650 : (((p0.toUInt32 >>> ((20 : Int32) &&& 31).toUInt32).toInt32) &&& (1 : Int32)) = (0 : Int32)
        · refine OFin.of (S' := T646.setTop (mkF m 221 #[.val (.int p0), .val (.long q1), .second, .val (.long q2), .second, .val (.long q3), .second, .val (.long q4), .second, .val (.int i9), .val (.int i10), .val (.int i11), .val (.int i12), .val (.int (1 : Int32)), .val (.ref b537), .val (.ref b580), .val (.int (0 : Int32)), .val (.long (4294967295 : Int64)), .second, .val (.long j19), .second, .val (.long j21), .second, .val (.long j23), .second, .unset, .unset, .unset, .unset, .unset, .unset, .unset, .unset, .unset, .unset] [(.long (q4 &&& (4294967295 : Int64)))])) (fun t ht => ?_) ?_
          · refine XS.ifYes X646.here hx rfl (pc0 := 208) (pc' := 216) rfl (hb hby at_208) rfl ((if0 _ _).trans (teq (hc650 : (((p0.toUInt32 >>> ((20 : Int32) &&& 31).toUInt32).toInt32) &&& (1 : Int32)) = (0 : Int32))).1) (by decide) (by decide) ?_
            show Steps p.tables e below (T646.setTop (mkF m 216 _ [])) _
            refine XS.lload X646.here hx rfl (hb hby at_216) rfl ?_
            show Steps p.tables e below (T646.setTop (mkF m 218 _ [(.long q4)])) _
            refine XS.lload X646.here hx rfl (hb hby at_218) rfl ?_
            show Steps p.tables e below (T646.setTop (mkF m 220 _ [(.long (4294967295 : Int64)), (.long q4)])) _
            refine XS.land X646.here hx rfl (hb hby at_220) rfl ?_
            exact ht
          obtain ⟨j25, h_j25⟩ : ∃ z : Int64, z = (q4 &&& (4294967295 : Int64)) := ⟨_, rfl⟩
          rw [← h_j25]
          refine OFin.of (S' := T646.setTop (mkF m 223 #[.val (.int p0), .val (.long q1), .second, .val (.long q2), .second, .val (.long q3), .second, .val (.long q4), .second, .val (.int i9), .val (.int i10), .val (.int i11), .val (.int i12), .val (.int (1 : Int32)), .val (.ref b537), .val (.ref b580), .val (.int (0 : Int32)), .val (.long (4294967295 : Int64)), .second, .val (.long j19), .second, .val (.long j21), .second, .val (.long j23), .second, .val (.long j25), .second, .unset, .unset, .unset, .unset, .unset, .unset, .unset, .unset] [])) (fun t ht => ?_) ?_
          · refine XS.lstore X646.here hx rfl (hb hby at_221) rfl (l' := #[.val (.int p0), .val (.long q1), .second, .val (.long q2), .second, .val (.long q3), .second, .val (.long q4), .second, .val (.int i9), .val (.int i10), .val (.int i11), .val (.int i12), .val (.int (1 : Int32)), .val (.ref b537), .val (.ref b580), .val (.int (0 : Int32)), .val (.long (4294967295 : Int64)), .second, .val (.long j19), .second, .val (.long j21), .second, .val (.long j23), .second, .val (.long j25), .second, .unset, .unset, .unset, .unset, .unset, .unset, .unset, .unset]) rfl ?_
            exact ht
          exact seg1 Z _ hw hx hby hlk hret hml hown hZ n0 p0 q1 q2 q3 q4 i9 i10 i11 i12 (1 : Int32) b537 b580 (0 : Int32) (4294967295 : Int64) j19 j21 j23 j25 cs b568 b624 kb_568 kb_624 (((nar .char i9).toInt8.toInt32).toInt8.toInt32) (((nar .char i10).toInt8.toInt32).toInt8.toInt32) (((nar .char i11).toInt8.toInt32).toInt8.toInt32) (X646.more (by decide) (by decide)) hs646 Z643 N647 f635 f636 f638 f639 f640 f641 f625 f626 f627 ne582 hcs (Or.inr ⟨rfl, rfl⟩) rfl (fun _ _ q => ⟨rfl, q⟩)
        · refine OFin.of (S' := T646.setTop (mkF m 223 #[.val (.int p0), .val (.long q1), .second, .val (.long q2), .second, .val (.long q3), .second, .val (.long q4), .second, .val (.int i9), .val (.int i10), .val (.int i11), .val (.int i12), .val (.int (1 : Int32)), .val (.ref b537), .val (.ref b580), .val (.int (0 : Int32)), .val (.long (4294967295 : Int64)), .second, .val (.long j19), .second, .val (.long j21), .second, .val (.long j23), .second, .val (.long j21), .second, .unset, .unset, .unset, .unset, .unset, .unset, .unset, .unset] [])) (fun t ht => ?_) ?_
          · refine XS.ifNo X646.here hx rfl (hb hby at_208) rfl ((if0 _ _).trans (feq (hc650 : ¬ ((((p0.toUInt32 >>> ((20 : Int32) &&& 31).toUInt32).toInt32) &&& (1 : Int32)) = (0 : Int32)))).1) ?_
            show Steps p.tables e below (T646.setTop (mkF m 211 _ [])) _
            refine XS.lload X646.here hx rfl (hb hby at_211) rfl ?_
            show Steps p.tables e below (T646.setTop (mkF m 213 _ [(.long j21)])) _
            refine XS.goto X646.here hx rfl (pc0 := 213) (pc' := 221) rfl (hb hby at_213) (by decide) (by decide) ?_
            show Steps p.tables e below (T646.setTop (mkF m 221 _ [(.long j21)])) _
            refine XS.lstore X646.here hx rfl (hb hby at_221) rfl (l' := #[.val (.int p0), .val (.long q1), .second, .val (.long q2), .second, .val (.long q3), .second, .val (.long q4), .second, .val (.int i9), .val (.int i10), .val (.int i11), .val (.int i12), .val (.int (1 : Int32)), .val (.ref b537), .val (.ref b580), .val (.int (0 : Int32)), .val (.long (4294967295 : Int64)), .second, .val (.long j19), .second, .val (.long j21), .second, .val (.long j23), .second, .val (.long j21), .second, .unset, .unset, .unset, .unset, .unset, .unset, .unset, .unset]) rfl ?_
            exact ht
          exact seg1 Z _ hw hx hby hlk hret hml hown hZ n0 p0 q1 q2 q3 q4 i9 i10 i11 i12 (1 : Int32) b537 b580 (0 : Int32) (4294967295 : Int64) j19 j21 j23 j21 cs b568 b624 kb_568 kb_624 (((nar .char i9).toInt8.toInt32).toInt8.toInt32) (((nar .char i10).toInt8.toInt32).toInt8.toInt32) (((nar .char i11).toInt8.toInt32).toInt8.toInt32) (X646.more (by decide) (by decide)) hs646 Z643 N647 f635 f636 f638 f639 f640 f641 f625 f626 f627 ne582 hcs (Or.inr ⟨rfl, rfl⟩) rfl (fun _ _ q => ⟨rfl, q⟩)
      · refine OFin.of (S' := T646.setTop (mkF m 208 #[.val (.int p0), .val (.long q1), .second, .val (.long q2), .second, .val (.long q3), .second, .val (.long q4), .second, .val (.int i9), .val (.int i10), .val (.int i11), .val (.int i12), .val (.int (1 : Int32)), .val (.ref b537), .val (.ref b580), .val (.int (0 : Int32)), .val (.long (4294967295 : Int64)), .second, .val (.long j19), .second, .val (.long j21), .second, .val (.long j19), .second, .unset, .unset, .unset, .unset, .unset, .unset, .unset, .unset, .unset, .unset] [(.int (((p0.toUInt32 >>> ((20 : Int32) &&& 31).toUInt32).toInt32) &&& (1 : Int32)))])) (fun t ht => ?_) ?_
        · refine XS.ifNo X646.here hx rfl (hb hby at_187) rfl ((if0 _ _).trans (feq (hc649 : ¬ ((((p0.toUInt32 >>> ((19 : Int32) &&& 31).toUInt32).toInt32) &&& (1 : Int32)) = (0 : Int32)))).1) ?_
          show Steps p.tables e below (T646.setTop (mkF m 190 _ [])) _
          refine XS.lload X646.here hx rfl (hb hby at_190) rfl ?_
          show Steps p.tables e below (T646.setTop (mkF m 192 _ [(.long j19)])) _
          refine XS.goto X646.here hx rfl (pc0 := 192) (pc' := 200) rfl (hb hby at_192) (by decide) (by decide) ?_
          show Steps p.tables e below (T646.setTop (mkF m 200 _ [(.long j19)])) _
          refine XS.lstore X646.here hx rfl (hb hby at_200) rfl (l' := #[.val (.int p0), .val (.long q1), .second, .val (.long q2), .second, .val (.long q3), .second, .val (.long q4), .second, .val (.int i9), .val (.int i10), .val (.int i11), .val (.int i12), .val (.int (1 : Int32)), .val (.ref b537), .val (.ref b580), .val (.int (0 : Int32)), .val (.long (4294967295 : Int64)), .second, .val (.long j19), .second, .val (.long j21), .second, .val (.long j19), .second, .unset, .unset, .unset, .unset, .unset, .unset, .unset, .unset, .unset, .unset]) rfl ?_
          show Steps p.tables e below (T646.setTop (mkF m 202 #[.val (.int p0), .val (.long q1), .second, .val (.long q2), .second, .val (.long q3), .second, .val (.long q4), .second, .val (.int i9), .val (.int i10), .val (.int i11), .val (.int i12), .val (.int (1 : Int32)), .val (.ref b537), .val (.ref b580), .val (.int (0 : Int32)), .val (.long (4294967295 : Int64)), .second, .val (.long j19), .second, .val (.long j21), .second, .val (.long j19), .second, .unset, .unset, .unset, .unset, .unset, .unset, .unset, .unset, .unset, .unset] [])) _
          refine XS.iloadN X646.here hx rfl (hb hby at_202) rfl ?_
          show Steps p.tables e below (T646.setTop (mkF m 203 _ [(.int p0)])) _
          refine XS.bipush X646.here hx rfl (hb hby at_203) ?_
          show Steps p.tables e below (T646.setTop (mkF m 205 _ [(.int (20 : Int32)), (.int p0)])) _
          refine XS.iushr X646.here hx rfl (hb hby at_205) rfl ?_
          show Steps p.tables e below (T646.setTop (mkF m 206 _ [(.int ((p0.toUInt32 >>> ((20 : Int32) &&& 31).toUInt32).toInt32))])) _
          refine XS.iconst X646.here hx rfl (hb hby at_206) ?_
          show Steps p.tables e below (T646.setTop (mkF m 207 _ [(.int (1 : Int32)), (.int ((p0.toUInt32 >>> ((20 : Int32) &&& 31).toUInt32).toInt32))])) _
          refine XS.iand X646.here hx rfl (hb hby at_207) rfl ?_
          exact ht
        by_cases hc651 : (((p0.toUInt32 >>> ((20 : Int32) &&& 31).toUInt32).toInt32) &&& (1 : Int32)) = (0 : Int32)
        · refine OFin.of (S' := T646.setTop (mkF m 221 #[.val (.int p0), .val (.long q1), .second, .val (.long q2), .second, .val (.long q3), .second, .val (.long q4), .second, .val (.int i9), .val (.int i10), .val (.int i11), .val (.int i12), .val (.int (1 : Int32)), .val (.ref b537), .val (.ref b580), .val (.int (0 : Int32)), .val (.long (4294967295 : Int64)), .second, .val (.long j19), .second, .val (.long j21), .second, .val (.long j19), .second, .unset, .unset, .unset, .unset, .unset, .unset, .unset, .unset, .unset, .unset] [(.long (q4 &&& (4294967295 : Int64)))])) (fun t ht => ?_) ?_
          · refine XS.ifYes X646.here hx rfl (pc0 := 208) (pc' := 216) rfl (hb hby at_208) rfl ((if0 _ _).trans (teq (hc651 : (((p0.toUInt32 >>> ((20 : Int32) &&& 31).toUInt32).toInt32) &&& (1 : Int32)) = (0 : Int32))).1) (by decide) (by decide) ?_
            show Steps p.tables e below (T646.setTop (mkF m 216 _ [])) _
            refine XS.lload X646.here hx rfl (hb hby at_216) rfl ?_
            show Steps p.tables e below (T646.setTop (mkF m 218 _ [(.long q4)])) _
            refine XS.lload X646.here hx rfl (hb hby at_218) rfl ?_
            show Steps p.tables e below (T646.setTop (mkF m 220 _ [(.long (4294967295 : Int64)), (.long q4)])) _
            refine XS.land X646.here hx rfl (hb hby at_220) rfl ?_
            exact ht
          obtain ⟨j25, h_j25⟩ : ∃ z : Int64, z = (q4 &&& (4294967295 : Int64)) := ⟨_, rfl⟩
          rw [← h_j25]
          refine OFin.of (S' := T646.setTop (mkF m 223 #[.val (.int p0), .val (.long q1), .second, .val (.long q2), .second, .val (.long q3), .second, .val (.long q4), .second, .val (.int i9), .val (.int i10), .val (.int i11), .val (.int i12), .val (.int (1 : Int32)), .val (.ref b537), .val (.ref b580), .val (.int (0 : Int32)), .val (.long (4294967295 : Int64)), .second, .val (.long j19), .second, .val (.long j21), .second, .val (.long j19), .second, .val (.long j25), .second, .unset, .unset, .unset, .unset, .unset, .unset, .unset, .unset] [])) (fun t ht => ?_) ?_
          · refine XS.lstore X646.here hx rfl (hb hby at_221) rfl (l' := #[.val (.int p0), .val (.long q1), .second, .val (.long q2), .second, .val (.long q3), .second, .val (.long q4), .second, .val (.int i9), .val (.int i10), .val (.int i11), .val (.int i12), .val (.int (1 : Int32)), .val (.ref b537), .val (.ref b580), .val (.int (0 : Int32)), .val (.long (4294967295 : Int64)), .second, .val (.long j19), .second, .val (.long j21), .second, .val (.long j19), .second, .val (.long j25), .second, .unset, .unset, .unset, .unset, .unset, .unset, .unset, .unset]) rfl ?_
            exact ht
          exact seg1 Z _ hw hx hby hlk hret hml hown hZ n0 p0 q1 q2 q3 q4 i9 i10 i11 i12 (1 : Int32) b537 b580 (0 : Int32) (4294967295 : Int64) j19 j21 j19 j25 cs b568 b624 kb_568 kb_624 (((nar .char i9).toInt8.toInt32).toInt8.toInt32) (((nar .char i10).toInt8.toInt32).toInt8.toInt32) (((nar .char i11).toInt8.toInt32).toInt8.toInt32) (X646.more (by decide) (by decide)) hs646 Z643 N647 f635 f636 f638 f639 f640 f641 f625 f626 f627 ne582 hcs (Or.inr ⟨rfl, rfl⟩) rfl (fun _ _ q => ⟨rfl, q⟩)
        · refine OFin.of (S' := T646.setTop (mkF m 223 #[.val (.int p0), .val (.long q1), .second, .val (.long q2), .second, .val (.long q3), .second, .val (.long q4), .second, .val (.int i9), .val (.int i10), .val (.int i11), .val (.int i12), .val (.int (1 : Int32)), .val (.ref b537), .val (.ref b580), .val (.int (0 : Int32)), .val (.long (4294967295 : Int64)), .second, .val (.long j19), .second, .val (.long j21), .second, .val (.long j19), .second, .val (.long j21), .second, .unset, .unset, .unset, .unset, .unset, .unset, .unset, .unset] [])) (fun t ht => ?_) ?_
          · refine XS.ifNo X646.here hx rfl (hb hby at_208) rfl ((if0 _ _).trans (feq (hc651 : ¬ ((((p0.toUInt32 >>> ((20 : Int32) &&& 31).toUInt32).toInt32) &&& (1 : Int32)) = (0 : Int32)))).1) ?_
            show Steps p.tables e below (T646.setTop (mkF m 211 _ [])) _
            refine XS.lload X646.here hx rfl (hb hby at_211) rfl ?_
            show Steps p.tables e below (T646.setTop (mkF m 213 _ [(.long j21)])) _
            refine XS.goto X646.here hx rfl (pc0 := 213) (pc' := 221) rfl (hb hby at_213) (by decide) (by decide) ?_
            show Steps p.tables e below (T646.setTop (mkF m 221 _ [(.long j21)])) _
            refine XS.lstore X646.here hx rfl (hb hby at_221) rfl (l' := #[.val (.int p0), .val (.long q1), .second, .val (.long q2), .second, .val (.long q3), .second, .val (.long q4), .second, .val (.int i9), .val (.int i10), .val (.int i11), .val (.int i12), .val (.int (1 : Int32)), .val (.ref b537), .val (.ref b580), .val (.int (0 : Int32)), .val (.long (4294967295 : Int64)), .second, .val (.long j19), .second, .val (.long j21), .second, .val (.long j19), .second, .val (.long j21), .second, .unset, .unset, .unset, .unset, .unset, .unset, .unset, .unset]) rfl ?_
            exact ht
          exact seg1 Z _ hw hx hby hlk hret hml hown hZ n0 p0 q1 q2 q3 q4 i9 i10 i11 i12 (1 : Int32) b537 b580 (0 : Int32) (4294967295 : Int64) j19 j21 j19 j21 cs b568 b624 kb_568 kb_624 (((nar .char i9).toInt8.toInt32).toInt8.toInt32) (((nar .char i10).toInt8.toInt32).toInt8.toInt32) (((nar .char i11).toInt8.toInt32).toInt8.toInt32) (X646.more (by decide) (by decide)) hs646 Z643 N647 f635 f636 f638 f639 f640 f641 f625 f626 f627 ne582 hcs (Or.inr ⟨rfl, rfl⟩) rfl (fun _ _ q => ⟨rfl, q⟩)
set_option maxRecDepth 65536 in
set_option maxHeartbeats 40000000 in
theorem comes_1 {Post : Tables → Env → Array Value → State → Outcome → State → Prop} (hpost : ∀ tb e args s v u, (limb_1_1.after args s (.returned v) u = true ∧ limb_1_2.after args s (.returned v) u = true ∧ True) → FrameEnd s (.returned v) u (Jvm.fieldLocs frame_1_writes args s ++ Jvm.arrayLocs frame_1_arrays args s ++ Jvm.staticLocs frame_1_statics s) 24 128 → Post tb e args s (.returned v) u) :
    ArmFor flags0 classFile x code maxLocals ret World_1 tables_1 room_1 Calls_1 rest_1 Pre_1 Post := by
  intro l hfl _ _ p e ha hc hk s m args below hf hA hF happ hP
  obtain ⟨hcalls, hrest, hpre⟩ := hP
  obtain ⟨-, -, -, hnamed, -, -, -, hat⟩ := (Spec.applies_iff hf).mp happ
  obtain ⟨hg, hn⟩ := and_e (Cond.before_iff.mp (show (Jvm.Cond.and given_1 narrow_1).before args s = true from hpre))
  obtain ⟨gg0, hg0⟩ := and_e hg
  obtain ⟨gg1, hg1⟩ := and_e hg0
  obtain ⟨gg2, hg2⟩ := and_e hg1
  obtain ⟨gg3, hg3⟩ := and_e hg2
  obtain ⟨gg4, hg4⟩ := and_e hg3
  obtain ⟨w0, w1, w2, w3, w4, rfl⟩ : ∃ w0 w1 w2 w3 w4 : Value, args = #[w0, w1, w2, w3, w4] := by
    have hs : args.size = 5 := by simpa [Cond.value, given_1] using gg0
    obtain ⟨L⟩ := args
    match L, hs with
    | [w0, w1, w2, w3, w4], _ => exact ⟨w0, w1, w2, w3, w4, rfl⟩
  have hw := fun d (hd : d ∈ tables_1) => atoms_spec (ws := Jvm.Cond.code x code maxLocals ret :: tables_1) hat d (List.mem_cons_of_mem _ hd)
  have hfit : Fit s := fun {y c} hc i hi => by
    obtain ⟨ha, rfl⟩ := Array.getElem?_eq_some_iff.mp hc
    have q := List.all_eq_true.mp ((Array.all_eq_true_iff_forall_mem.mp hF) _ (Array.getElem_mem ha)) i (List.mem_range.mpr hi)
    simpa [Array.getElem?_eq_getElem hi] using q
  obtain ⟨i0, ei0⟩ := is_v gg1
  obtain rfl : w0 = (.int i0) := Option.some.inj ei0
  obtain ⟨i1, ei1⟩ := isL_v gg2
  obtain rfl : w1 = (.long i1) := Option.some.inj ei1
  obtain ⟨i2, ei2⟩ := isL_v gg3
  obtain rfl : w2 = (.long i2) := Option.some.inj ei2
  obtain ⟨i3, ei3⟩ := isL_v gg4
  obtain rfl : w3 = (.long i3) := Option.some.inj ei3
  obtain ⟨i4, ei4⟩ := isL_v hg4
  obtain rfl : w4 = (.long i4) := Option.some.inj ei4
  obtain ⟨hsets, hown0⟩ := atoms_of _ (rest_1_c_eq ▸ (show rest_1_c.before _ s = true from hrest))
  have nz := not_v (Cond.before_iff.mp (hsets _ (List.mem_of_getElem? (i := 2) rfl)))
  obtain ⟨cs, ecs⟩ := is_v (Cond.before_iff.mp (hsets _ (List.mem_of_getElem? (i := 1) rfl)))
  have Scs : Sta s s.heap "java/lang/String" "COMPACT_STRINGS" "Z" (.int cs) := Sta.start ecs (Or.inl (hsets _ (List.mem_of_getElem? (i := 0) rfl)))
  have hcs : ¬ (cs = (0 : Int32)) := gotF (Cond.eq_ints ecs (Term.int_eval (0))) nz
  obtain ⟨n, o, h1, h2, h3, _, L, rfl, ⟨rfl, N⟩, hq⟩ := rm0 l s _ hw tables_1 i0 i1 i2 i3 i4 cs s.heap s.heap.size (Nat.le_refl _) Scs hcs p e ha hc hk s m _ below hf ((Spec.applies_iff_loose hf).mp happ).1 ⟨rfl, State.Warmed39.refl s, rfl⟩ trivial
  refine ⟨n, _, h1, h2, h3, hpost _ _ _ _ _ _ ⟨Cond.after_iff.mpr rfl, Cond.after_iff.mpr (eq_i res_at (Term.int_eval (1)) rfl), trivial⟩ ⟨hq.1, hq.2.1, (hq.2.2.sift fun y hy => Or.inr (N y hy)).mono (by decide) (by decide)⟩⟩
theorem main_1_1 : Claimed_1_1 := comes_1 fun _ _ _ _ _ _ h hF => ⟨h.1, hF⟩
theorem main_1_2 : Claimed_1_2 := comes_1 fun _ _ _ _ _ _ h hF => ⟨h.2.1, hF⟩
end Jvm.Pilot.@@N@@
namespace Jvm.Pilot.@@N@@
open Jvm Jvm.ClassFile Sem Op Lib Jvm.Free Jvm.Stand Jvm.Pilot.@@N@@.Jvm.D
/-! MADE BY PROGRAM (witnessworld.py) out of the Statement's table words and the real class files: 21 classes; the members and pool entries that the words name. The judged class is class 1, her method 1. -/
namespace start1
open Jvm.ClassFile
def u (s : String) : CpInfo := .utf8 (stringToUtf16 s)
/-- a pool by its gaps: so many unusable entries, then the entry; so many at the end -/
def gap : Nat → List CpInfo → List CpInfo
  | 0, r => r
  | n + 1, r => .unusable :: gap n r
def poolList (es : List (Nat × CpInfo)) (last : Nat) : List CpInfo := es.foldr (fun e r => gap e.1 (e.2 :: r)) (gap last [])
def pool (es : List (Nat × CpInfo)) (last : Nat) : Array CpInfo := ⟨poolList es last⟩
def fileOf (pool : Array CpInfo) (this : Nat) (attrs : Array Attribute := #[]) (ms : Array MethodInfo := #[]) (fl : Nat := 33) (sup : Nat := 0) (ifs : Array Nat := #[]) (fds : Array FieldInfo := #[]) : ClassFile where
  minorVersion := 0
  majorVersion := 65
  constantPool := pool
  accessFlags := fl
  thisClass := this
  superClass := sup
  interfaces := ifs
  fields := fds
  methods := ms
  attributes := attrs
def plain (name : String) (sup : Option ClassId) : Class where
  name := name
  kind := .ordinary
  loader := none
  accessFlags := 33
  super := sup
  interfaces := #[]
  cf := none
  fields := #[]
  methods := #[]
  instanceTypes := #[]
  staticTypes := #[]
  resolved := #[]
  callSites := []
  init := .initialized
  statics := none
  mirror := none

def pool0 : Array CpInfo := pool [(5, u "<init>"), (0, u "()V"), (1, .class_ 10), (1, u "java/lang/Object")] 113

def k0c0 : Code := { maxStack := 0, maxLocals := 1, code := object_method_1_code, exceptionTable := #[], attributes := #[] }
def k0m0 : Method := { name := "<init>", desc := "()V", sig := { parameters := [], returnType := none }, accessFlags := 1, code := some k0c0 }
/-- java/lang/Object -/
def k0 : Class := { plain "java/lang/Object" none with
  accessFlags := 33
  interfaces := #[]
  cf := some (fileOf pool0 8 #[] #[{ accessFlags := 1, nameIndex := 5, descriptorIndex := 6, attributes := #[] }] 33 0 #[] #[])
  fields := #[]
  methods := #[k0m0]
  instanceTypes := #[]
  staticTypes := #[]
  resolved := Array.replicate 124 none
  statics := none }

def pool1 : Array CpInfo := pool [(2, .class_ 4), (1, u "java/lang/Object"), (0, u "<init>"), (0, u "()V"), (0, .class_ 8), (0, u "java/lang/String"), (0, .methodref 7 10), (0, .nameAndType 5 11), (0, u "([C)V"), (0, .integer 458752), (0, .long 4294967295), (1, .methodref 16 17), (0, .class_ 18), (0, .nameAndType 19 20), (0, u "java/lang/Math"), (0, u "min"), (0, u "(JJ)J"), (0, .methodref 16 22), (0, .nameAndType 23 20), (0, u "max"), (0, .class_ 25), (0, u "com/example/greylag/greylag/model/Bundle"), (0, .methodref 24 27), (0, .nameAndType 5 28), (0, u "(Ljava/lang/String;JJ)V"), (0, .methodref 24 30), (0, .nameAndType 31 32), (0, u "contains"), (0, u "(Lcom/example/greylag/greylag/model/Bundle;)Z"), (0, .class_ 34), (0, u "com/example/greylag/greylag/model/BundleContainsPinLaw"), (2, u "law"), (0, u "(IJJJJ)Z")] 3

def k1m0 : Method := { name := "<init>", desc := "()V", sig := { parameters := [], returnType := none }, accessFlags := 1, code := none }
def k1c1 : Code := { maxStack := 7, maxLocals := 35, code := code, exceptionTable := #[], attributes := #[] }
def k1m1 : Method := { name := "law", desc := "(IJJJJ)Z", sig := { parameters := [.int, .long, .long, .long, .long], returnType := some .boolean }, accessFlags := 9, code := some k1c1 }
/-- com/example/greylag/greylag/model/BundleContainsPinLaw -/
def k1 : Class := { plain "com/example/greylag/greylag/model/BundleContainsPinLaw" (some 0) with
  accessFlags := 49
  interfaces := #[]
  cf := some (fileOf pool1 33 #[] #[{ accessFlags := 1, nameIndex := 5, descriptorIndex := 6, attributes := #[] }, { accessFlags := 9, nameIndex := 37, descriptorIndex := 38, attributes := #[] }] 49 2 #[] #[])
  fields := #[]
  methods := #[k1m0, k1m1]
  instanceTypes := #[]
  staticTypes := #[]
  resolved := Array.replicate 42 none
  statics := none }

def pool2 : Array CpInfo := pool [(1, .class_ 2), (0, u "java/io/Serializable"), (0, .class_ 4), (0, u "java/lang/Object")] 2

/-- java/io/Serializable -/
def k2 : Class := { plain "java/io/Serializable" (some 0) with
  accessFlags := 1537
  interfaces := #[]
  cf := some (fileOf pool2 1 #[] #[] 1537 3 #[] #[])
  fields := #[]
  methods := #[]
  instanceTypes := #[]
  staticTypes := #[]
  resolved := Array.replicate 7 none
  statics := none }

def pool3 : Array CpInfo := pool [(1, .class_ 2), (0, u "java/lang/Comparable"), (0, .class_ 4), (0, u "java/lang/Object")] 7

/-- java/lang/Comparable -/
def k3 : Class := { plain "java/lang/Comparable" (some 0) with
  accessFlags := 1537
  interfaces := #[]
  cf := some (fileOf pool3 1 #[] #[] 1537 3 #[] #[])
  fields := #[]
  methods := #[]
  instanceTypes := #[]
  staticTypes := #[]
  resolved := Array.replicate 12 none
  statics := none }

def pool4 : Array CpInfo := pool [(2, .class_ 4), (1, u "java/lang/CharSequence"), (42, .class_ 48), (0, u "java/lang/CharSequence$1CodePointIterator"), (10, .class_ 60), (0, u "java/lang/CharSequence$1CharIterator"), (5, .class_ 67), (0, u "java/lang/Object")] 63

/-- java/lang/CharSequence -/
def k4 : Class := { plain "java/lang/CharSequence" (some 0) with
  accessFlags := 1537
  interfaces := #[]
  cf := some (fileOf pool4 2 #[.nestMembers #[47, 59]] #[] 1537 66 #[] #[])
  fields := #[]
  methods := #[]
  instanceTypes := #[]
  staticTypes := #[]
  resolved := Array.replicate 131 none
  statics := none }

def pool5 : Array CpInfo := pool [(1, .class_ 2), (0, u "java/lang/constant/Constable"), (0, .class_ 4), (0, u "java/lang/Object")] 6

/-- java/lang/constant/Constable -/
def k5 : Class := { plain "java/lang/constant/Constable" (some 0) with
  accessFlags := 1537
  interfaces := #[]
  cf := some (fileOf pool5 1 #[] #[] 1537 3 #[] #[])
  fields := #[]
  methods := #[]
  instanceTypes := #[]
  staticTypes := #[]
  resolved := Array.replicate 11 none
  statics := none }

def pool6 : Array CpInfo := pool [(1, .class_ 2), (0, u "java/lang/constant/ConstantDesc"), (0, .class_ 4), (0, u "java/lang/Object")] 32

/-- java/lang/constant/ConstantDesc -/
def k6 : Class := { plain "java/lang/constant/ConstantDesc" (some 0) with
  accessFlags := 1537
  interfaces := #[]
  cf := some (fileOf pool6 1 #[] #[] 1537 3 #[] #[])
  fields := #[]
  methods := #[]
  instanceTypes := #[]
  staticTypes := #[]
  resolved := Array.replicate 37 none
  statics := none }

def pool7 : Array CpInfo := pool [(1, .methodref 2 3), (0, .class_ 4), (0, .nameAndType 5 6), (0, u "java/lang/Object"), (0, u "<init>"), (0, u "()V"), (2, .fieldref 10 11), (0, .class_ 12), (0, .nameAndType 13 14), (0, u "java/lang/String"), (0, u "value"), (0, u "[B"), (0, .fieldref 10 16), (0, .nameAndType 17 18), (0, u "coder"), (0, u "B"), (2, u "hash"), (0, u "I"), (2, u "hashIsZero"), (0, u "Z"), (0, .methodref 10 28), (0, .nameAndType 5 29), (0, u "([CIILjava/lang/Void;)V"), (8, .fieldref 10 39), (0, .nameAndType 40 26), (0, u "COMPACT_STRINGS"), (1, .class_ 44), (1, u "java/lang/StringUTF16"), (0, u "compress"), (1, .methodref 42 48), (0, .nameAndType 49 50), (0, u "coderFromArrayLen"), (0, u "([BI)B"), (56, .class_ 109), (1, u "java/lang/StringLatin1"), (67, .methodref 42 178), (0, .nameAndType 45 179), (0, u "([CII)[B"), (361, .methodref 107 542), (0, .nameAndType 543 544), (0, u "equals"), (0, u "([B[B)Z"), (28, u "(Ljava/lang/Object;)Z"), (1, .class_ 576), (0, u "java/lang/CharSequence"), (22, u "CASE_INSENSITIVE_ORDER"), (0, u "Ljava/util/Comparator;"), (409, u "([C)V"), (90, u "serialPersistentFields"), (0, u "[Ljava/io/ObjectStreamField;"), (0, .class_ 1104), (0, u "java/lang/String$CaseInsensitiveComparator"), (1, .class_ 1107), (0, u "java/io/Serializable"), (0, .class_ 1109), (0, u "java/lang/Comparable"), (0, .class_ 1111), (0, u "java/lang/constant/Constable"), (0, .class_ 1113), (0, u "java/lang/constant/ConstantDesc"), (2, u "serialVersionUID"), (0, u "J"), (3, u "REPL"), (0, u "C"), (2, u "LATIN1"), (1, u "UTF16")] 323

def k7m0 : Method := { name := "<init>", desc := "()V", sig := { parameters := [], returnType := none }, accessFlags := 1, code := none }
def k7c1 : Code := { maxStack := 5, maxLocals := 2, code := jdk_42_method_3_code, exceptionTable := #[], attributes := #[] }
def k7m1 : Method := { name := "<init>", desc := "([C)V", sig := { parameters := [(.array .char)], returnType := none }, accessFlags := 1, code := some k7c1 }
def k7c2 : Code := { maxStack := 2, maxLocals := 3, code := jdk_42_method_66_code, exceptionTable := #[], attributes := #[] }
def k7m2 : Method := { name := "equals", desc := "(Ljava/lang/Object;)Z", sig := { parameters := [(.object "java/lang/Object")], returnType := some .boolean }, accessFlags := 1, code := some k7c2 }
def k7c3 : Code := { maxStack := 4, maxLocals := 6, code := jdk_42_method_149_code, exceptionTable := #[], attributes := #[] }
def k7m3 : Method := { name := "<init>", desc := "([CIILjava/lang/Void;)V", sig := { parameters := [(.array .char), .int, .int, (.object "java/lang/Void")], returnType := none }, accessFlags := 2, code := some k7c3 }
/-- java/lang/String -/
def k7 : Class := { plain "java/lang/String" (some 0) with
  accessFlags := 49
  interfaces := #[2, 3, 4, 5, 6]
  cf := some (fileOf pool7 10 #[.nestMembers #[1103]] #[{ accessFlags := 1, nameIndex := 5, descriptorIndex := 6, attributes := #[] }, { accessFlags := 1, nameIndex := 5, descriptorIndex := 1010, attributes := #[] }, { accessFlags := 1, nameIndex := 543, descriptorIndex := 573, attributes := #[] }, { accessFlags := 2, nameIndex := 5, descriptorIndex := 29, attributes := #[] }] 49 2 #[1106, 1108, 575, 1110, 1112] #[{ accessFlags := 18, nameIndex := 13, descriptorIndex := 14, attributes := #[] }, { accessFlags := 18, nameIndex := 17, descriptorIndex := 18, attributes := #[] }, { accessFlags := 2, nameIndex := 21, descriptorIndex := 22, attributes := #[] }, { accessFlags := 2, nameIndex := 25, descriptorIndex := 26, attributes := #[] }, { accessFlags := 26, nameIndex := 1116, descriptorIndex := 1117, attributes := #[] }, { accessFlags := 24, nameIndex := 40, descriptorIndex := 26, attributes := #[] }, { accessFlags := 26, nameIndex := 1101, descriptorIndex := 1102, attributes := #[] }, { accessFlags := 26, nameIndex := 1121, descriptorIndex := 1122, attributes := #[] }, { accessFlags := 25, nameIndex := 599, descriptorIndex := 600, attributes := #[] }, { accessFlags := 24, nameIndex := 1125, descriptorIndex := 18, attributes := #[] }, { accessFlags := 24, nameIndex := 1127, descriptorIndex := 18, attributes := #[] }])
  fields := #[{ name := "value", type := (.array .byte), accessFlags := 18, slot := 0, constantValue := 0 }, { name := "coder", type := .byte, accessFlags := 18, slot := 1, constantValue := 0 }, { name := "hash", type := .int, accessFlags := 2, slot := 2, constantValue := 0 }, { name := "hashIsZero", type := .boolean, accessFlags := 2, slot := 3, constantValue := 0 }, { name := "serialVersionUID", type := .long, accessFlags := 26, slot := 0, constantValue := 0 }, { name := "COMPACT_STRINGS", type := .boolean, accessFlags := 24, slot := 1, constantValue := 0 }, { name := "serialPersistentFields", type := (.array (.object "java/io/ObjectStreamField")), accessFlags := 26, slot := 2, constantValue := 0 }, { name := "REPL", type := .char, accessFlags := 26, slot := 3, constantValue := 0 }, { name := "CASE_INSENSITIVE_ORDER", type := (.object "java/util/Comparator"), accessFlags := 25, slot := 4, constantValue := 0 }, { name := "LATIN1", type := .byte, accessFlags := 24, slot := 5, constantValue := 0 }, { name := "UTF16", type := .byte, accessFlags := 24, slot := 6, constantValue := 0 }]
  methods := #[k7m0, k7m1, k7m2, k7m3]
  instanceTypes := #[(.array .byte), .byte, .int, .boolean]
  staticTypes := #[.long, .boolean, (.array (.object "java/io/ObjectStreamField")), .char, (.object "java/util/Comparator"), .byte, .byte]
  resolved := Array.replicate 1451 none
  statics := some 0 }

def pool8 : Array CpInfo := pool [(6, .class_ 8), (1, u "java/lang/Object"), (0, u "<init>"), (0, u "()V"), (1, .class_ 14), (1, u "java/lang/StringUTF16"), (31, u "$assertionsDisabled"), (0, u "Z"), (13, u "HI_BYTE_SHIFT"), (0, u "I"), (2, u "LO_BYTE_SHIFT"), (49, .methodref 12 116), (0, .nameAndType 117 118), (0, u "compress"), (0, u "([CI[BII)I"), (3, u "([CII)[B"), (138, u "coderFromArrayLen"), (0, u "([BI)B"), (106, .class_ 371), (1, u "java/lang/StringUTF16$LinesSpliterator"), (58, u "MAX_LENGTH"), (196, .class_ 628), (0, u "java/lang/StringUTF16$CodePointsSpliterator"), (0, .class_ 630), (0, u "java/lang/StringUTF16$CharsSpliterator")] 4

def k8m0 : Method := { name := "<init>", desc := "()V", sig := { parameters := [], returnType := none }, accessFlags := 0, code := none }
def k8c1 : Code := { maxStack := 2, maxLocals := 2, code := jdk_52_method_15_code, exceptionTable := #[], attributes := #[] }
def k8m1 : Method := { name := "coderFromArrayLen", desc := "([BI)B", sig := { parameters := [(.array .byte), .int], returnType := some .byte }, accessFlags := 8, code := some k8c1 }
def k8c2 : Code := { maxStack := 5, maxLocals := 6, code := jdk_52_method_16_code, exceptionTable := #[], attributes := #[] }
def k8m2 : Method := { name := "compress", desc := "([CII)[B", sig := { parameters := [(.array .char), .int, .int], returnType := some (.array .byte) }, accessFlags := 9, code := some k8c2 }
def k8c3 : Code := { maxStack := 3, maxLocals := 7, code := jdk_52_method_21_code, exceptionTable := #[], attributes := #[] }
def k8m3 : Method := { name := "compress", desc := "([CI[BII)I", sig := { parameters := [(.array .char), .int, (.array .byte), .int, .int], returnType := some .int }, accessFlags := 9, code := some k8c3 }
/-- java/lang/StringUTF16 -/
def k8 : Class := { plain "java/lang/StringUTF16" (some 0) with
  accessFlags := 48
  interfaces := #[]
  cf := some (fileOf pool8 12 #[.nestMembers #[627, 629, 369]] #[{ accessFlags := 0, nameIndex := 9, descriptorIndex := 10, attributes := #[] }, { accessFlags := 8, nameIndex := 261, descriptorIndex := 262, attributes := #[] }, { accessFlags := 9, nameIndex := 117, descriptorIndex := 122, attributes := #[] }, { accessFlags := 9, nameIndex := 117, descriptorIndex := 118, attributes := #[] }] 48 6 #[] #[{ accessFlags := 26, nameIndex := 61, descriptorIndex := 62, attributes := #[] }, { accessFlags := 26, nameIndex := 65, descriptorIndex := 62, attributes := #[] }, { accessFlags := 24, nameIndex := 430, descriptorIndex := 62, attributes := #[] }, { accessFlags := 4120, nameIndex := 46, descriptorIndex := 47, attributes := #[] }])
  fields := #[{ name := "HI_BYTE_SHIFT", type := .int, accessFlags := 26, slot := 0, constantValue := 0 }, { name := "LO_BYTE_SHIFT", type := .int, accessFlags := 26, slot := 1, constantValue := 0 }, { name := "MAX_LENGTH", type := .int, accessFlags := 24, slot := 2, constantValue := 0 }, { name := "$assertionsDisabled", type := .boolean, accessFlags := 4120, slot := 3, constantValue := 0 }]
  methods := #[k8m0, k8m1, k8m2, k8m3]
  instanceTypes := #[]
  staticTypes := #[.int, .int, .int, .boolean]
  resolved := Array.replicate 635 none
  statics := none }

def pool9 : Array CpInfo := pool [(1, .class_ 2), (0, u "java/lang/Math"), (1, .class_ 6), (1, u "java/lang/Object"), (0, u "<init>"), (0, u "()V"), (89, .class_ 100), (1, u "java/lang/Math$RandomNumberGeneratorHolder"), (20, u "(JJ)J"), (50, u "negativeZeroFloatBits"), (0, u "J"), (2, u "negativeZeroDoubleBits"), (21, u "max"), (2, u "min"), (43, u "$assertionsDisabled"), (0, u "Z"), (91, u "twoToTheDoubleScaleDown"), (0, u "D"), (4, u "twoToTheDoubleScaleUp"), (9, u "E"), (3, u "PI"), (2, u "TAU"), (2, u "DEGREES_TO_RADIANS"), (0, u "RADIANS_TO_DEGREES")] 94

def k9m0 : Method := { name := "<init>", desc := "()V", sig := { parameters := [], returnType := none }, accessFlags := 2, code := none }
def k9c1 : Code := { maxStack := 4, maxLocals := 4, code := jdk_29_method_66_code, exceptionTable := #[], attributes := #[] }
def k9m1 : Method := { name := "max", desc := "(JJ)J", sig := { parameters := [.long, .long], returnType := some .long }, accessFlags := 9, code := some k9c1 }
def k9c2 : Code := { maxStack := 4, maxLocals := 4, code := jdk_29_method_70_code, exceptionTable := #[], attributes := #[] }
def k9m2 : Method := { name := "min", desc := "(JJ)J", sig := { parameters := [.long, .long], returnType := some .long }, accessFlags := 9, code := some k9c2 }
/-- java/lang/Math -/
def k9 : Class := { plain "java/lang/Math" (some 0) with
  accessFlags := 49
  interfaces := #[]
  cf := some (fileOf pool9 1 #[.nestMembers #[98]] #[{ accessFlags := 2, nameIndex := 7, descriptorIndex := 8, attributes := #[] }, { accessFlags := 9, nameIndex := 198, descriptorIndex := 121, attributes := #[] }, { accessFlags := 9, nameIndex := 201, descriptorIndex := 121, attributes := #[] }] 49 4 #[] #[{ accessFlags := 25, nameIndex := 354, descriptorIndex := 339, attributes := #[] }, { accessFlags := 25, nameIndex := 358, descriptorIndex := 339, attributes := #[] }, { accessFlags := 25, nameIndex := 361, descriptorIndex := 339, attributes := #[] }, { accessFlags := 26, nameIndex := 364, descriptorIndex := 339, attributes := #[] }, { accessFlags := 26, nameIndex := 365, descriptorIndex := 339, attributes := #[] }, { accessFlags := 26, nameIndex := 172, descriptorIndex := 173, attributes := #[] }, { accessFlags := 26, nameIndex := 176, descriptorIndex := 173, attributes := #[] }, { accessFlags := 8, nameIndex := 344, descriptorIndex := 339, attributes := #[] }, { accessFlags := 8, nameIndex := 338, descriptorIndex := 339, attributes := #[] }, { accessFlags := 4120, nameIndex := 245, descriptorIndex := 246, attributes := #[] }])
  fields := #[{ name := "E", type := .double, accessFlags := 25, slot := 0, constantValue := 0 }, { name := "PI", type := .double, accessFlags := 25, slot := 1, constantValue := 0 }, { name := "TAU", type := .double, accessFlags := 25, slot := 2, constantValue := 0 }, { name := "DEGREES_TO_RADIANS", type := .double, accessFlags := 26, slot := 3, constantValue := 0 }, { name := "RADIANS_TO_DEGREES", type := .double, accessFlags := 26, slot := 4, constantValue := 0 }, { name := "negativeZeroFloatBits", type := .long, accessFlags := 26, slot := 5, constantValue := 0 }, { name := "negativeZeroDoubleBits", type := .long, accessFlags := 26, slot := 6, constantValue := 0 }, { name := "twoToTheDoubleScaleUp", type := .double, accessFlags := 8, slot := 7, constantValue := 0 }, { name := "twoToTheDoubleScaleDown", type := .double, accessFlags := 8, slot := 8, constantValue := 0 }, { name := "$assertionsDisabled", type := .boolean, accessFlags := 4120, slot := 9, constantValue := 0 }]
  methods := #[k9m0, k9m1, k9m2]
  instanceTypes := #[]
  staticTypes := #[.double, .double, .double, .double, .double, .long, .long, .double, .double, .boolean]
  resolved := Array.replicate 460 none
  statics := none }

def pool10 : Array CpInfo := pool [(1, .methodref 2 3), (0, .class_ 4), (0, .nameAndType 5 6), (0, u "java/lang/Object"), (0, u "<init>"), (0, u "()V"), (0, .fieldref 8 9), (0, .class_ 10), (0, .nameAndType 11 12), (0, u "com/example/greylag/greylag/model/Bundle"), (0, u "namespace"), (0, u "Ljava/lang/String;"), (0, .fieldref 8 14), (0, .nameAndType 15 16), (0, u "lower"), (0, u "J"), (0, .fieldref 8 18), (0, .nameAndType 19 16), (0, u "upper"), (2, u "NAME"), (0, u "Ljava/util/regex/Pattern;"), (34, u "(Ljava/lang/String;JJ)V"), (13, .class_ 74), (1, u "java/lang/String"), (18, .methodref 72 94), (0, .nameAndType 95 96), (0, u "equals"), (0, u "(Ljava/lang/Object;)Z"), (47, .class_ 145), (0, u "java/lang/Comparable"), (12, u "contains"), (0, u "(Lcom/example/greylag/greylag/model/Bundle;)Z")] 28

def k10c0 : Code := { maxStack := 3, maxLocals := 6, code := prog_27_method_1_code, exceptionTable := #[], attributes := #[] }
def k10m0 : Method := { name := "<init>", desc := "(Ljava/lang/String;JJ)V", sig := { parameters := [(.object "java/lang/String"), .long, .long], returnType := none }, accessFlags := 0, code := some k10c0 }
def k10c1 : Code := { maxStack := 4, maxLocals := 2, code := prog_27_method_9_code, exceptionTable := #[], attributes := #[] }
def k10m1 : Method := { name := "contains", desc := "(Lcom/example/greylag/greylag/model/Bundle;)Z", sig := { parameters := [(.object "com/example/greylag/greylag/model/Bundle")], returnType := some .boolean }, accessFlags := 1, code := some k10c1 }
/-- com/example/greylag/greylag/model/Bundle -/
def k10 : Class := { plain "com/example/greylag/greylag/model/Bundle" (some 0) with
  accessFlags := 49
  interfaces := #[3]
  cf := some (fileOf pool10 8 #[] #[{ accessFlags := 0, nameIndex := 5, descriptorIndex := 58, attributes := #[] }, { accessFlags := 1, nameIndex := 158, descriptorIndex := 159, attributes := #[] }] 49 2 #[144] #[{ accessFlags := 26, nameIndex := 22, descriptorIndex := 23, attributes := #[] }, { accessFlags := 18, nameIndex := 11, descriptorIndex := 12, attributes := #[] }, { accessFlags := 18, nameIndex := 15, descriptorIndex := 16, attributes := #[] }, { accessFlags := 18, nameIndex := 19, descriptorIndex := 16, attributes := #[] }])
  fields := #[{ name := "NAME", type := (.object "java/util/regex/Pattern"), accessFlags := 26, slot := 0, constantValue := 0 }, { name := "namespace", type := (.object "java/lang/String"), accessFlags := 18, slot := 0, constantValue := 0 }, { name := "lower", type := .long, accessFlags := 18, slot := 1, constantValue := 0 }, { name := "upper", type := .long, accessFlags := 18, slot := 2, constantValue := 0 }]
  methods := #[k10m0, k10m1]
  instanceTypes := #[(.object "java/lang/String"), .long, .long]
  staticTypes := #[(.object "java/util/regex/Pattern")]
  resolved := Array.replicate 188 none
  statics := none }

def pool11 : Array CpInfo := pool [(4, .class_ 6), (1, u "java/lang/Object"), (0, u "<init>"), (0, u "()V"), (5, .class_ 16), (1, u "java/lang/StringLatin1"), (104, u "$assertionsDisabled"), (0, u "Z"), (98, .class_ 223), (1, u "java/lang/StringLatin1$LinesSpliterator"), (57, u "equals"), (0, u "([B[B)Z"), (107, .class_ 391), (0, u "java/lang/StringLatin1$CharsSpliterator")] 3

def k11m0 : Method := { name := "<init>", desc := "()V", sig := { parameters := [], returnType := none }, accessFlags := 0, code := none }
def k11c1 : Code := { maxStack := 3, maxLocals := 3, code := jdk_43_method_13_code, exceptionTable := #[], attributes := #[] }
def k11m1 : Method := { name := "equals", desc := "([B[B)Z", sig := { parameters := [(.array .byte), (.array .byte)], returnType := some .boolean }, accessFlags := 9, code := some k11c1 }
/-- java/lang/StringLatin1 -/
def k11 : Class := { plain "java/lang/StringLatin1" (some 0) with
  accessFlags := 48
  interfaces := #[]
  cf := some (fileOf pool11 14 #[.nestMembers #[390, 221]] #[{ accessFlags := 0, nameIndex := 7, descriptorIndex := 8, attributes := #[] }, { accessFlags := 9, nameIndex := 281, descriptorIndex := 282, attributes := #[] }] 48 4 #[] #[{ accessFlags := 4120, nameIndex := 121, descriptorIndex := 122, attributes := #[] }])
  fields := #[{ name := "$assertionsDisabled", type := .boolean, accessFlags := 4120, slot := 0, constantValue := 0 }]
  methods := #[k11m0, k11m1]
  instanceTypes := #[]
  staticTypes := #[.boolean]
  resolved := Array.replicate 395 none
  statics := none }

def pool12 : Array CpInfo := pool [(2, .class_ 4), (1, u "java/lang/Object"), (0, u "<init>"), (0, u "()V"), (17, .class_ 26), (1, u "jdk/internal/util/Preconditions"), (28, .class_ 56), (0, u "jdk/internal/util/Preconditions$4"), (57, .class_ 115), (0, u "jdk/internal/util/Preconditions$1"), (7, u "SIOOBE_FORMATTER"), (0, u "Ljava/util/function/BiFunction;"), (0, .class_ 126), (0, u "jdk/internal/util/Preconditions$2"), (3, u "AIOOBE_FORMATTER"), (0, .class_ 132), (0, u "jdk/internal/util/Preconditions$3"), (3, u "IOOBE_FORMATTER")] 57

def k12m0 : Method := { name := "<init>", desc := "()V", sig := { parameters := [], returnType := none }, accessFlags := 1, code := none }
/-- jdk/internal/util/Preconditions -/
def k12 : Class := { plain "jdk/internal/util/Preconditions" (some 0) with
  accessFlags := 33
  interfaces := #[]
  cf := some (fileOf pool12 24 #[.nestMembers #[55, 131, 125, 114]] #[{ accessFlags := 1, nameIndex := 5, descriptorIndex := 6, attributes := #[] }] 33 2 #[] #[{ accessFlags := 25, nameIndex := 123, descriptorIndex := 124, attributes := #[] }, { accessFlags := 25, nameIndex := 130, descriptorIndex := 124, attributes := #[] }, { accessFlags := 25, nameIndex := 136, descriptorIndex := 124, attributes := #[] }])
  fields := #[{ name := "SIOOBE_FORMATTER", type := (.object "java/util/function/BiFunction"), accessFlags := 25, slot := 0, constantValue := 0 }, { name := "AIOOBE_FORMATTER", type := (.object "java/util/function/BiFunction"), accessFlags := 25, slot := 1, constantValue := 0 }, { name := "IOOBE_FORMATTER", type := (.object "java/util/function/BiFunction"), accessFlags := 25, slot := 2, constantValue := 0 }]
  methods := #[k12m0]
  instanceTypes := #[]
  staticTypes := #[(.object "java/util/function/BiFunction"), (.object "java/util/function/BiFunction"), (.object "java/util/function/BiFunction")]
  resolved := Array.replicate 194 none
  statics := some 1 }

def pool13 : Array CpInfo := pool [(9, u "<init>"), (6, .class_ 18), (1, u "java/lang/Object"), (0, u "()V"), (1, .class_ 23), (1, u "jdk/internal/util/ArraysSupport"), (0, u "LOG2_ARRAY_LONG_INDEX_SCALE"), (0, u "I"), (2, u "U"), (0, u "Ljdk/internal/misc/Unsafe;"), (8, u "BIG_ENDIAN"), (0, u "Z"), (8, u "LOG2_BYTE_BIT_SIZE"), (4, u "LOG2_ARRAY_INT_INDEX_SCALE"), (54, u "JLA"), (0, u "Ljdk/internal/access/JavaLangAccess;"), (11, u "LOG2_ARRAY_BOOLEAN_INDEX_SCALE"), (9, u "LOG2_ARRAY_BYTE_INDEX_SCALE"), (5, u "LOG2_ARRAY_CHAR_INDEX_SCALE"), (5, u "LOG2_ARRAY_SHORT_INDEX_SCALE"), (18, u "LOG2_ARRAY_FLOAT_INDEX_SCALE"), (24, u "LOG2_ARRAY_DOUBLE_INDEX_SCALE"), (89, u "T_BOOLEAN"), (2, u "T_CHAR"), (1, u "T_FLOAT"), (1, u "T_DOUBLE"), (1, u "T_BYTE"), (1, u "T_SHORT"), (1, u "T_INT"), (1, u "T_LONG"), (1, u "SOFT_MAX_ARRAY_LENGTH")] 83

def k13m0 : Method := { name := "<init>", desc := "()V", sig := { parameters := [], returnType := none }, accessFlags := 2, code := none }
/-- jdk/internal/util/ArraysSupport -/
def k13 : Class := { plain "jdk/internal/util/ArraysSupport" (some 0) with
  accessFlags := 33
  interfaces := #[]
  cf := some (fileOf pool13 21 #[] #[{ accessFlags := 2, nameIndex := 9, descriptorIndex := 19, attributes := #[] }] 33 16 #[] #[{ accessFlags := 24, nameIndex := 28, descriptorIndex := 29, attributes := #[] }, { accessFlags := 26, nameIndex := 38, descriptorIndex := 39, attributes := #[] }, { accessFlags := 25, nameIndex := 121, descriptorIndex := 25, attributes := #[] }, { accessFlags := 25, nameIndex := 131, descriptorIndex := 25, attributes := #[] }, { accessFlags := 25, nameIndex := 137, descriptorIndex := 25, attributes := #[] }, { accessFlags := 25, nameIndex := 143, descriptorIndex := 25, attributes := #[] }, { accessFlags := 25, nameIndex := 53, descriptorIndex := 25, attributes := #[] }, { accessFlags := 25, nameIndex := 24, descriptorIndex := 25, attributes := #[] }, { accessFlags := 25, nameIndex := 162, descriptorIndex := 25, attributes := #[] }, { accessFlags := 25, nameIndex := 187, descriptorIndex := 25, attributes := #[] }, { accessFlags := 26, nameIndex := 48, descriptorIndex := 25, attributes := #[] }, { accessFlags := 25, nameIndex := 277, descriptorIndex := 25, attributes := #[] }, { accessFlags := 25, nameIndex := 280, descriptorIndex := 25, attributes := #[] }, { accessFlags := 25, nameIndex := 282, descriptorIndex := 25, attributes := #[] }, { accessFlags := 25, nameIndex := 284, descriptorIndex := 25, attributes := #[] }, { accessFlags := 25, nameIndex := 286, descriptorIndex := 25, attributes := #[] }, { accessFlags := 25, nameIndex := 288, descriptorIndex := 25, attributes := #[] }, { accessFlags := 25, nameIndex := 290, descriptorIndex := 25, attributes := #[] }, { accessFlags := 25, nameIndex := 292, descriptorIndex := 25, attributes := #[] }, { accessFlags := 26, nameIndex := 108, descriptorIndex := 109, attributes := #[] }, { accessFlags := 25, nameIndex := 294, descriptorIndex := 25, attributes := #[] }])
  fields := #[{ name := "U", type := (.object "jdk/internal/misc/Unsafe"), accessFlags := 24, slot := 0, constantValue := 0 }, { name := "BIG_ENDIAN", type := .boolean, accessFlags := 26, slot := 1, constantValue := 0 }, { name := "LOG2_ARRAY_BOOLEAN_INDEX_SCALE", type := .int, accessFlags := 25, slot := 2, constantValue := 0 }, { name := "LOG2_ARRAY_BYTE_INDEX_SCALE", type := .int, accessFlags := 25, slot := 3, constantValue := 0 }, { name := "LOG2_ARRAY_CHAR_INDEX_SCALE", type := .int, accessFlags := 25, slot := 4, constantValue := 0 }, { name := "LOG2_ARRAY_SHORT_INDEX_SCALE", type := .int, accessFlags := 25, slot := 5, constantValue := 0 }, { name := "LOG2_ARRAY_INT_INDEX_SCALE", type := .int, accessFlags := 25, slot := 6, constantValue := 0 }, { name := "LOG2_ARRAY_LONG_INDEX_SCALE", type := .int, accessFlags := 25, slot := 7, constantValue := 0 }, { name := "LOG2_ARRAY_FLOAT_INDEX_SCALE", type := .int, accessFlags := 25, slot := 8, constantValue := 0 }, { name := "LOG2_ARRAY_DOUBLE_INDEX_SCALE", type := .int, accessFlags := 25, slot := 9, constantValue := 0 }, { name := "LOG2_BYTE_BIT_SIZE", type := .int, accessFlags := 26, slot := 10, constantValue := 0 }, { name := "T_BOOLEAN", type := .int, accessFlags := 25, slot := 11, constantValue := 0 }, { name := "T_CHAR", type := .int, accessFlags := 25, slot := 12, constantValue := 0 }, { name := "T_FLOAT", type := .int, accessFlags := 25, slot := 13, constantValue := 0 }, { name := "T_DOUBLE", type := .int, accessFlags := 25, slot := 14, constantValue := 0 }, { name := "T_BYTE", type := .int, accessFlags := 25, slot := 15, constantValue := 0 }, { name := "T_SHORT", type := .int, accessFlags := 25, slot := 16, constantValue := 0 }, { name := "T_INT", type := .int, accessFlags := 25, slot := 17, constantValue := 0 }, { name := "T_LONG", type := .int, accessFlags := 25, slot := 18, constantValue := 0 }, { name := "JLA", type := (.object "jdk/internal/access/JavaLangAccess"), accessFlags := 26, slot := 19, constantValue := 0 }, { name := "SOFT_MAX_ARRAY_LENGTH", type := .int, accessFlags := 25, slot := 20, constantValue := 0 }]
  methods := #[k13m0]
  instanceTypes := #[]
  staticTypes := #[(.object "jdk/internal/misc/Unsafe"), .boolean, .int, .int, .int, .int, .int, .int, .int, .int, .int, .int, .int, .int, .int, .int, .int, .int, .int, (.object "jdk/internal/access/JavaLangAccess"), .int]
  resolved := Array.replicate 378 none
  statics := none }

def pool14 : Array CpInfo := pool [(1, u "java/lang/Cloneable"), (0, .class_ 1), (0, u "java/lang/Object"), (0, .class_ 3)] 3

/-- java/lang/Cloneable -/
def k14 : Class := { plain "java/lang/Cloneable" (some 0) with
  accessFlags := 1537
  interfaces := #[]
  cf := some (fileOf pool14 2 #[] #[] 1537 4 #[] #[])
  fields := #[]
  methods := #[]
  instanceTypes := #[]
  staticTypes := #[]
  resolved := Array.replicate 8 none
  statics := none }

/-- the primitive byte -/
def k15 : Class := { plain "byte" none with kind := .primitive 'B', accessFlags := 0x411 }
/-- [B -/
def k16 : Class := { plain "[B" (some 0) with kind := .array 15 .byte, interfaces := #[14, 2], accessFlags := 1041 }

/-- the primitive char -/
def k17 : Class := { plain "char" none with kind := .primitive 'C', accessFlags := 0x411 }
/-- [C -/
def k18 : Class := { plain "[C" (some 0) with kind := .array 17 .char, interfaces := #[14, 2], accessFlags := 1041 }

/-- the primitive int -/
def k19 : Class := { plain "int" none with kind := .primitive 'I', accessFlags := 0x411 }
/-- [I -/
def k20 : Class := { plain "[I" (some 0) with kind := .array 19 .int, interfaces := #[14, 2], accessFlags := 1041 }

def heap : Heap := #[{ cls := 7, slots := #[.long 0, .int 1, .null, .int 0, .null, .int 0, .int 0], vm := .statics 7 },
  { cls := 12, slots := #[.null, .null, .null], vm := .statics 12 }]
def classes : Array Class := #[k0, k1, k2, k3, k4, k5, k6, k7, k8, k9, k10, k11, k12, k13, k14, k15, k16, k17, k18, k19, k20]
def interned : List (Array UInt16 × Addr) := []
def slotsUsed : Nat := 10
def theMethod : MethodId := ⟨1, 1⟩
def args0 : Array Value := #[.int 5, .long 5, .long 5, .long 5, .long 5]
def aboutOver (below : List Frame) : State where
  vm := { classes := classes, interned := interned.toArray }
  heap := heap
  slotsUsed := slotsUsed
  threads := #[{ frames := .invoking theMethod args0 :: below }]
def below0 : List Frame := [.native { method := ⟨0, 0⟩, args := #[] }]
def about1 : State := aboutOver below0
def p0 : Program := .bare "" "" ""
def e0 : Env := launch0.env 0 0 0
theorem w_frames : about1.frames = Frame.invoking theMethod args0 :: below0 := rfl
set_option maxRecDepth 65536 in
theorem w_args : argsFit about1.vm theMethod args0 = true := by decide +kernel
set_option maxRecDepth 65536 in
theorem w_heap : heapFits about1 = true := by decide +kernel
set_option maxRecDepth 65536 in
theorem w_runnable : about1.curStatus? = some .runnable := by decide +kernel
set_option maxRecDepth 65536 in
theorem w_alone : about1.alone = true := by decide +kernel
set_option maxRecDepth 65536 in
theorem w_named : about1.methodNamed? x = some theMethod := by decide +kernel
set_option maxRecDepth 65536 in
theorem w_hears : about1.hears theMethod below0 = true := by decide +kernel
set_option maxRecDepth 65536 in
theorem w_ripe : about1.ripe theMethod args0 below0 = true := by decide +kernel
theorem w_running : about1.status = .running := rfl
set_option maxRecDepth 65536 in
theorem w_room : about1.hasRoom e0.platform room_1 = true :=
  launch0.hasRoom_least _ room_1 (by decide +kernel) (by decide +kernel) (by decide +kernel) (by decide +kernel) (by decide +kernel) (by decide +kernel)
theorem allAtoms_all (ts : List Jvm.Cond) (a : Array Jvm.Value) (st : Jvm.State) : (allAtoms ts).before a st = ts.all (fun c => c.before a st) := by
  induction ts with
  | nil => rfl
  | cons c t ih =>
    show (Jvm.Cond.and c (allAtoms t)).before a st = _
    rw [Jvm.Cond.before_and, ih, List.all_cons]
def words1 : List Jvm.Cond := Jvm.Cond.code x code maxLocals ret :: tables_1
/-- a 'code' word, met by the world's own term for the bytes: nothing is compared byte by byte -/
theorem code_word {y : MethodName} {bytes : ByteArray} {mx : Nat} {rt : Option FieldType} {a : Array Value} {s : State} {m : MethodId} {meth : Method} {c : Code} (h1 : s.methodNamed? y = some m) (h2 : s.vm.method? m = some meth) (h3 : meth.code = some c) (h4 : c.code = bytes)
    (h5 : (c.maxLocals == mx && c.exceptionTable.isEmpty && decide (c.maxStack ≤ mostOperands) && decide (meth.sig.returnType = rt) && !meth.locks && decide (parseMethodDescriptor y.desc = some meth.sig)) = true) : (Jvm.Cond.code y bytes mx rt).before a s = true := by
  simp only [Bool.and_eq_true, beq_iff_eq, Bool.not_eq_true', decide_eq_true_eq] at h5
  obtain ⟨⟨⟨⟨⟨g1, g2⟩, g3⟩, g4⟩, g5⟩, g6⟩ := h5
  simp [Cond.before, Cond.holds, Cond.value, h1, h2, h3, h4, g1, g2, g3, g4, g5, g6]
def isCode : Jvm.Cond → Bool
  | .code _ _ _ _ => true
  | _ => false
theorem all_split {L : List Jvm.Cond} {P : Jvm.Cond → Bool} (h1 : L.all (fun c => isCode c || P c) = true) (h2 : ∀ c ∈ L.filter isCode, P c = true) : L.all P = true := by
  refine List.all_eq_true.mpr fun c hc => ?_
  have h := List.all_eq_true.mp h1 c hc
  rcases Bool.eq_false_or_eq_true (isCode c) with hi | hi
  · exact h2 c (List.mem_filter.mpr ⟨hc, hi⟩)
  · simpa [hi] using h
set_option maxRecDepth 65536 in
theorem w_c0 : (Jvm.Cond.code x code maxLocals ret).before args0 about1 = true := code_word (m := ⟨1, 1⟩) (meth := k1m1) (c := k1c1) (by decide +kernel) rfl rfl rfl (by decide +kernel)
set_option maxRecDepth 65536 in
theorem w_c1 : (Jvm.Cond.code ({ cls := "java/lang/String", name := "<init>", desc := "([C)V" } : Jvm.MethodName) jdk_42_method_3_code (2 : Nat) (Option.none : Option Jvm.ClassFile.FieldType)).before args0 about1 = true := code_word (m := ⟨7, 1⟩) (meth := k7m1) (c := k7c1) (by decide +kernel) rfl rfl rfl (by decide +kernel)
set_option maxRecDepth 65536 in
theorem w_c2 : (Jvm.Cond.code ({ cls := "java/lang/String", name := "<init>", desc := "([CIILjava/lang/Void;)V" } : Jvm.MethodName) jdk_42_method_149_code (6 : Nat) (Option.none : Option Jvm.ClassFile.FieldType)).before args0 about1 = true := code_word (m := ⟨7, 3⟩) (meth := k7m3) (c := k7c3) (by decide +kernel) rfl rfl rfl (by decide +kernel)
set_option maxRecDepth 65536 in
theorem w_c3 : (Jvm.Cond.code ({ cls := "java/lang/Object", name := "<init>", desc := "()V" } : Jvm.MethodName) object_method_1_code (1 : Nat) (Option.none : Option Jvm.ClassFile.FieldType)).before args0 about1 = true := code_word (m := ⟨0, 0⟩) (meth := k0m0) (c := k0c0) (by decide +kernel) rfl rfl rfl (by decide +kernel)
set_option maxRecDepth 65536 in
theorem w_c4 : (Jvm.Cond.code ({ cls := "java/lang/StringUTF16", name := "compress", desc := "([CII)[B" } : Jvm.MethodName) jdk_52_method_16_code (6 : Nat) (Option.some (Jvm.ClassFile.FieldType.array Jvm.ClassFile.FieldType.byte))).before args0 about1 = true := code_word (m := ⟨8, 2⟩) (meth := k8m2) (c := k8c2) (by decide +kernel) rfl rfl rfl (by decide +kernel)
set_option maxRecDepth 65536 in
theorem w_c5 : (Jvm.Cond.code ({ cls := "java/lang/StringUTF16", name := "compress", desc := "([CI[BII)I" } : Jvm.MethodName) jdk_52_method_21_code (7 : Nat) (Option.some Jvm.ClassFile.FieldType.int)).before args0 about1 = true := code_word (m := ⟨8, 3⟩) (meth := k8m3) (c := k8c3) (by decide +kernel) rfl rfl rfl (by decide +kernel)
set_option maxRecDepth 65536 in
theorem w_c6 : (Jvm.Cond.code ({ cls := "java/lang/StringUTF16", name := "coderFromArrayLen", desc := "([BI)B" } : Jvm.MethodName) jdk_52_method_15_code (2 : Nat) (Option.some Jvm.ClassFile.FieldType.byte)).before args0 about1 = true := code_word (m := ⟨8, 1⟩) (meth := k8m1) (c := k8c1) (by decide +kernel) rfl rfl rfl (by decide +kernel)
set_option maxRecDepth 65536 in
theorem w_c7 : (Jvm.Cond.code ({ cls := "java/lang/Math", name := "min", desc := "(JJ)J" } : Jvm.MethodName) jdk_29_method_70_code (4 : Nat) (Option.some Jvm.ClassFile.FieldType.long)).before args0 about1 = true := code_word (m := ⟨9, 2⟩) (meth := k9m2) (c := k9c2) (by decide +kernel) rfl rfl rfl (by decide +kernel)
set_option maxRecDepth 65536 in
theorem w_c8 : (Jvm.Cond.code ({ cls := "java/lang/Math", name := "max", desc := "(JJ)J" } : Jvm.MethodName) jdk_29_method_66_code (4 : Nat) (Option.some Jvm.ClassFile.FieldType.long)).before args0 about1 = true := code_word (m := ⟨9, 1⟩) (meth := k9m1) (c := k9c1) (by decide +kernel) rfl rfl rfl (by decide +kernel)
set_option maxRecDepth 65536 in
theorem w_c9 : (Jvm.Cond.code ({ cls := "com/example/greylag/greylag/model/Bundle", name := "<init>", desc := "(Ljava/lang/String;JJ)V" } : Jvm.MethodName) prog_27_method_1_code (6 : Nat) (Option.none : Option Jvm.ClassFile.FieldType)).before args0 about1 = true := code_word (m := ⟨10, 0⟩) (meth := k10m0) (c := k10c0) (by decide +kernel) rfl rfl rfl (by decide +kernel)
set_option maxRecDepth 65536 in
theorem w_c10 : (Jvm.Cond.code ({ cls := "com/example/greylag/greylag/model/Bundle", name := "contains", desc := "(Lcom/example/greylag/greylag/model/Bundle;)Z" } : Jvm.MethodName) prog_27_method_9_code (2 : Nat) (Option.some Jvm.ClassFile.FieldType.boolean)).before args0 about1 = true := code_word (m := ⟨10, 1⟩) (meth := k10m1) (c := k10c1) (by decide +kernel) rfl rfl rfl (by decide +kernel)
set_option maxRecDepth 65536 in
theorem w_c11 : (Jvm.Cond.code ({ cls := "java/lang/String", name := "equals", desc := "(Ljava/lang/Object;)Z" } : Jvm.MethodName) jdk_42_method_66_code (3 : Nat) (Option.some Jvm.ClassFile.FieldType.boolean)).before args0 about1 = true := code_word (m := ⟨7, 2⟩) (meth := k7m2) (c := k7c2) (by decide +kernel) rfl rfl rfl (by decide +kernel)
set_option maxRecDepth 65536 in
theorem w_c12 : (Jvm.Cond.code ({ cls := "java/lang/StringLatin1", name := "equals", desc := "([B[B)Z" } : Jvm.MethodName) jdk_43_method_13_code (3 : Nat) (Option.some Jvm.ClassFile.FieldType.boolean)).before args0 about1 = true := code_word (m := ⟨11, 1⟩) (meth := k11m1) (c := k11c1) (by decide +kernel) rfl rfl rfl (by decide +kernel)
def codes1 : List Jvm.Cond := [Jvm.Cond.code x code maxLocals ret, Jvm.Cond.code ({ cls := "java/lang/String", name := "<init>", desc := "([C)V" } : Jvm.MethodName) jdk_42_method_3_code (2 : Nat) (Option.none : Option Jvm.ClassFile.FieldType), Jvm.Cond.code ({ cls := "java/lang/String", name := "<init>", desc := "([CIILjava/lang/Void;)V" } : Jvm.MethodName) jdk_42_method_149_code (6 : Nat) (Option.none : Option Jvm.ClassFile.FieldType), Jvm.Cond.code ({ cls := "java/lang/Object", name := "<init>", desc := "()V" } : Jvm.MethodName) object_method_1_code (1 : Nat) (Option.none : Option Jvm.ClassFile.FieldType), Jvm.Cond.code ({ cls := "java/lang/StringUTF16", name := "compress", desc := "([CII)[B" } : Jvm.MethodName) jdk_52_method_16_code (6 : Nat) (Option.some (Jvm.ClassFile.FieldType.array Jvm.ClassFile.FieldType.byte)), Jvm.Cond.code ({ cls := "java/lang/StringUTF16", name := "compress", desc := "([CI[BII)I" } : Jvm.MethodName) jdk_52_method_21_code (7 : Nat) (Option.some Jvm.ClassFile.FieldType.int), Jvm.Cond.code ({ cls := "java/lang/StringUTF16", name := "coderFromArrayLen", desc := "([BI)B" } : Jvm.MethodName) jdk_52_method_15_code (2 : Nat) (Option.some Jvm.ClassFile.FieldType.byte), Jvm.Cond.code ({ cls := "java/lang/Math", name := "min", desc := "(JJ)J" } : Jvm.MethodName) jdk_29_method_70_code (4 : Nat) (Option.some Jvm.ClassFile.FieldType.long), Jvm.Cond.code ({ cls := "java/lang/Math", name := "max", desc := "(JJ)J" } : Jvm.MethodName) jdk_29_method_66_code (4 : Nat) (Option.some Jvm.ClassFile.FieldType.long), Jvm.Cond.code ({ cls := "com/example/greylag/greylag/model/Bundle", name := "<init>", desc := "(Ljava/lang/String;JJ)V" } : Jvm.MethodName) prog_27_method_1_code (6 : Nat) (Option.none : Option Jvm.ClassFile.FieldType), Jvm.Cond.code ({ cls := "com/example/greylag/greylag/model/Bundle", name := "contains", desc := "(Lcom/example/greylag/greylag/model/Bundle;)Z" } : Jvm.MethodName) prog_27_method_9_code (2 : Nat) (Option.some Jvm.ClassFile.FieldType.boolean), Jvm.Cond.code ({ cls := "java/lang/String", name := "equals", desc := "(Ljava/lang/Object;)Z" } : Jvm.MethodName) jdk_42_method_66_code (3 : Nat) (Option.some Jvm.ClassFile.FieldType.boolean), Jvm.Cond.code ({ cls := "java/lang/StringLatin1", name := "equals", desc := "([B[B)Z" } : Jvm.MethodName) jdk_43_method_13_code (3 : Nat) (Option.some Jvm.ClassFile.FieldType.boolean)]
set_option maxRecDepth 65536 in
theorem codes_eq : words1.filter isCode = codes1 := rfl
theorem w_codes : ∀ c ∈ words1.filter isCode, c.before args0 about1 = true := by
  rw [codes_eq]
  intro c hc
  simp only [codes1, List.mem_cons, List.not_mem_nil, or_false] at hc
  rcases hc with rfl | rfl | rfl | rfl | rfl | rfl | rfl | rfl | rfl | rfl | rfl | rfl | rfl
  · exact w_c0
  · exact w_c1
  · exact w_c2
  · exact w_c3
  · exact w_c4
  · exact w_c5
  · exact w_c6
  · exact w_c7
  · exact w_c8
  · exact w_c9
  · exact w_c10
  · exact w_c11
  · exact w_c12
set_option maxRecDepth 65536 in
theorem w_t1 : (words1.take 24).all (fun c => isCode c || c.before args0 about1) = true := by decide +kernel
set_option maxRecDepth 65536 in
theorem w_t2 : ((words1.drop 24).take 24).all (fun c => isCode c || c.before args0 about1) = true := by decide +kernel
set_option maxRecDepth 65536 in
theorem w_t3 : ((words1.drop 24).drop 24).all (fun c => isCode c || c.before args0 about1) = true := by decide +kernel
theorem w_tables : (allAtoms (Jvm.Cond.code x code maxLocals ret :: tables_1)).before args0 about1 = true := by
  rw [allAtoms_all]
  show words1.all (fun c => c.before args0 about1) = true
  refine all_split ?_ w_codes
  rw [← List.take_append_drop 24 words1, List.all_append, w_t1, ← List.take_append_drop 24 (words1.drop 24), List.all_append, w_t2, w_t3]
  rfl
set_option maxRecDepth 65536 in
theorem w_rest : rest_1_c.before args0 about1 = true := by decide +kernel
set_option maxRecDepth 65536 in
theorem w_case : (Jvm.Cond.and given_1 narrow_1).before args0 about1 = true := by decide +kernel
theorem w_applies : (headSpec (Jvm.Cond.code x code maxLocals ret :: tables_1) room_1).applies x e0.platform about1 = true :=
  (Spec.applies_iff w_frames).mpr ⟨w_running, w_runnable, w_alone, w_named, w_hears, w_ripe, w_room, w_tables⟩
theorem atStart : AtStart classFile x code maxLocals ret World_1 tables_1 room_1 Calls_1 rest_1 Pre_1 launch0 p0 e0 about1 theMethod args0 below0 :=
  ⟨lists_1, trivial, launch0.admits_env _ _ _, launch0.least_env, fairChoices_fair.cas, fairChoices_fair.clock, w_frames, w_args, w_heap, w_applies, trivial, w_rest, w_case⟩
end start1
theorem witness_1 : WitnessClaimed_1 := ⟨start1.p0, start1.e0, start1.about1, start1.theMethod, start1.args0, start1.below0, start1.atStart⟩
end Jvm.Pilot.@@N@@
