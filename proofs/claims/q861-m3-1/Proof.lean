import JvmDerived
import JvmDerived.Pilot.@@N@@Statement
import JvmDerived.Pilot.@@N@@Code
set_option linter.unusedVariables false
set_option linter.unusedSimpArgs false
namespace Jvm.RoadKit
open Sem ClassFile Op Lib Jvm.Stand Jvm.Free Jvm.LawKit
section OwnNew
variable {p : Program} {l : Launch} {e : Env} {R : Room} {s : State} {m : MethodId} {args : Array Value} {below : List Frame} {meth : Method} {c : Code} {T : State} {locs : List Loc} {cells slots : Nat}
theorem retI (X : Stand p l e R s m args below meth c T locs cells slots) (hx : p.tables.exec = Jvm.exec) {pc : Nat} {Ls : Array Slot} {z : Int32} {rest : List Value} (hret : meth.sig.returnType = some .int) (hd : decode c.code pc = .ok (.ireturn, 1)) {fs : List Frame}
    (hl : ∀ (f : JFrame) (acts : List Action), f.method = m → f.locked = none → f.entered = [] → (doReturn e (T.setTop f) acts (some (.int z))).1 = T.setFrames fs) : Steps p.tables e below (T.setTop (mkF m pc Ls (.int z :: rest))) (T.setFrames fs) := by
  have hm' : T.vm.method? m = some meth := X.method'
  have hn : narrow .int (.int z) = .int z := rfl
  show Steps p.tables e below (T.setTop { method := m, pc := pc, locals := Ls, stack := _ :: rest, locked := none }) _
  jvm_step X.here [X.here.top, hx, hd, hm', hret, hn]
  first | (intro acts; rw [hl _ acts rfl rfl rfl]) | rw [hl _ _ rfl rfl rfl]
  exact Steps.refl _
/-- from S the run comes to an end of this invocation at which K holds -/
def OFin (p : Program) (e : Env) (below : List Frame) (K : Outcome → State → Prop) (S : State) : Prop := ∃ s₂ o, Steps p.tables e below S s₂ ∧ s₂.status = .running ∧ Ended s₂ below o ∧ K o s₂
theorem OFin.of {K : Outcome → State → Prop} {S S' : State} (h : ∀ t, Steps p.tables e below S' t → Steps p.tables e below S t) (k : OFin p e below K S') : OFin p e below K S := by
  obtain ⟨t, o, a, b⟩ := k; exact ⟨t, o, h t a, b⟩
theorem OFin.to {K : Outcome → State → Prop} {S S' : State} (h : Steps p.tables e below S S') (k : OFin p e below K S') : OFin p e below K S := by
  obtain ⟨t, o, a, b⟩ := k; exact ⟨t, o, h.trans a, b⟩
abbrev KPost (s : State) (Q : Option Value → Heap → List Loc → Prop) (C D : Nat) : Outcome → State → Prop := fun o U' => ∃ v L, o = .returned v ∧ Q v U'.heap L ∧ FrameEnd s o U' L C D
theorem OFin.retI (X : Stand p l e R s m args below meth c T locs cells slots) (hx : p.tables.exec = Jvm.exec) (hlk : meth.locks = false) {pc : Nat} {Ls : Array Slot} {z : Int32} {rest : List Value} {Q : Option Value → Heap → List Loc → Prop} {C D : Nat} (hret : meth.sig.returnType = some .int) (hd : decode c.code pc = .ok (.ireturn, 1)) (hC : cells ≤ C) (hD : slots ≤ D) (hQ : Q (some (.int z)) T.heap locs) :
    OFin p e below (KPost s Q C D) (T.setTop (mkF m pc Ls (.int z :: rest))) := by
  obtain ⟨fs, hr, hrun, hended, hW, hsame⟩ := X.leave (v := some (.int z)) (fun h => by rw [hret] at h; cases h) hlk
  exact ⟨_, _, Jvm.RoadKit.retI X hx hret hd hr, hrun, hended, _, _, rfl, hQ, ⟨_, rfl⟩, hW, hsame.mono hC hD⟩
theorem OFin.retB (X : Stand p l e R s m args below meth c T locs cells slots) (hx : p.tables.exec = Jvm.exec) (hlk : meth.locks = false) {pc : Nat} {Ls : Array Slot} {z : Int32} {rest : List Value} {Q : Option Value → Heap → List Loc → Prop} {C D : Nat} {t : FieldType} (ht : t = .boolean ∨ t = .byte ∨ t = .char ∨ t = .short) (hret : meth.sig.returnType = some t) (hd : decode c.code pc = .ok (.ireturn, 1)) (hC : cells ≤ C) (hD : slots ≤ D) (hQ : Q (some (.int (nar t z))) T.heap locs) :
    OFin p e below (KPost s Q C D) (T.setTop (mkF m pc Ls (.int z :: rest))) := by
  obtain ⟨fs, hr, hrun, hended, hW, hsame⟩ := X.leave (v := some (.int (nar t z))) (fun h => by rw [hret] at h; cases h) hlk
  exact ⟨_, _, retN X hx hret ht hd hr, hrun, hended, _, _, rfl, hQ, ⟨_, rfl⟩, hW, hsame.mono hC hD⟩
theorem OFin.retJ (X : Stand p l e R s m args below meth c T locs cells slots) (hx : p.tables.exec = Jvm.exec) (hlk : meth.locks = false) {pc : Nat} {Ls : Array Slot} {z : Int64} {Q : Option Value → Heap → List Loc → Prop} {C D : Nat} (hret : meth.sig.returnType = some .long) (hd : decode c.code pc = .ok (.lreturn, 1)) (hC : cells ≤ C) (hD : slots ≤ D) (hQ : Q (some (.long z)) T.heap locs) :
    OFin p e below (KPost s Q C D) (T.setTop (mkF m pc Ls [.long z])) := by
  obtain ⟨fs, hr, hrun, hended, hW, hsame⟩ := X.leave (v := some (.long z)) (fun h => by rw [hret] at h; cases h) hlk
  exact ⟨_, _, X.lreturnOut hx hret hd hr, hrun, hended, _, _, rfl, hQ, ⟨_, rfl⟩, hW, hsame.mono hC hD⟩
theorem OFin.retA (X : Stand p l e R s m args below meth c T locs cells slots) (hx : p.tables.exec = Jvm.exec) (hlk : meth.locks = false) {pc : Nat} {Ls : Array Slot} {z : Value} {Q : Option Value → Heap → List Loc → Prop} {C D : Nat} {t : FieldType} (ht : t.isReference = true) (hz : z.isRef = true) (hret : meth.sig.returnType = some t) (hd : decode c.code pc = .ok (.areturn, 1)) (hC : cells ≤ C) (hD : slots ≤ D) (hQ : Q (some z) T.heap locs) :
    OFin p e below (KPost s Q C D) (T.setTop (mkF m pc Ls [z])) := by
  obtain ⟨fs, hr, hrun, hended, hW, hsame⟩ := X.leave (v := some z) (fun h => by rw [hret] at h; cases h) hlk
  exact ⟨_, _, X.areturnOut hx hz hret ht hd hr, hrun, hended, _, _, rfl, hQ, ⟨_, rfl⟩, hW, hsame.mono hC hD⟩
theorem OFin.retD (X : Stand p l e R s m args below meth c T locs cells slots) (hx : p.tables.exec = Jvm.exec) (hlk : meth.locks = false) {pc : Nat} {Ls : Array Slot} {z : UInt64} {rest : List Value} {Q : Option Value → Heap → List Loc → Prop} {C D : Nat} (hret : meth.sig.returnType = some .double) (hd : decode c.code pc = .ok (.dreturn, 1)) (hC : cells ≤ C) (hD : slots ≤ D) (hQ : Q (some (.double z)) T.heap locs) :
    OFin p e below (KPost s Q C D) (T.setTop (mkF m pc Ls (.double z :: rest))) := by
  obtain ⟨fs, hr, hrun, hended, hW, hsame⟩ := X.leave (v := some (.double z)) (fun h => by rw [hret] at h; cases h) hlk
  exact ⟨_, _, retOut X hx hret rfl (Or.inr (Or.inr (Or.inl ⟨rfl, rfl, z, rfl⟩))) hd hr, hrun, hended, _, _, rfl, hQ, ⟨_, rfl⟩, hW, hsame.mono hC hD⟩
theorem OFin.retV (X : Stand p l e R s m args below meth c T locs cells slots) (hx : p.tables.exec = Jvm.exec) (hlk : meth.locks = false) {pc : Nat} {Ls : Array Slot} {Q : Option Value → Heap → List Loc → Prop} {C D : Nat} (hret : meth.sig.returnType = none) (hd : decode c.code pc = .ok (.return_, 1)) (hC : cells ≤ C) (hD : slots ≤ D) (hQ : Q none T.heap locs) :
    OFin p e below (KPost s Q C D) (T.setTop (mkF m pc Ls [])) := by
  obtain ⟨fs, hr, hrun, hended, hW, hsame⟩ := X.leave (v := none) (fun _ => rfl) hlk
  exact ⟨_, _, X.returnOut hx hret hd hr, hrun, hended, _, _, rfl, hQ, ⟨_, rfl⟩, hW, hsame.mono hC hD⟩
abbrev KPostW (s : State) (Q : Option Value → Heap → List Loc → Prop) (C D : Nat) : Outcome → State → Prop := fun o U' => ∃ v L, o = .returned v ∧ Q v U'.heap L ∧ ReturnedEndW s o U' L C D
theorem OFin.retBW {vm₁ : Vm} {k : Nat} (X : Stand p l e R (s.setVm vm₁) m args below meth c T locs cells slots) (hS : s.Since vm₁ k) (hk : k ≤ T.heap.size) (hx : p.tables.exec = Jvm.exec) (hlk : meth.locks = false) {pc : Nat} {Ls : Array Slot} {z : Int32} {rest : List Value} {Q : Option Value → Heap → List Loc → Prop} {C D : Nat} {t : FieldType} (ht : t = .boolean ∨ t = .byte ∨ t = .char ∨ t = .short) (hret : meth.sig.returnType = some t) (hd : decode c.code pc = .ok (.ireturn, 1)) (hC : cells ≤ C) (hD : slots ≤ D) (hQ : Q (some (.int (nar t z))) T.heap locs) :
    OFin p e below (KPostW s Q C D) (T.setTop (mkF m pc Ls (.int z :: rest))) := by
  obtain ⟨fs, hr, hrun, hended, h1, h2, h3, h4⟩ := X.leaveW hS hk (v := some (.int (nar t z))) (fun h => by rw [hret] at h; cases h) hlk
  exact ⟨_, _, retN X hx hret ht hd hr, hrun, hended, _, _, rfl, hQ, ⟨_, rfl⟩, h2, h3, h4.mono hC hD⟩
theorem own_alen {Z : State} {h : Heap} {a : Addr} {cl : Cell} {ty : FieldType} {z : Int32} {g : JFrame} {rest : List Value} {target : State} (X : Stand p l e R s m args below meth c T locs cells slots) (hx : p.tables.exec = Jvm.exec) (hZ : Z.Warmed39 s.vm) (eT : T.heap = h) (A : Arr Z h a cl ty) (S : cl.slots.size = z.toNatClampNeg) (q : ¬ z < 0) (hg : g.method = m) (hs : g.stack = .ref a :: rest) (hd : decode c.code g.pc = .ok (.arraylength, 1))
    (hr : Steps p.tables e below (T.setTop { g with pc := g.pc + 1, stack := .int z :: rest }) target) : Steps p.tables e below (T.setTop g) target := by
  refine X.arraylength hx (by rw [eT]; exact A.1) (State.isArrayOf_alike hZ.alike A.2.1) hg hs hd _ ?_
  rw [len_of S q]; exact hr
def OwnNoSta (h : Heap) (ws : List Addr) : Prop := ∀ x ∈ ws, ∀ cell : Cell, h[x]? = some cell → cell.vm.isStatics = false
theorem own_sn0 {h : Heap} : OwnNoSta h [] := fun _ q => nomatch q
theorem own_snS {Z : State} {h : Heap} {a : Addr} {C : String} {ws : List Addr} (E : Exa Z h a C) (r : OwnNoSta h ws) : OwnNoSta h (a :: ws) := fun x q cell hc => by
  rcases List.mem_cons.mp q with rfl | q
  · obtain ⟨c', _, h1, -, -, h4, -⟩ := E; cases h1.symm.trans hc; exact h4
  · exact r x q cell hc
theorem own_snV {Z : State} {h : Heap} {a : Addr} {k : ClassId} {ty : FieldType} {z : Int32} {vs : List Value} {dv : Value} {ws : List Addr} (F : Arv Z h a k ty z vs dv) (r : OwnNoSta h ws) : OwnNoSta h (a :: ws) := fun x q cell hc => by
  rcases List.mem_cons.mp q with rfl | q
  · obtain ⟨c', A, -⟩ := F; cases A.1.symm.trans hc; exact A.plain
  · exact r x q cell hc
theorem own_staKeep {Z : State} {h h' : Heap} {C n d : String} {v : Value} {ws : List Addr} (F : Sta Z h C n d v) (K : Keep h h' ws) (q : OwnNoSta h ws) : Sta Z h' C n d v := by
  obtain ⟨cf, i, k, f, st, cell, h1, h2, h3, h4, h5, h6, h7⟩ := F
  refine ⟨cf, i, k, f, st, cell, h1, h2, h3, h4, K.2.1 st cell h5 (fun z => ?_), h6, h7⟩
  have := q st z cell h5
  rw [this] at h6; cases h6
theorem own_pop2L {tb : Tables} [Ours tb] {e : Env} {below : List Frame} {T target : State} {m : MethodId} {c : Code} {g : JFrame} (h : At T m c below) (hx : tb.exec = Jvm.exec) (hg : g.method = m) {x : Int64} {rest : List Value} (hd : decode c.code g.pc = .ok (.pop2, 1)) (hs : g.stack = .long x :: rest)
    (hr : Steps tb e below (T.setTop { g with pc := g.pc + 1, stack := rest }) target) : Steps tb e below (T.setTop g) target := by
  subst hg
  jvm_step h [h.top, hx, hd, hs, Value.category]
  exact hr
def OwnMet (E : Int32) (h0 : Heap) (n0 : Nat) (v : Option Value) (h : Heap) (L : List Loc) : Prop := v = some (.int E) ∧ Fr n0 L ∧ h = h0
end OwnNew
end Jvm.RoadKit
namespace Jvm.Pilot.@@N@@
open Jvm Jvm.ClassFile Sem Op Lib Jvm.Free Jvm.Stand Jvm.LawKit Jvm.RoadKit Bundle Jvm.Pilot.@@N@@.Jvm.D
theorem pd_0 : parseMethodDescriptor "()[Lcom/example/querant/querant/exchange/Exchange$Outcome;" = some ⟨[], some (.array (.object "com/example/querant/querant/exchange/Exchange$Outcome"))⟩ := by decide +kernel
theorem pd_1 : parseMethodDescriptor "(I)Lcom/example/querant/querant/exchange/Exchange$Outcome;" = some ⟨[.int], some (.object "com/example/querant/querant/exchange/Exchange$Outcome")⟩ := by decide +kernel
theorem own_fldEq {args : Array Value} {Z : State} {t : Term} {C n d : String} {x : Addr} {k : Int32} (ev : t.eval args Z none [] Z = some (.ref x)) (h : (Jvm.Cond.eq (Term.field t C n d) (Term.int k)).value args Z none Z [] = some true) : Fld Z Z.heap x C n d (.int k) := by
  obtain ⟨u, w, e1, e2, -, -⟩ := cmp_v (Or.inl h)
  have e3 : w = .int k := (Option.some.inj e2).symm
  subst e3
  have e4 : u = .int k := by
    cases u <;> simp [Jvm.Cond.value, e1, e2] at h ⊢
    exact h
  subst e4
  exact Fld.start ((fld_at ev).symm.trans e1)
theorem own_val {args : Array Value} {Z : State} {a b : Term} {v w : Value} (h : (Jvm.Cond.eq a b).value args Z none Z [] = some true) (e1 : a.eval args Z none [] Z = some v) (e2 : b.eval args Z none [] Z = some w) : v = w := by
  cases v <;> cases w <;> simp [Jvm.Cond.value, e1, e2] at h ⊢ <;> exact h
theorem own_len {args : Array Value} {Z : State} {t : Term} {x : Addr} {cl : Cell} {k : Int32} (ev : t.eval args Z none [] Z = some (.ref x)) (hc : Z.heap[x]? = some cl) (h : (Jvm.Cond.eq (Term.length t) (Term.int k)).value args Z none Z [] = some true) : cl.slots.size < 2 ^ 31 ∧ cl.slots.size.toInt32 = k := by
  obtain ⟨u, w, e1, e2, -, -⟩ := cmp_v (Or.inl h)
  have e3 := own_val h e1 e2
  obtain ⟨a, cell, q1, q2, q3⟩ := Term.length_spec e1
  cases ev.symm.trans q1
  have q4 : Z.heap[x]? = some cell := (Jvm.Joins.arrayAt_spec q2).1
  cases hc.symm.trans q4
  have e4 : w = .int k := (Option.some.inj e2).symm
  subst e4 e3
  refine ⟨?_, by injection q3 with q; exact q.symm⟩
  simp only [Term.eval, ev, q2, Option.bind_eq_bind, Option.bind_some] at e1
  by_cases hs : cl.slots.size < 2 ^ 31
  · exact hs
  · simp [hs] at e1
theorem own_elem {args : Array Value} {Z : State} {t u : Term} {x y : Addr} {cl : Cell} {k : Int32} (ev : t.eval args Z none [] Z = some (.ref x)) (hc : Z.heap[x]? = some cl) (eu : u.eval args Z none [] Z = some (.ref y)) (h : (Jvm.Cond.eq (Term.elem t (Term.int k)) u).value args Z none Z [] = some true) : cl.slots[k.toNatClampNeg]? = some (.ref y) := by
  obtain ⟨p, q, e1, e2, -, -⟩ := cmp_v (Or.inl h)
  have e3 := own_val h e1 eu
  rw [e3] at e1
  exact (elem_in e1 ev (Term.int_eval k) hc).2
theorem own_seven (c : Int32) : c = (0 : Int32) ∨ c = (1 : Int32) ∨ c = (2 : Int32) ∨ c = (3 : Int32) ∨ c = (4 : Int32) ∨ c = (5 : Int32) ∨ c = (6 : Int32) ∨ (¬ c = (0 : Int32) ∧ ¬ c = (1 : Int32) ∧ ¬ c = (2 : Int32) ∧ ¬ c = (3 : Int32) ∧ ¬ c = (4 : Int32) ∧ ¬ c = (5 : Int32) ∧ ¬ c = (6 : Int32)) := by
  by_cases h0 : c = 0 <;> by_cases h1 : c = 1 <;> by_cases h2 : c = 2 <;> by_cases h3 : c = 3 <;> by_cases h4 : c = 4 <;> by_cases h5 : c = 5 <;> by_cases h6 : c = 6 <;> simp_all
theorem own_and1 (x : Int32) : x &&& (1 : Int32) = (0 : Int32) ∨ x &&& (1 : Int32) = (1 : Int32) := and_one x
theorem dVl_0 : decode prog_3_method_1_code 0 = .ok (.getstatic 25, 3) := by decide +kernel
theorem dVl_3 : decode prog_3_method_1_code 3 = .ok (.invokevirtual 29, 3) := by decide +kernel
theorem dVl_6 : decode prog_3_method_1_code 6 = .ok (.checkcast 30, 3) := by decide +kernel
theorem dVl_9 : decode prog_3_method_1_code 9 = .ok (.areturn, 1) := by decide +kernel
theorem pnVl : plainName "com/example/querant/querant/exchange/Exchange$Outcome" = true := by first | (simp [plainName, overriddenIn]; done) | decide +kernel
theorem efVl (m : MethodId)  : entryFrame m #[] 0 = mkF m 0 #[] [] := by first | (simp [entryFrame, mkF, argsToLocals, Value.category]; done) | rfl
def QVl (Z : State) (av : Addr) (k : ClassId) (x0 : Addr) (x1 : Addr) (x2 : Addr) (x3 : Addr) (x4 : Addr) (x5 : Addr) (x6 : Addr) (h0 : Heap) (n0 : Nat) (v : Option Value) (h : Heap) (L : List Loc) : Prop := v = some (.ref h0.size) ∧ Fr n0 L ∧ Ext h0 h ∧ Arv Z h h0.size k (.object "com/example/querant/querant/exchange/Exchange$Outcome") (7 : Int32) [(.ref x0), (.ref x1), (.ref x2), (.ref x3), (.ref x4), (.ref x5), (.ref x6)] .null
set_option maxRecDepth 65536 in
set_option maxHeartbeats 40000000 in
theorem rmVl (l : Launch) (Z : State) (a0 : Array Value) (hw : ∀ d ∈ tables_1, d.before a0 Z = true) (ws : List Jvm.Cond) (av : Addr) (k : ClassId) (x0 : Addr) (x1 : Addr) (x2 : Addr) (x3 : Addr) (x4 : Addr) (x5 : Addr) (x6 : Addr) (h0 : Heap) (n0 : Nat) (Z0 : n0 ≤ h0.size) (Sv : Sta Z h0 "com/example/querant/querant/exchange/Exchange$Outcome" "$VALUES" "[Lcom/example/querant/querant/exchange/Exchange$Outcome;" (.ref av)) (Ev : Exa Z h0 av "[Lcom/example/querant/querant/exchange/Exchange$Outcome;") (V1 : Arv Z h0 av k (.object "com/example/querant/querant/exchange/Exchange$Outcome") (7 : Int32) [(.ref x0), (.ref x1), (.ref x2), (.ref x3), (.ref x4), (.ref x5), (.ref x6)] .null) :
    MetFree l (⟨"com/example/querant/querant/exchange/Exchange$Outcome", "values", "()[Lcom/example/querant/querant/exchange/Exchange$Outcome;"⟩ : MethodName) (head1 (Jvm.Cond.code (⟨"com/example/querant/querant/exchange/Exchange$Outcome", "values", "()[Lcom/example/querant/querant/exchange/Exchange$Outcome;"⟩ : MethodName) prog_3_method_1_code 0 (some (.array (.object "com/example/querant/querant/exchange/Exchange$Outcome"))) :: ws) ({ frames := 1, cells := 1, slots := 7, locals := 14 } : Room)) (fun a U => a = #[] ∧ Z.Warmed39 U.vm ∧ U.heap = h0) (fun _ _ _ _ _ => True) (fun _ U o U' => ∃ v L, o = .returned v ∧ QVl Z av k x0 x1 x2 x3 x4 x5 x6 h0 n0 v U'.heap L ∧ FrameEnd U o U' L ({ frames := 1, cells := 1, slots := 7, locals := 14 } : Room).cells ({ frames := 1, cells := 1, slots := 7, locals := 14 } : Room).slots) := by
  refine MetFree.of_bodySF (plainFor_of_name pnVl) hisR ?_
  intro p e s m args below meth c s₁ Bd hml0 hP hK
  obtain ⟨rfl, hZ, hh⟩ := hP
  have hx := Bd.exec
  have hby := Bd.bytes
  have hlk := BodyLoose.notSynchronized Bd
  have hret := Bd.returns
  have hml : c.maxLocals = 0 := hml0
  have hown : s.vm.findClass "com/example/querant/querant/exchange/Exchange$Outcome" = some m.cls := findClass_of_methodNamed Bd.named
  have hnm := (name_of_methodNamed Bd.named Bd.method).1
  have X0 : Stand p l e ({ frames := 1, cells := 1, slots := 7, locals := 14 } : Room) s m #[] below meth c s₁ [] 0 0 := Stand.of_body Bd
  have e0 : s₁.heap = h0 := by rw [← hh, Bd.state]; rfl
  have N0 := Fr.nil n0
  show OFin p e below (KPost s (QVl Z av k x0 x1 x2 x3 x4 x5 x6 h0 n0) ({ frames := 1, cells := 1, slots := 7, locals := 14 } : Room).cells ({ frames := 1, cells := 1, slots := 7, locals := 14 } : Room).slots) _
  rw [efVl m ]
  have K0 : Keep h0 h0 [] := Keep.refl _ _
  obtain ⟨T1, X1, e1, st1⟩ := getS (host := "") X0 hx hZ hown (hw _ (List.mem_of_getElem? (i := 7) rfl)) Via.refl e0 Sv (g := (mkF m 0 #[] [])) rfl (hb hby dVl_0)
  refine OFin.of (S' := T1.setTop (mkF m 3 #[] [(.ref av)])) (fun t ht => st1 t ht) ?_
  obtain ⟨T2, h2, X2, e2, E2, V2, A2, st2⟩ := cloneH X1 hx hZ hown (hw _ (List.mem_of_getElem? (i := 9) rfl)) (hw _ (List.mem_of_getElem? (i := 10) rfl)) (hw _ (List.mem_of_getElem? (i := 14) rfl)) (hw _ (List.mem_of_getElem? (i := 12) rfl)) (hw _ (List.mem_of_getElem? (i := 13) rfl)) (hw _ (List.mem_of_getElem? (i := 15) rfl)) e1 (hs := []) V1 Ev (g := (mkF m 3 #[] [(.ref av)])) rfl (by rw [hml]; rfl) rfl (hb hby dVl_3) (by decide) (W := 0) (cap := 7) (by show 2 * 0 + _ ≤ _; exact Nat.le_of_eq rfl) (by decide) (by decide) (by decide) (by decide)
  obtain ⟨b2, gq2⟩ : ∃ z, z = h0.size := ⟨_, rfl⟩
  rw [← gq2] at V2 A2 st2
  have g3 : n0 ≤ b2 := (Nat.le_trans Z0 (Nat.le_of_eq gq2.symm))
  have sz4 : h0.size ≤ b2 := (Nat.le_trans K0.1 (Nat.le_of_eq gq2.symm))
  have ne5 : av ≠ b2 := (Nat.ne_of_lt (Nat.lt_of_lt_of_le Ev.lt (Nat.le_of_eq gq2.symm)))
  have f6 := Sv.ext E2
  have f7 := Ev.ext E2
  have f8 := V1.ext E2
  have Z9 : n0 ≤ h2.size := (Nat.le_trans Z0 E2.1)
  have K10 : Keep h0 h2 [] := (K0.ext E2)
  have f11 : Arv Z h2 b2 k (.object "com/example/querant/querant/exchange/Exchange$Outcome") (7 : Int32) [(.ref x0), (.ref x1), (.ref x2), (.ref x3), (.ref x4), (.ref x5), (.ref x6)] .null := V2
  refine OFin.of (S' := T2.setTop (mkF m 6 #[] [(.ref b2)])) (fun t ht => st2 t ht) ?_
  obtain ⟨T12, X12, e12, st12⟩ := castY X2 hx hZ hown (hw _ (List.mem_of_getElem? (i := 24) rfl)) e2 (Ins.self A2) (g := (mkF m 6 #[] [(.ref b2)])) rfl rfl (hb hby dVl_6)
  refine OFin.of (S' := T12.setTop (mkF m 9 #[] [(.ref b2)])) (fun t ht => st12 t ht) ?_
  exact OFin.retA X12 hx hlk (t := (.array (.object "com/example/querant/querant/exchange/Exchange$Outcome"))) rfl rfl hret (hb hby dVl_9) (by decide) (by decide) (by rw [e12]; exact ⟨by rw [← gq2], N0, E2, by rw [← gq2]; exact f11⟩)
theorem dC0_0 : decode prog_3_method_5_code 0 = .ok (.invokestatic 48, 3) := by decide +kernel
theorem dC0_3 : decode prog_3_method_5_code 3 = .ok (.astore_n 1, 1) := by decide +kernel
theorem dC0_4 : decode prog_3_method_5_code 4 = .ok (.aload_n 1, 1) := by decide +kernel
theorem dC0_5 : decode prog_3_method_5_code 5 = .ok (.arraylength, 1) := by decide +kernel
theorem dC0_6 : decode prog_3_method_5_code 6 = .ok (.istore_n 2, 1) := by decide +kernel
theorem dC0_7 : decode prog_3_method_5_code 7 = .ok (.iconst 0, 1) := by decide +kernel
theorem dC0_8 : decode prog_3_method_5_code 8 = .ok (.istore_n 3, 1) := by decide +kernel
theorem dC0_9 : decode prog_3_method_5_code 9 = .ok (.iload_n 3, 1) := by decide +kernel
theorem dC0_10 : decode prog_3_method_5_code 10 = .ok (.iload_n 2, 1) := by decide +kernel
theorem dC0_11 : decode prog_3_method_5_code 11 = .ok (.if_icmp .ge 26, 3) := by decide +kernel
theorem dC0_14 : decode prog_3_method_5_code 14 = .ok (.aload_n 1, 1) := by decide +kernel
theorem dC0_15 : decode prog_3_method_5_code 15 = .ok (.iload_n 3, 1) := by decide +kernel
theorem dC0_16 : decode prog_3_method_5_code 16 = .ok (.aaload, 1) := by decide +kernel
theorem dC0_17 : decode prog_3_method_5_code 17 = .ok (.astore 4, 2) := by decide +kernel
theorem dC0_19 : decode prog_3_method_5_code 19 = .ok (.aload 4, 2) := by decide +kernel
theorem dC0_21 : decode prog_3_method_5_code 21 = .ok (.getfield 44, 3) := by decide +kernel
theorem dC0_24 : decode prog_3_method_5_code 24 = .ok (.iload_n 0, 1) := by decide +kernel
theorem dC0_25 : decode prog_3_method_5_code 25 = .ok (.if_icmp .ne 6, 3) := by decide +kernel
theorem dC0_28 : decode prog_3_method_5_code 28 = .ok (.aload 4, 2) := by decide +kernel
theorem dC0_30 : decode prog_3_method_5_code 30 = .ok (.areturn, 1) := by decide +kernel
theorem pnC0 : plainName "com/example/querant/querant/exchange/Exchange$Outcome" = true := by first | (simp [plainName, overriddenIn]; done) | decide +kernel
theorem efC0 (m : MethodId)  : entryFrame m #[(.int (0 : Int32))] 5 = mkF m 0 #[.val (.int (0 : Int32)), .unset, .unset, .unset, .unset] [] := by first | (simp [entryFrame, mkF, argsToLocals, Value.category]; done) | rfl
def QC0 (Z : State) (av : Addr) (k : ClassId) (x0 : Addr) (x1 : Addr) (x2 : Addr) (x3 : Addr) (x4 : Addr) (x5 : Addr) (x6 : Addr) (h0 : Heap) (n0 : Nat) (v : Option Value) (h : Heap) (L : List Loc) : Prop := v = some (.ref x0) ∧ Fr n0 L ∧ Keep h0 h []
set_option maxRecDepth 65536 in
set_option maxHeartbeats 40000000 in
theorem rmC0 (l : Launch) (Z : State) (a0 : Array Value) (hw : ∀ d ∈ tables_1, d.before a0 Z = true) (ws : List Jvm.Cond) (av : Addr) (k : ClassId) (x0 : Addr) (x1 : Addr) (x2 : Addr) (x3 : Addr) (x4 : Addr) (x5 : Addr) (x6 : Addr) (h0 : Heap) (n0 : Nat) (Z0 : n0 ≤ h0.size) (Sv : Sta Z h0 "com/example/querant/querant/exchange/Exchange$Outcome" "$VALUES" "[Lcom/example/querant/querant/exchange/Exchange$Outcome;" (.ref av)) (Ev : Exa Z h0 av "[Lcom/example/querant/querant/exchange/Exchange$Outcome;") (V1 : Arv Z h0 av k (.object "com/example/querant/querant/exchange/Exchange$Outcome") (7 : Int32) [(.ref x0), (.ref x1), (.ref x2), (.ref x3), (.ref x4), (.ref x5), (.ref x6)] .null) (O0 : Fld Z h0 x0 "com/example/querant/querant/exchange/Exchange$Outcome" "code" "I" (.int (0 : Int32))) (O1 : Fld Z h0 x1 "com/example/querant/querant/exchange/Exchange$Outcome" "code" "I" (.int (1 : Int32))) (O2 : Fld Z h0 x2 "com/example/querant/querant/exchange/Exchange$Outcome" "code" "I" (.int (2 : Int32))) (O3 : Fld Z h0 x3 "com/example/querant/querant/exchange/Exchange$Outcome" "code" "I" (.int (3 : Int32))) (O4 : Fld Z h0 x4 "com/example/querant/querant/exchange/Exchange$Outcome" "code" "I" (.int (4 : Int32))) (O5 : Fld Z h0 x5 "com/example/querant/querant/exchange/Exchange$Outcome" "code" "I" (.int (5 : Int32))) (O6 : Fld Z h0 x6 "com/example/querant/querant/exchange/Exchange$Outcome" "code" "I" (.int (6 : Int32))) :
    MetFree l (⟨"com/example/querant/querant/exchange/Exchange$Outcome", "ofCode", "(I)Lcom/example/querant/querant/exchange/Exchange$Outcome;"⟩ : MethodName) (head1 (Jvm.Cond.code (⟨"com/example/querant/querant/exchange/Exchange$Outcome", "ofCode", "(I)Lcom/example/querant/querant/exchange/Exchange$Outcome;"⟩ : MethodName) prog_3_method_5_code 5 (some (.object "com/example/querant/querant/exchange/Exchange$Outcome")) :: ws) ({ frames := 2, cells := 1, slots := 7, locals := 25 } : Room)) (fun a U => a = #[(.int (0 : Int32))] ∧ Z.Warmed39 U.vm ∧ U.heap = h0) (fun _ _ _ _ _ => True) (fun _ U o U' => ∃ v L, o = .returned v ∧ QC0 Z av k x0 x1 x2 x3 x4 x5 x6 h0 n0 v U'.heap L ∧ FrameEnd U o U' L ({ frames := 2, cells := 1, slots := 7, locals := 25 } : Room).cells ({ frames := 2, cells := 1, slots := 7, locals := 25 } : Room).slots) := by
  refine MetFree.of_bodySF (plainFor_of_name pnC0) hisR ?_
  intro p e s m args below meth c s₁ Bd hml0 hP hK
  obtain ⟨rfl, hZ, hh⟩ := hP
  have hx := Bd.exec
  have hby := Bd.bytes
  have hlk := BodyLoose.notSynchronized Bd
  have hret := Bd.returns
  have hml : c.maxLocals = 5 := hml0
  have hown : s.vm.findClass "com/example/querant/querant/exchange/Exchange$Outcome" = some m.cls := findClass_of_methodNamed Bd.named
  have hnm := (name_of_methodNamed Bd.named Bd.method).1
  have X0 : Stand p l e ({ frames := 2, cells := 1, slots := 7, locals := 25 } : Room) s m #[(.int (0 : Int32))] below meth c s₁ [] 0 0 := Stand.of_body Bd
  have e0 : s₁.heap = h0 := by rw [← hh, Bd.state]; rfl
  have N0 := Fr.nil n0
  show OFin p e below (KPost s (QC0 Z av k x0 x1 x2 x3 x4 x5 x6 h0 n0) ({ frames := 2, cells := 1, slots := 7, locals := 25 } : Room).cells ({ frames := 2, cells := 1, slots := 7, locals := 25 } : Room).slots) _
  rw [efC0 m ]
  have K0 : Keep h0 h0 [] := Keep.refl _ _
  obtain ⟨_, _, ⟨T1, L1, k1, n1⟩, -, X1, ⟨Lc1, hQ1, l1, y1, z1⟩, st1⟩ := Jvm.LawKit.callS X0 hx (y := (⟨"com/example/querant/querant/exchange/Exchange$Outcome", "values", "()[Lcom/example/querant/querant/exchange/Exchange$Outcome;"⟩ : MethodName)) hown (mvT hZ (hw _ (List.mem_of_getElem? (i := 4) rfl))) (mvT hZ (hw _ (List.mem_of_getElem? (i := 5) rfl))) (mvT hZ (hw _ (List.mem_of_getElem? (i := 2) rfl))) (mvT hZ (hw _ (List.mem_of_getElem? (i := 6) rfl))) (by decide) (backOf (W := 0) (rmVl l Z _ hw [] av k x0 x1 x2 x3 x4 x5 x6 h0 n0 Z0 Sv Ev V1) hZ (hw _ (List.mem_of_getElem? (i := 6) rfl)) (hw _ (List.mem_of_getElem? (i := 2) rfl)) (by decide) (by decide)) (g := (mkF m 0 #[.val (.int (0 : Int32)), .unset, .unset, .unset, .unset] [])) rfl (by rw [hml]; rfl) (argsL := []) (rest := []) (lenOf pd_0 rfl) rfl (by show 2 * 0 + _ ≤ _; exact Nat.le_of_eq rfl) (hb hby dC0_0) (fun _ _ => ⟨rfl, e0, (by decide : 0 + 1 ≤ _), (by decide : 0 + 7 ≤ _)⟩)
  dsimp only [Pt.U, Pt.locs, Pt.cells, Pt.slots] at X1 l1 y1 z1 st1 hQ1
  subst l1 y1 z1
  obtain ⟨rfl, Nq1, Eq1, f2⟩ := hQ1
  have N3 := Fr.app N0 Nq1
  obtain ⟨b1, gq1⟩ : ∃ z, z = h0.size := ⟨_, rfl⟩
  rw [← gq1] at f2 st1
  have g4 : n0 ≤ b1 := (Nat.le_trans Z0 (Nat.le_of_eq gq1.symm))
  have sz5 : h0.size ≤ b1 := (Nat.le_trans K0.1 (Nat.le_of_eq gq1.symm))
  have ne6 : av ≠ b1 := (Nat.ne_of_lt (Nat.lt_of_lt_of_le Ev.lt (Nat.le_of_eq gq1.symm)))
  have ne7 : x0 ≠ b1 := (Nat.ne_of_lt (Nat.lt_of_lt_of_le O0.lt (Nat.le_of_eq gq1.symm)))
  have ne8 : x1 ≠ b1 := (Nat.ne_of_lt (Nat.lt_of_lt_of_le O1.lt (Nat.le_of_eq gq1.symm)))
  have ne9 : x2 ≠ b1 := (Nat.ne_of_lt (Nat.lt_of_lt_of_le O2.lt (Nat.le_of_eq gq1.symm)))
  have ne10 : x3 ≠ b1 := (Nat.ne_of_lt (Nat.lt_of_lt_of_le O3.lt (Nat.le_of_eq gq1.symm)))
  have ne11 : x4 ≠ b1 := (Nat.ne_of_lt (Nat.lt_of_lt_of_le O4.lt (Nat.le_of_eq gq1.symm)))
  have ne12 : x5 ≠ b1 := (Nat.ne_of_lt (Nat.lt_of_lt_of_le O5.lt (Nat.le_of_eq gq1.symm)))
  have ne13 : x6 ≠ b1 := (Nat.ne_of_lt (Nat.lt_of_lt_of_le O6.lt (Nat.le_of_eq gq1.symm)))
  have f14 := Sv.ext Eq1
  have f15 := Ev.ext Eq1
  have f16 := V1.ext Eq1
  have f17 := O0.ext Eq1
  have f18 := O1.ext Eq1
  have f19 := O2.ext Eq1
  have f20 := O3.ext Eq1
  have f21 := O4.ext Eq1
  have f22 := O5.ext Eq1
  have f23 := O6.ext Eq1
  have Z24 : n0 ≤ T1.heap.size := (Nat.le_trans Z0 Eq1.1)
  have K25 : Keep h0 T1.heap [] := (K0.ext Eq1)
  refine OFin.of (S' := T1.setTop (mkF m 3 #[.val (.int (0 : Int32)), .unset, .unset, .unset, .unset] [(.ref b1)])) (fun t ht => st1 t ht) ?_
  refine OFin.of (S' := T1.setTop (mkF m 5 #[.val (.int (0 : Int32)), .val (.ref b1), .unset, .unset, .unset] [(.ref b1)])) (fun t ht => ?_) ?_
  · refine XS.astoreN X1.here hx rfl (hb hby dC0_3) rfl rfl (l' := #[.val (.int (0 : Int32)), .val (.ref b1), .unset, .unset, .unset]) rfl ?_
    show Steps p.tables e below (T1.setTop (mkF m 4 #[.val (.int (0 : Int32)), .val (.ref b1), .unset, .unset, .unset] [])) _
    refine XS.aloadN X1.here hx rfl (hb hby dC0_4) rfl rfl ?_
    exact ht
  obtain ⟨cl26, Ar26, q26, S26, Ng26, H26, G26⟩ := id f2
  refine OFin.of (S' := T1.setTop (mkF m 6 #[.val (.int (0 : Int32)), .val (.ref b1), .unset, .unset, .unset] [(.int (7 : Int32))])) (fun t ht => own_alen X1 hx hZ (rfl : T1.heap = T1.heap) Ar26 S26 Ng26 (g := (mkF m 5 #[.val (.int (0 : Int32)), .val (.ref b1), .unset, .unset, .unset] [(.ref b1)])) rfl rfl (hb hby dC0_5) ht) ?_
  refine OFin.of (S' := T1.setTop (mkF m 16 #[.val (.int (0 : Int32)), .val (.ref b1), .val (.int (7 : Int32)), .val (.int (0 : Int32)), .unset] [(.int (0 : Int32)), (.ref b1)])) (fun t ht => ?_) ?_
  · refine XS.istoreN X1.here hx rfl (hb hby dC0_6) rfl (l' := #[.val (.int (0 : Int32)), .val (.ref b1), .val (.int (7 : Int32)), .unset, .unset]) rfl ?_
    show Steps p.tables e below (T1.setTop (mkF m 7 #[.val (.int (0 : Int32)), .val (.ref b1), .val (.int (7 : Int32)), .unset, .unset] [])) _
    refine XS.iconst X1.here hx rfl (hb hby dC0_7) ?_
    show Steps p.tables e below (T1.setTop (mkF m 8 _ [(.int (0 : Int32))])) _
    refine XS.istoreN X1.here hx rfl (hb hby dC0_8) rfl (l' := #[.val (.int (0 : Int32)), .val (.ref b1), .val (.int (7 : Int32)), .val (.int (0 : Int32)), .unset]) rfl ?_
    show Steps p.tables e below (T1.setTop (mkF m 9 #[.val (.int (0 : Int32)), .val (.ref b1), .val (.int (7 : Int32)), .val (.int (0 : Int32)), .unset] [])) _
    refine XS.iloadN X1.here hx rfl (hb hby dC0_9) rfl ?_
    show Steps p.tables e below (T1.setTop (mkF m 10 _ [(.int (0 : Int32))])) _
    refine XS.iloadN X1.here hx rfl (hb hby dC0_10) rfl ?_
    show Steps p.tables e below (T1.setTop (mkF m 11 _ [(.int (7 : Int32)), (.int (0 : Int32))])) _
    refine XS.icmpNo X1.here hx rfl (hb hby dC0_11) rfl (tlt (by decide : (0 : Int32) < (7 : Int32))).2.1 ?_
    show Steps p.tables e below (T1.setTop (mkF m 14 _ [])) _
    refine XS.aloadN X1.here hx rfl (hb hby dC0_14) rfl rfl ?_
    show Steps p.tables e below (T1.setTop (mkF m 15 _ [(.ref b1)])) _
    refine XS.iloadN X1.here hx rfl (hb hby dC0_15) rfl ?_
    exact ht
  obtain ⟨cl27, Ar27, q27, S27, Ng27, H27, G27⟩ := id f2
  have hin27 := inb_of (j := (0 : Int32)) S27 ⟨by decide, by decide⟩
  have hat27 : cl27.slots[((0 : Int32)).toNatClampNeg]? = some (.ref x0) := Has.at H27 hin27 rfl
  refine OFin.of (S' := T1.setTop (mkF m 17 #[.val (.int (0 : Int32)), .val (.ref b1), .val (.int (7 : Int32)), .val (.int (0 : Int32)), .unset] [(.ref x0)])) (fun t ht => X1.aaload hx (j := (0 : Int32)) (v := (.ref x0)) (by rw [(rfl : T1.heap = T1.heap)]; exact Ar27.1) (State.isArrayOf_alike hZ.alike Ar27.2.1) rfl Ar27.2.2 hin27 hat27 (g := (mkF m 16 #[.val (.int (0 : Int32)), .val (.ref b1), .val (.int (7 : Int32)), .val (.int (0 : Int32)), .unset] [(.int (0 : Int32)), (.ref b1)])) rfl rfl (hb hby dC0_16) _ ht) ?_
  refine OFin.of (S' := T1.setTop (mkF m 21 #[.val (.int (0 : Int32)), .val (.ref b1), .val (.int (7 : Int32)), .val (.int (0 : Int32)), .val (.ref x0)] [(.ref x0)])) (fun t ht => ?_) ?_
  · refine XS.astore X1.here hx rfl (hb hby dC0_17) rfl rfl (l' := #[.val (.int (0 : Int32)), .val (.ref b1), .val (.int (7 : Int32)), .val (.int (0 : Int32)), .val (.ref x0)]) rfl ?_
    show Steps p.tables e below (T1.setTop (mkF m 19 #[.val (.int (0 : Int32)), .val (.ref b1), .val (.int (7 : Int32)), .val (.int (0 : Int32)), .val (.ref x0)] [])) _
    refine XS.aload X1.here hx rfl (hb hby dC0_19) rfl rfl ?_
    exact ht
  obtain ⟨T28, X28, e28, st28⟩ := getF X1 hx hZ hown (host := "") (Or.inl (hw _ (List.mem_of_getElem? (i := 26) rfl))) Via.refl (rfl : T1.heap = T1.heap) f17 (g := (mkF m 21 #[.val (.int (0 : Int32)), .val (.ref b1), .val (.int (7 : Int32)), .val (.int (0 : Int32)), .val (.ref x0)] [(.ref x0)])) rfl rfl (hb hby dC0_21)
  refine OFin.of (S' := T28.setTop (mkF m 24 #[.val (.int (0 : Int32)), .val (.ref b1), .val (.int (7 : Int32)), .val (.int (0 : Int32)), .val (.ref x0)] [(.int (0 : Int32))])) (fun t ht => st28 t ht) ?_
  refine OFin.of (S' := T28.setTop (mkF m 30 #[.val (.int (0 : Int32)), .val (.ref b1), .val (.int (7 : Int32)), .val (.int (0 : Int32)), .val (.ref x0)] [(.ref x0)])) (fun t ht => ?_) ?_
  · refine XS.iloadN X28.here hx rfl (hb hby dC0_24) rfl ?_
    show Steps p.tables e below (T28.setTop (mkF m 25 _ [(.int (0 : Int32)), (.int (0 : Int32))])) _
    refine XS.icmpNo X28.here hx rfl (hb hby dC0_25) rfl (teq (by decide : (0 : Int32) = (0 : Int32))).2 ?_
    show Steps p.tables e below (T28.setTop (mkF m 28 _ [])) _
    refine XS.aload X28.here hx rfl (hb hby dC0_28) rfl rfl ?_
    exact ht
  exact OFin.retA X28 hx hlk (t := (.object "com/example/querant/querant/exchange/Exchange$Outcome")) rfl rfl hret (hb hby dC0_30) (by decide) (by decide) (by rw [e28]; exact ⟨rfl, N3, K25⟩)
theorem dC1_0 : decode prog_3_method_5_code 0 = .ok (.invokestatic 48, 3) := by decide +kernel
theorem dC1_3 : decode prog_3_method_5_code 3 = .ok (.astore_n 1, 1) := by decide +kernel
theorem dC1_4 : decode prog_3_method_5_code 4 = .ok (.aload_n 1, 1) := by decide +kernel
theorem dC1_5 : decode prog_3_method_5_code 5 = .ok (.arraylength, 1) := by decide +kernel
theorem dC1_6 : decode prog_3_method_5_code 6 = .ok (.istore_n 2, 1) := by decide +kernel
theorem dC1_7 : decode prog_3_method_5_code 7 = .ok (.iconst 0, 1) := by decide +kernel
theorem dC1_8 : decode prog_3_method_5_code 8 = .ok (.istore_n 3, 1) := by decide +kernel
theorem dC1_9 : decode prog_3_method_5_code 9 = .ok (.iload_n 3, 1) := by decide +kernel
theorem dC1_10 : decode prog_3_method_5_code 10 = .ok (.iload_n 2, 1) := by decide +kernel
theorem dC1_11 : decode prog_3_method_5_code 11 = .ok (.if_icmp .ge 26, 3) := by decide +kernel
theorem dC1_14 : decode prog_3_method_5_code 14 = .ok (.aload_n 1, 1) := by decide +kernel
theorem dC1_15 : decode prog_3_method_5_code 15 = .ok (.iload_n 3, 1) := by decide +kernel
theorem dC1_16 : decode prog_3_method_5_code 16 = .ok (.aaload, 1) := by decide +kernel
theorem dC1_17 : decode prog_3_method_5_code 17 = .ok (.astore 4, 2) := by decide +kernel
theorem dC1_19 : decode prog_3_method_5_code 19 = .ok (.aload 4, 2) := by decide +kernel
theorem dC1_21 : decode prog_3_method_5_code 21 = .ok (.getfield 44, 3) := by decide +kernel
theorem dC1_24 : decode prog_3_method_5_code 24 = .ok (.iload_n 0, 1) := by decide +kernel
theorem dC1_25 : decode prog_3_method_5_code 25 = .ok (.if_icmp .ne 6, 3) := by decide +kernel
theorem dC1_28 : decode prog_3_method_5_code 28 = .ok (.aload 4, 2) := by decide +kernel
theorem dC1_30 : decode prog_3_method_5_code 30 = .ok (.areturn, 1) := by decide +kernel
theorem dC1_31 : decode prog_3_method_5_code 31 = .ok (.iinc 3 1, 3) := by decide +kernel
theorem dC1_34 : decode prog_3_method_5_code 34 = .ok (.goto (-25), 3) := by decide +kernel
theorem pnC1 : plainName "com/example/querant/querant/exchange/Exchange$Outcome" = true := by first | (simp [plainName, overriddenIn]; done) | decide +kernel
theorem efC1 (m : MethodId)  : entryFrame m #[(.int (1 : Int32))] 5 = mkF m 0 #[.val (.int (1 : Int32)), .unset, .unset, .unset, .unset] [] := by first | (simp [entryFrame, mkF, argsToLocals, Value.category]; done) | rfl
def QC1 (Z : State) (av : Addr) (k : ClassId) (x0 : Addr) (x1 : Addr) (x2 : Addr) (x3 : Addr) (x4 : Addr) (x5 : Addr) (x6 : Addr) (h0 : Heap) (n0 : Nat) (v : Option Value) (h : Heap) (L : List Loc) : Prop := v = some (.ref x1) ∧ Fr n0 L ∧ Keep h0 h []
set_option maxRecDepth 65536 in
set_option maxHeartbeats 40000000 in
theorem rmC1 (l : Launch) (Z : State) (a0 : Array Value) (hw : ∀ d ∈ tables_1, d.before a0 Z = true) (ws : List Jvm.Cond) (av : Addr) (k : ClassId) (x0 : Addr) (x1 : Addr) (x2 : Addr) (x3 : Addr) (x4 : Addr) (x5 : Addr) (x6 : Addr) (h0 : Heap) (n0 : Nat) (Z0 : n0 ≤ h0.size) (Sv : Sta Z h0 "com/example/querant/querant/exchange/Exchange$Outcome" "$VALUES" "[Lcom/example/querant/querant/exchange/Exchange$Outcome;" (.ref av)) (Ev : Exa Z h0 av "[Lcom/example/querant/querant/exchange/Exchange$Outcome;") (V1 : Arv Z h0 av k (.object "com/example/querant/querant/exchange/Exchange$Outcome") (7 : Int32) [(.ref x0), (.ref x1), (.ref x2), (.ref x3), (.ref x4), (.ref x5), (.ref x6)] .null) (O0 : Fld Z h0 x0 "com/example/querant/querant/exchange/Exchange$Outcome" "code" "I" (.int (0 : Int32))) (O1 : Fld Z h0 x1 "com/example/querant/querant/exchange/Exchange$Outcome" "code" "I" (.int (1 : Int32))) (O2 : Fld Z h0 x2 "com/example/querant/querant/exchange/Exchange$Outcome" "code" "I" (.int (2 : Int32))) (O3 : Fld Z h0 x3 "com/example/querant/querant/exchange/Exchange$Outcome" "code" "I" (.int (3 : Int32))) (O4 : Fld Z h0 x4 "com/example/querant/querant/exchange/Exchange$Outcome" "code" "I" (.int (4 : Int32))) (O5 : Fld Z h0 x5 "com/example/querant/querant/exchange/Exchange$Outcome" "code" "I" (.int (5 : Int32))) (O6 : Fld Z h0 x6 "com/example/querant/querant/exchange/Exchange$Outcome" "code" "I" (.int (6 : Int32))) :
    MetFree l (⟨"com/example/querant/querant/exchange/Exchange$Outcome", "ofCode", "(I)Lcom/example/querant/querant/exchange/Exchange$Outcome;"⟩ : MethodName) (head1 (Jvm.Cond.code (⟨"com/example/querant/querant/exchange/Exchange$Outcome", "ofCode", "(I)Lcom/example/querant/querant/exchange/Exchange$Outcome;"⟩ : MethodName) prog_3_method_5_code 5 (some (.object "com/example/querant/querant/exchange/Exchange$Outcome")) :: ws) ({ frames := 2, cells := 1, slots := 7, locals := 25 } : Room)) (fun a U => a = #[(.int (1 : Int32))] ∧ Z.Warmed39 U.vm ∧ U.heap = h0) (fun _ _ _ _ _ => True) (fun _ U o U' => ∃ v L, o = .returned v ∧ QC1 Z av k x0 x1 x2 x3 x4 x5 x6 h0 n0 v U'.heap L ∧ FrameEnd U o U' L ({ frames := 2, cells := 1, slots := 7, locals := 25 } : Room).cells ({ frames := 2, cells := 1, slots := 7, locals := 25 } : Room).slots) := by
  refine MetFree.of_bodySF (plainFor_of_name pnC1) hisR ?_
  intro p e s m args below meth c s₁ Bd hml0 hP hK
  obtain ⟨rfl, hZ, hh⟩ := hP
  have hx := Bd.exec
  have hby := Bd.bytes
  have hlk := BodyLoose.notSynchronized Bd
  have hret := Bd.returns
  have hml : c.maxLocals = 5 := hml0
  have hown : s.vm.findClass "com/example/querant/querant/exchange/Exchange$Outcome" = some m.cls := findClass_of_methodNamed Bd.named
  have hnm := (name_of_methodNamed Bd.named Bd.method).1
  have X0 : Stand p l e ({ frames := 2, cells := 1, slots := 7, locals := 25 } : Room) s m #[(.int (1 : Int32))] below meth c s₁ [] 0 0 := Stand.of_body Bd
  have e0 : s₁.heap = h0 := by rw [← hh, Bd.state]; rfl
  have N0 := Fr.nil n0
  show OFin p e below (KPost s (QC1 Z av k x0 x1 x2 x3 x4 x5 x6 h0 n0) ({ frames := 2, cells := 1, slots := 7, locals := 25 } : Room).cells ({ frames := 2, cells := 1, slots := 7, locals := 25 } : Room).slots) _
  rw [efC1 m ]
  have K0 : Keep h0 h0 [] := Keep.refl _ _
  obtain ⟨_, _, ⟨T1, L1, k1, n1⟩, -, X1, ⟨Lc1, hQ1, l1, y1, z1⟩, st1⟩ := Jvm.LawKit.callS X0 hx (y := (⟨"com/example/querant/querant/exchange/Exchange$Outcome", "values", "()[Lcom/example/querant/querant/exchange/Exchange$Outcome;"⟩ : MethodName)) hown (mvT hZ (hw _ (List.mem_of_getElem? (i := 4) rfl))) (mvT hZ (hw _ (List.mem_of_getElem? (i := 5) rfl))) (mvT hZ (hw _ (List.mem_of_getElem? (i := 2) rfl))) (mvT hZ (hw _ (List.mem_of_getElem? (i := 6) rfl))) (by decide) (backOf (W := 0) (rmVl l Z _ hw [] av k x0 x1 x2 x3 x4 x5 x6 h0 n0 Z0 Sv Ev V1) hZ (hw _ (List.mem_of_getElem? (i := 6) rfl)) (hw _ (List.mem_of_getElem? (i := 2) rfl)) (by decide) (by decide)) (g := (mkF m 0 #[.val (.int (1 : Int32)), .unset, .unset, .unset, .unset] [])) rfl (by rw [hml]; rfl) (argsL := []) (rest := []) (lenOf pd_0 rfl) rfl (by show 2 * 0 + _ ≤ _; exact Nat.le_of_eq rfl) (hb hby dC1_0) (fun _ _ => ⟨rfl, e0, (by decide : 0 + 1 ≤ _), (by decide : 0 + 7 ≤ _)⟩)
  dsimp only [Pt.U, Pt.locs, Pt.cells, Pt.slots] at X1 l1 y1 z1 st1 hQ1
  subst l1 y1 z1
  obtain ⟨rfl, Nq1, Eq1, f2⟩ := hQ1
  have N3 := Fr.app N0 Nq1
  obtain ⟨b1, gq1⟩ : ∃ z, z = h0.size := ⟨_, rfl⟩
  rw [← gq1] at f2 st1
  have g4 : n0 ≤ b1 := (Nat.le_trans Z0 (Nat.le_of_eq gq1.symm))
  have sz5 : h0.size ≤ b1 := (Nat.le_trans K0.1 (Nat.le_of_eq gq1.symm))
  have ne6 : av ≠ b1 := (Nat.ne_of_lt (Nat.lt_of_lt_of_le Ev.lt (Nat.le_of_eq gq1.symm)))
  have ne7 : x0 ≠ b1 := (Nat.ne_of_lt (Nat.lt_of_lt_of_le O0.lt (Nat.le_of_eq gq1.symm)))
  have ne8 : x1 ≠ b1 := (Nat.ne_of_lt (Nat.lt_of_lt_of_le O1.lt (Nat.le_of_eq gq1.symm)))
  have ne9 : x2 ≠ b1 := (Nat.ne_of_lt (Nat.lt_of_lt_of_le O2.lt (Nat.le_of_eq gq1.symm)))
  have ne10 : x3 ≠ b1 := (Nat.ne_of_lt (Nat.lt_of_lt_of_le O3.lt (Nat.le_of_eq gq1.symm)))
  have ne11 : x4 ≠ b1 := (Nat.ne_of_lt (Nat.lt_of_lt_of_le O4.lt (Nat.le_of_eq gq1.symm)))
  have ne12 : x5 ≠ b1 := (Nat.ne_of_lt (Nat.lt_of_lt_of_le O5.lt (Nat.le_of_eq gq1.symm)))
  have ne13 : x6 ≠ b1 := (Nat.ne_of_lt (Nat.lt_of_lt_of_le O6.lt (Nat.le_of_eq gq1.symm)))
  have f14 := Sv.ext Eq1
  have f15 := Ev.ext Eq1
  have f16 := V1.ext Eq1
  have f17 := O0.ext Eq1
  have f18 := O1.ext Eq1
  have f19 := O2.ext Eq1
  have f20 := O3.ext Eq1
  have f21 := O4.ext Eq1
  have f22 := O5.ext Eq1
  have f23 := O6.ext Eq1
  have Z24 : n0 ≤ T1.heap.size := (Nat.le_trans Z0 Eq1.1)
  have K25 : Keep h0 T1.heap [] := (K0.ext Eq1)
  refine OFin.of (S' := T1.setTop (mkF m 3 #[.val (.int (1 : Int32)), .unset, .unset, .unset, .unset] [(.ref b1)])) (fun t ht => st1 t ht) ?_
  refine OFin.of (S' := T1.setTop (mkF m 5 #[.val (.int (1 : Int32)), .val (.ref b1), .unset, .unset, .unset] [(.ref b1)])) (fun t ht => ?_) ?_
  · refine XS.astoreN X1.here hx rfl (hb hby dC1_3) rfl rfl (l' := #[.val (.int (1 : Int32)), .val (.ref b1), .unset, .unset, .unset]) rfl ?_
    show Steps p.tables e below (T1.setTop (mkF m 4 #[.val (.int (1 : Int32)), .val (.ref b1), .unset, .unset, .unset] [])) _
    refine XS.aloadN X1.here hx rfl (hb hby dC1_4) rfl rfl ?_
    exact ht
  obtain ⟨cl26, Ar26, q26, S26, Ng26, H26, G26⟩ := id f2
  refine OFin.of (S' := T1.setTop (mkF m 6 #[.val (.int (1 : Int32)), .val (.ref b1), .unset, .unset, .unset] [(.int (7 : Int32))])) (fun t ht => own_alen X1 hx hZ (rfl : T1.heap = T1.heap) Ar26 S26 Ng26 (g := (mkF m 5 #[.val (.int (1 : Int32)), .val (.ref b1), .unset, .unset, .unset] [(.ref b1)])) rfl rfl (hb hby dC1_5) ht) ?_
  refine OFin.of (S' := T1.setTop (mkF m 16 #[.val (.int (1 : Int32)), .val (.ref b1), .val (.int (7 : Int32)), .val (.int (0 : Int32)), .unset] [(.int (0 : Int32)), (.ref b1)])) (fun t ht => ?_) ?_
  · refine XS.istoreN X1.here hx rfl (hb hby dC1_6) rfl (l' := #[.val (.int (1 : Int32)), .val (.ref b1), .val (.int (7 : Int32)), .unset, .unset]) rfl ?_
    show Steps p.tables e below (T1.setTop (mkF m 7 #[.val (.int (1 : Int32)), .val (.ref b1), .val (.int (7 : Int32)), .unset, .unset] [])) _
    refine XS.iconst X1.here hx rfl (hb hby dC1_7) ?_
    show Steps p.tables e below (T1.setTop (mkF m 8 _ [(.int (0 : Int32))])) _
    refine XS.istoreN X1.here hx rfl (hb hby dC1_8) rfl (l' := #[.val (.int (1 : Int32)), .val (.ref b1), .val (.int (7 : Int32)), .val (.int (0 : Int32)), .unset]) rfl ?_
    show Steps p.tables e below (T1.setTop (mkF m 9 #[.val (.int (1 : Int32)), .val (.ref b1), .val (.int (7 : Int32)), .val (.int (0 : Int32)), .unset] [])) _
    refine XS.iloadN X1.here hx rfl (hb hby dC1_9) rfl ?_
    show Steps p.tables e below (T1.setTop (mkF m 10 _ [(.int (0 : Int32))])) _
    refine XS.iloadN X1.here hx rfl (hb hby dC1_10) rfl ?_
    show Steps p.tables e below (T1.setTop (mkF m 11 _ [(.int (7 : Int32)), (.int (0 : Int32))])) _
    refine XS.icmpNo X1.here hx rfl (hb hby dC1_11) rfl (tlt (by decide : (0 : Int32) < (7 : Int32))).2.1 ?_
    show Steps p.tables e below (T1.setTop (mkF m 14 _ [])) _
    refine XS.aloadN X1.here hx rfl (hb hby dC1_14) rfl rfl ?_
    show Steps p.tables e below (T1.setTop (mkF m 15 _ [(.ref b1)])) _
    refine XS.iloadN X1.here hx rfl (hb hby dC1_15) rfl ?_
    exact ht
  obtain ⟨cl27, Ar27, q27, S27, Ng27, H27, G27⟩ := id f2
  have hin27 := inb_of (j := (0 : Int32)) S27 ⟨by decide, by decide⟩
  have hat27 : cl27.slots[((0 : Int32)).toNatClampNeg]? = some (.ref x0) := Has.at H27 hin27 rfl
  refine OFin.of (S' := T1.setTop (mkF m 17 #[.val (.int (1 : Int32)), .val (.ref b1), .val (.int (7 : Int32)), .val (.int (0 : Int32)), .unset] [(.ref x0)])) (fun t ht => X1.aaload hx (j := (0 : Int32)) (v := (.ref x0)) (by rw [(rfl : T1.heap = T1.heap)]; exact Ar27.1) (State.isArrayOf_alike hZ.alike Ar27.2.1) rfl Ar27.2.2 hin27 hat27 (g := (mkF m 16 #[.val (.int (1 : Int32)), .val (.ref b1), .val (.int (7 : Int32)), .val (.int (0 : Int32)), .unset] [(.int (0 : Int32)), (.ref b1)])) rfl rfl (hb hby dC1_16) _ ht) ?_
  refine OFin.of (S' := T1.setTop (mkF m 21 #[.val (.int (1 : Int32)), .val (.ref b1), .val (.int (7 : Int32)), .val (.int (0 : Int32)), .val (.ref x0)] [(.ref x0)])) (fun t ht => ?_) ?_
  · refine XS.astore X1.here hx rfl (hb hby dC1_17) rfl rfl (l' := #[.val (.int (1 : Int32)), .val (.ref b1), .val (.int (7 : Int32)), .val (.int (0 : Int32)), .val (.ref x0)]) rfl ?_
    show Steps p.tables e below (T1.setTop (mkF m 19 #[.val (.int (1 : Int32)), .val (.ref b1), .val (.int (7 : Int32)), .val (.int (0 : Int32)), .val (.ref x0)] [])) _
    refine XS.aload X1.here hx rfl (hb hby dC1_19) rfl rfl ?_
    exact ht
  obtain ⟨T28, X28, e28, st28⟩ := getF X1 hx hZ hown (host := "") (Or.inl (hw _ (List.mem_of_getElem? (i := 26) rfl))) Via.refl (rfl : T1.heap = T1.heap) f17 (g := (mkF m 21 #[.val (.int (1 : Int32)), .val (.ref b1), .val (.int (7 : Int32)), .val (.int (0 : Int32)), .val (.ref x0)] [(.ref x0)])) rfl rfl (hb hby dC1_21)
  refine OFin.of (S' := T28.setTop (mkF m 24 #[.val (.int (1 : Int32)), .val (.ref b1), .val (.int (7 : Int32)), .val (.int (0 : Int32)), .val (.ref x0)] [(.int (0 : Int32))])) (fun t ht => st28 t ht) ?_
  refine OFin.of (S' := T28.setTop (mkF m 16 #[.val (.int (1 : Int32)), .val (.ref b1), .val (.int (7 : Int32)), .val (.int (1 : Int32)), .val (.ref x0)] [(.int (1 : Int32)), (.ref b1)])) (fun t ht => ?_) ?_
  · refine XS.iloadN X28.here hx rfl (hb hby dC1_24) rfl ?_
    show Steps p.tables e below (T28.setTop (mkF m 25 _ [(.int (1 : Int32)), (.int (0 : Int32))])) _
    refine XS.icmpYes X28.here hx rfl (pc0 := 25) (pc' := 31) rfl (hb hby dC1_25) rfl (feq (by decide : ¬ ((0 : Int32) = (1 : Int32)))).2 (by decide) (by decide) ?_
    show Steps p.tables e below (T28.setTop (mkF m 31 _ [])) _
    refine XS.iinc X28.here hx rfl (hb hby dC1_31) rfl (l' := #[.val (.int (1 : Int32)), .val (.ref b1), .val (.int (7 : Int32)), .val (.int (1 : Int32)), .val (.ref x0)]) rfl ?_
    show Steps p.tables e below (T28.setTop (mkF m 34 #[.val (.int (1 : Int32)), .val (.ref b1), .val (.int (7 : Int32)), .val (.int (1 : Int32)), .val (.ref x0)] [])) _
    refine XS.goto X28.here hx rfl (pc0 := 34) (pc' := 9) rfl (hb hby dC1_34) (by decide) (by decide) ?_
    show Steps p.tables e below (T28.setTop (mkF m 9 _ [])) _
    refine XS.iloadN X28.here hx rfl (hb hby dC1_9) rfl ?_
    show Steps p.tables e below (T28.setTop (mkF m 10 _ [(.int (1 : Int32))])) _
    refine XS.iloadN X28.here hx rfl (hb hby dC1_10) rfl ?_
    show Steps p.tables e below (T28.setTop (mkF m 11 _ [(.int (7 : Int32)), (.int (1 : Int32))])) _
    refine XS.icmpNo X28.here hx rfl (hb hby dC1_11) rfl (tlt (by decide : (1 : Int32) < (7 : Int32))).2.1 ?_
    show Steps p.tables e below (T28.setTop (mkF m 14 _ [])) _
    refine XS.aloadN X28.here hx rfl (hb hby dC1_14) rfl rfl ?_
    show Steps p.tables e below (T28.setTop (mkF m 15 _ [(.ref b1)])) _
    refine XS.iloadN X28.here hx rfl (hb hby dC1_15) rfl ?_
    exact ht
  obtain ⟨cl29, Ar29, q29, S29, Ng29, H29, G29⟩ := id f2
  have hin29 := inb_of (j := (1 : Int32)) S29 ⟨by decide, by decide⟩
  have hat29 : cl29.slots[((1 : Int32)).toNatClampNeg]? = some (.ref x1) := Has.at H29 hin29 rfl
  refine OFin.of (S' := T28.setTop (mkF m 17 #[.val (.int (1 : Int32)), .val (.ref b1), .val (.int (7 : Int32)), .val (.int (1 : Int32)), .val (.ref x0)] [(.ref x1)])) (fun t ht => X28.aaload hx (j := (1 : Int32)) (v := (.ref x1)) (by rw [e28]; exact Ar29.1) (State.isArrayOf_alike hZ.alike Ar29.2.1) rfl Ar29.2.2 hin29 hat29 (g := (mkF m 16 #[.val (.int (1 : Int32)), .val (.ref b1), .val (.int (7 : Int32)), .val (.int (1 : Int32)), .val (.ref x0)] [(.int (1 : Int32)), (.ref b1)])) rfl rfl (hb hby dC1_16) _ ht) ?_
  refine OFin.of (S' := T28.setTop (mkF m 21 #[.val (.int (1 : Int32)), .val (.ref b1), .val (.int (7 : Int32)), .val (.int (1 : Int32)), .val (.ref x1)] [(.ref x1)])) (fun t ht => ?_) ?_
  · refine XS.astore X28.here hx rfl (hb hby dC1_17) rfl rfl (l' := #[.val (.int (1 : Int32)), .val (.ref b1), .val (.int (7 : Int32)), .val (.int (1 : Int32)), .val (.ref x1)]) rfl ?_
    show Steps p.tables e below (T28.setTop (mkF m 19 #[.val (.int (1 : Int32)), .val (.ref b1), .val (.int (7 : Int32)), .val (.int (1 : Int32)), .val (.ref x1)] [])) _
    refine XS.aload X28.here hx rfl (hb hby dC1_19) rfl rfl ?_
    exact ht
  obtain ⟨T30, X30, e30, st30⟩ := getF X28 hx hZ hown (host := "") (Or.inl (hw _ (List.mem_of_getElem? (i := 26) rfl))) Via.refl e28 f18 (g := (mkF m 21 #[.val (.int (1 : Int32)), .val (.ref b1), .val (.int (7 : Int32)), .val (.int (1 : Int32)), .val (.ref x1)] [(.ref x1)])) rfl rfl (hb hby dC1_21)
  refine OFin.of (S' := T30.setTop (mkF m 24 #[.val (.int (1 : Int32)), .val (.ref b1), .val (.int (7 : Int32)), .val (.int (1 : Int32)), .val (.ref x1)] [(.int (1 : Int32))])) (fun t ht => st30 t ht) ?_
  refine OFin.of (S' := T30.setTop (mkF m 30 #[.val (.int (1 : Int32)), .val (.ref b1), .val (.int (7 : Int32)), .val (.int (1 : Int32)), .val (.ref x1)] [(.ref x1)])) (fun t ht => ?_) ?_
  · refine XS.iloadN X30.here hx rfl (hb hby dC1_24) rfl ?_
    show Steps p.tables e below (T30.setTop (mkF m 25 _ [(.int (1 : Int32)), (.int (1 : Int32))])) _
    refine XS.icmpNo X30.here hx rfl (hb hby dC1_25) rfl (teq (by decide : (1 : Int32) = (1 : Int32))).2 ?_
    show Steps p.tables e below (T30.setTop (mkF m 28 _ [])) _
    refine XS.aload X30.here hx rfl (hb hby dC1_28) rfl rfl ?_
    exact ht
  exact OFin.retA X30 hx hlk (t := (.object "com/example/querant/querant/exchange/Exchange$Outcome")) rfl rfl hret (hb hby dC1_30) (by decide) (by decide) (by rw [e30]; exact ⟨rfl, N3, K25⟩)
theorem dC2_0 : decode prog_3_method_5_code 0 = .ok (.invokestatic 48, 3) := by decide +kernel
theorem dC2_3 : decode prog_3_method_5_code 3 = .ok (.astore_n 1, 1) := by decide +kernel
theorem dC2_4 : decode prog_3_method_5_code 4 = .ok (.aload_n 1, 1) := by decide +kernel
theorem dC2_5 : decode prog_3_method_5_code 5 = .ok (.arraylength, 1) := by decide +kernel
theorem dC2_6 : decode prog_3_method_5_code 6 = .ok (.istore_n 2, 1) := by decide +kernel
theorem dC2_7 : decode prog_3_method_5_code 7 = .ok (.iconst 0, 1) := by decide +kernel
theorem dC2_8 : decode prog_3_method_5_code 8 = .ok (.istore_n 3, 1) := by decide +kernel
theorem dC2_9 : decode prog_3_method_5_code 9 = .ok (.iload_n 3, 1) := by decide +kernel
theorem dC2_10 : decode prog_3_method_5_code 10 = .ok (.iload_n 2, 1) := by decide +kernel
theorem dC2_11 : decode prog_3_method_5_code 11 = .ok (.if_icmp .ge 26, 3) := by decide +kernel
theorem dC2_14 : decode prog_3_method_5_code 14 = .ok (.aload_n 1, 1) := by decide +kernel
theorem dC2_15 : decode prog_3_method_5_code 15 = .ok (.iload_n 3, 1) := by decide +kernel
theorem dC2_16 : decode prog_3_method_5_code 16 = .ok (.aaload, 1) := by decide +kernel
theorem dC2_17 : decode prog_3_method_5_code 17 = .ok (.astore 4, 2) := by decide +kernel
theorem dC2_19 : decode prog_3_method_5_code 19 = .ok (.aload 4, 2) := by decide +kernel
theorem dC2_21 : decode prog_3_method_5_code 21 = .ok (.getfield 44, 3) := by decide +kernel
theorem dC2_24 : decode prog_3_method_5_code 24 = .ok (.iload_n 0, 1) := by decide +kernel
theorem dC2_25 : decode prog_3_method_5_code 25 = .ok (.if_icmp .ne 6, 3) := by decide +kernel
theorem dC2_28 : decode prog_3_method_5_code 28 = .ok (.aload 4, 2) := by decide +kernel
theorem dC2_30 : decode prog_3_method_5_code 30 = .ok (.areturn, 1) := by decide +kernel
theorem dC2_31 : decode prog_3_method_5_code 31 = .ok (.iinc 3 1, 3) := by decide +kernel
theorem dC2_34 : decode prog_3_method_5_code 34 = .ok (.goto (-25), 3) := by decide +kernel
theorem pnC2 : plainName "com/example/querant/querant/exchange/Exchange$Outcome" = true := by first | (simp [plainName, overriddenIn]; done) | decide +kernel
theorem efC2 (m : MethodId)  : entryFrame m #[(.int (2 : Int32))] 5 = mkF m 0 #[.val (.int (2 : Int32)), .unset, .unset, .unset, .unset] [] := by first | (simp [entryFrame, mkF, argsToLocals, Value.category]; done) | rfl
def QC2 (Z : State) (av : Addr) (k : ClassId) (x0 : Addr) (x1 : Addr) (x2 : Addr) (x3 : Addr) (x4 : Addr) (x5 : Addr) (x6 : Addr) (h0 : Heap) (n0 : Nat) (v : Option Value) (h : Heap) (L : List Loc) : Prop := v = some (.ref x2) ∧ Fr n0 L ∧ Keep h0 h []
set_option maxRecDepth 65536 in
set_option maxHeartbeats 40000000 in
theorem rmC2 (l : Launch) (Z : State) (a0 : Array Value) (hw : ∀ d ∈ tables_1, d.before a0 Z = true) (ws : List Jvm.Cond) (av : Addr) (k : ClassId) (x0 : Addr) (x1 : Addr) (x2 : Addr) (x3 : Addr) (x4 : Addr) (x5 : Addr) (x6 : Addr) (h0 : Heap) (n0 : Nat) (Z0 : n0 ≤ h0.size) (Sv : Sta Z h0 "com/example/querant/querant/exchange/Exchange$Outcome" "$VALUES" "[Lcom/example/querant/querant/exchange/Exchange$Outcome;" (.ref av)) (Ev : Exa Z h0 av "[Lcom/example/querant/querant/exchange/Exchange$Outcome;") (V1 : Arv Z h0 av k (.object "com/example/querant/querant/exchange/Exchange$Outcome") (7 : Int32) [(.ref x0), (.ref x1), (.ref x2), (.ref x3), (.ref x4), (.ref x5), (.ref x6)] .null) (O0 : Fld Z h0 x0 "com/example/querant/querant/exchange/Exchange$Outcome" "code" "I" (.int (0 : Int32))) (O1 : Fld Z h0 x1 "com/example/querant/querant/exchange/Exchange$Outcome" "code" "I" (.int (1 : Int32))) (O2 : Fld Z h0 x2 "com/example/querant/querant/exchange/Exchange$Outcome" "code" "I" (.int (2 : Int32))) (O3 : Fld Z h0 x3 "com/example/querant/querant/exchange/Exchange$Outcome" "code" "I" (.int (3 : Int32))) (O4 : Fld Z h0 x4 "com/example/querant/querant/exchange/Exchange$Outcome" "code" "I" (.int (4 : Int32))) (O5 : Fld Z h0 x5 "com/example/querant/querant/exchange/Exchange$Outcome" "code" "I" (.int (5 : Int32))) (O6 : Fld Z h0 x6 "com/example/querant/querant/exchange/Exchange$Outcome" "code" "I" (.int (6 : Int32))) :
    MetFree l (⟨"com/example/querant/querant/exchange/Exchange$Outcome", "ofCode", "(I)Lcom/example/querant/querant/exchange/Exchange$Outcome;"⟩ : MethodName) (head1 (Jvm.Cond.code (⟨"com/example/querant/querant/exchange/Exchange$Outcome", "ofCode", "(I)Lcom/example/querant/querant/exchange/Exchange$Outcome;"⟩ : MethodName) prog_3_method_5_code 5 (some (.object "com/example/querant/querant/exchange/Exchange$Outcome")) :: ws) ({ frames := 2, cells := 1, slots := 7, locals := 25 } : Room)) (fun a U => a = #[(.int (2 : Int32))] ∧ Z.Warmed39 U.vm ∧ U.heap = h0) (fun _ _ _ _ _ => True) (fun _ U o U' => ∃ v L, o = .returned v ∧ QC2 Z av k x0 x1 x2 x3 x4 x5 x6 h0 n0 v U'.heap L ∧ FrameEnd U o U' L ({ frames := 2, cells := 1, slots := 7, locals := 25 } : Room).cells ({ frames := 2, cells := 1, slots := 7, locals := 25 } : Room).slots) := by
  refine MetFree.of_bodySF (plainFor_of_name pnC2) hisR ?_
  intro p e s m args below meth c s₁ Bd hml0 hP hK
  obtain ⟨rfl, hZ, hh⟩ := hP
  have hx := Bd.exec
  have hby := Bd.bytes
  have hlk := BodyLoose.notSynchronized Bd
  have hret := Bd.returns
  have hml : c.maxLocals = 5 := hml0
  have hown : s.vm.findClass "com/example/querant/querant/exchange/Exchange$Outcome" = some m.cls := findClass_of_methodNamed Bd.named
  have hnm := (name_of_methodNamed Bd.named Bd.method).1
  have X0 : Stand p l e ({ frames := 2, cells := 1, slots := 7, locals := 25 } : Room) s m #[(.int (2 : Int32))] below meth c s₁ [] 0 0 := Stand.of_body Bd
  have e0 : s₁.heap = h0 := by rw [← hh, Bd.state]; rfl
  have N0 := Fr.nil n0
  show OFin p e below (KPost s (QC2 Z av k x0 x1 x2 x3 x4 x5 x6 h0 n0) ({ frames := 2, cells := 1, slots := 7, locals := 25 } : Room).cells ({ frames := 2, cells := 1, slots := 7, locals := 25 } : Room).slots) _
  rw [efC2 m ]
  have K0 : Keep h0 h0 [] := Keep.refl _ _
  obtain ⟨_, _, ⟨T1, L1, k1, n1⟩, -, X1, ⟨Lc1, hQ1, l1, y1, z1⟩, st1⟩ := Jvm.LawKit.callS X0 hx (y := (⟨"com/example/querant/querant/exchange/Exchange$Outcome", "values", "()[Lcom/example/querant/querant/exchange/Exchange$Outcome;"⟩ : MethodName)) hown (mvT hZ (hw _ (List.mem_of_getElem? (i := 4) rfl))) (mvT hZ (hw _ (List.mem_of_getElem? (i := 5) rfl))) (mvT hZ (hw _ (List.mem_of_getElem? (i := 2) rfl))) (mvT hZ (hw _ (List.mem_of_getElem? (i := 6) rfl))) (by decide) (backOf (W := 0) (rmVl l Z _ hw [] av k x0 x1 x2 x3 x4 x5 x6 h0 n0 Z0 Sv Ev V1) hZ (hw _ (List.mem_of_getElem? (i := 6) rfl)) (hw _ (List.mem_of_getElem? (i := 2) rfl)) (by decide) (by decide)) (g := (mkF m 0 #[.val (.int (2 : Int32)), .unset, .unset, .unset, .unset] [])) rfl (by rw [hml]; rfl) (argsL := []) (rest := []) (lenOf pd_0 rfl) rfl (by show 2 * 0 + _ ≤ _; exact Nat.le_of_eq rfl) (hb hby dC2_0) (fun _ _ => ⟨rfl, e0, (by decide : 0 + 1 ≤ _), (by decide : 0 + 7 ≤ _)⟩)
  dsimp only [Pt.U, Pt.locs, Pt.cells, Pt.slots] at X1 l1 y1 z1 st1 hQ1
  subst l1 y1 z1
  obtain ⟨rfl, Nq1, Eq1, f2⟩ := hQ1
  have N3 := Fr.app N0 Nq1
  obtain ⟨b1, gq1⟩ : ∃ z, z = h0.size := ⟨_, rfl⟩
  rw [← gq1] at f2 st1
  have g4 : n0 ≤ b1 := (Nat.le_trans Z0 (Nat.le_of_eq gq1.symm))
  have sz5 : h0.size ≤ b1 := (Nat.le_trans K0.1 (Nat.le_of_eq gq1.symm))
  have ne6 : av ≠ b1 := (Nat.ne_of_lt (Nat.lt_of_lt_of_le Ev.lt (Nat.le_of_eq gq1.symm)))
  have ne7 : x0 ≠ b1 := (Nat.ne_of_lt (Nat.lt_of_lt_of_le O0.lt (Nat.le_of_eq gq1.symm)))
  have ne8 : x1 ≠ b1 := (Nat.ne_of_lt (Nat.lt_of_lt_of_le O1.lt (Nat.le_of_eq gq1.symm)))
  have ne9 : x2 ≠ b1 := (Nat.ne_of_lt (Nat.lt_of_lt_of_le O2.lt (Nat.le_of_eq gq1.symm)))
  have ne10 : x3 ≠ b1 := (Nat.ne_of_lt (Nat.lt_of_lt_of_le O3.lt (Nat.le_of_eq gq1.symm)))
  have ne11 : x4 ≠ b1 := (Nat.ne_of_lt (Nat.lt_of_lt_of_le O4.lt (Nat.le_of_eq gq1.symm)))
  have ne12 : x5 ≠ b1 := (Nat.ne_of_lt (Nat.lt_of_lt_of_le O5.lt (Nat.le_of_eq gq1.symm)))
  have ne13 : x6 ≠ b1 := (Nat.ne_of_lt (Nat.lt_of_lt_of_le O6.lt (Nat.le_of_eq gq1.symm)))
  have f14 := Sv.ext Eq1
  have f15 := Ev.ext Eq1
  have f16 := V1.ext Eq1
  have f17 := O0.ext Eq1
  have f18 := O1.ext Eq1
  have f19 := O2.ext Eq1
  have f20 := O3.ext Eq1
  have f21 := O4.ext Eq1
  have f22 := O5.ext Eq1
  have f23 := O6.ext Eq1
  have Z24 : n0 ≤ T1.heap.size := (Nat.le_trans Z0 Eq1.1)
  have K25 : Keep h0 T1.heap [] := (K0.ext Eq1)
  refine OFin.of (S' := T1.setTop (mkF m 3 #[.val (.int (2 : Int32)), .unset, .unset, .unset, .unset] [(.ref b1)])) (fun t ht => st1 t ht) ?_
  refine OFin.of (S' := T1.setTop (mkF m 5 #[.val (.int (2 : Int32)), .val (.ref b1), .unset, .unset, .unset] [(.ref b1)])) (fun t ht => ?_) ?_
  · refine XS.astoreN X1.here hx rfl (hb hby dC2_3) rfl rfl (l' := #[.val (.int (2 : Int32)), .val (.ref b1), .unset, .unset, .unset]) rfl ?_
    show Steps p.tables e below (T1.setTop (mkF m 4 #[.val (.int (2 : Int32)), .val (.ref b1), .unset, .unset, .unset] [])) _
    refine XS.aloadN X1.here hx rfl (hb hby dC2_4) rfl rfl ?_
    exact ht
  obtain ⟨cl26, Ar26, q26, S26, Ng26, H26, G26⟩ := id f2
  refine OFin.of (S' := T1.setTop (mkF m 6 #[.val (.int (2 : Int32)), .val (.ref b1), .unset, .unset, .unset] [(.int (7 : Int32))])) (fun t ht => own_alen X1 hx hZ (rfl : T1.heap = T1.heap) Ar26 S26 Ng26 (g := (mkF m 5 #[.val (.int (2 : Int32)), .val (.ref b1), .unset, .unset, .unset] [(.ref b1)])) rfl rfl (hb hby dC2_5) ht) ?_
  refine OFin.of (S' := T1.setTop (mkF m 16 #[.val (.int (2 : Int32)), .val (.ref b1), .val (.int (7 : Int32)), .val (.int (0 : Int32)), .unset] [(.int (0 : Int32)), (.ref b1)])) (fun t ht => ?_) ?_
  · refine XS.istoreN X1.here hx rfl (hb hby dC2_6) rfl (l' := #[.val (.int (2 : Int32)), .val (.ref b1), .val (.int (7 : Int32)), .unset, .unset]) rfl ?_
    show Steps p.tables e below (T1.setTop (mkF m 7 #[.val (.int (2 : Int32)), .val (.ref b1), .val (.int (7 : Int32)), .unset, .unset] [])) _
    refine XS.iconst X1.here hx rfl (hb hby dC2_7) ?_
    show Steps p.tables e below (T1.setTop (mkF m 8 _ [(.int (0 : Int32))])) _
    refine XS.istoreN X1.here hx rfl (hb hby dC2_8) rfl (l' := #[.val (.int (2 : Int32)), .val (.ref b1), .val (.int (7 : Int32)), .val (.int (0 : Int32)), .unset]) rfl ?_
    show Steps p.tables e below (T1.setTop (mkF m 9 #[.val (.int (2 : Int32)), .val (.ref b1), .val (.int (7 : Int32)), .val (.int (0 : Int32)), .unset] [])) _
    refine XS.iloadN X1.here hx rfl (hb hby dC2_9) rfl ?_
    show Steps p.tables e below (T1.setTop (mkF m 10 _ [(.int (0 : Int32))])) _
    refine XS.iloadN X1.here hx rfl (hb hby dC2_10) rfl ?_
    show Steps p.tables e below (T1.setTop (mkF m 11 _ [(.int (7 : Int32)), (.int (0 : Int32))])) _
    refine XS.icmpNo X1.here hx rfl (hb hby dC2_11) rfl (tlt (by decide : (0 : Int32) < (7 : Int32))).2.1 ?_
    show Steps p.tables e below (T1.setTop (mkF m 14 _ [])) _
    refine XS.aloadN X1.here hx rfl (hb hby dC2_14) rfl rfl ?_
    show Steps p.tables e below (T1.setTop (mkF m 15 _ [(.ref b1)])) _
    refine XS.iloadN X1.here hx rfl (hb hby dC2_15) rfl ?_
    exact ht
  obtain ⟨cl27, Ar27, q27, S27, Ng27, H27, G27⟩ := id f2
  have hin27 := inb_of (j := (0 : Int32)) S27 ⟨by decide, by decide⟩
  have hat27 : cl27.slots[((0 : Int32)).toNatClampNeg]? = some (.ref x0) := Has.at H27 hin27 rfl
  refine OFin.of (S' := T1.setTop (mkF m 17 #[.val (.int (2 : Int32)), .val (.ref b1), .val (.int (7 : Int32)), .val (.int (0 : Int32)), .unset] [(.ref x0)])) (fun t ht => X1.aaload hx (j := (0 : Int32)) (v := (.ref x0)) (by rw [(rfl : T1.heap = T1.heap)]; exact Ar27.1) (State.isArrayOf_alike hZ.alike Ar27.2.1) rfl Ar27.2.2 hin27 hat27 (g := (mkF m 16 #[.val (.int (2 : Int32)), .val (.ref b1), .val (.int (7 : Int32)), .val (.int (0 : Int32)), .unset] [(.int (0 : Int32)), (.ref b1)])) rfl rfl (hb hby dC2_16) _ ht) ?_
  refine OFin.of (S' := T1.setTop (mkF m 21 #[.val (.int (2 : Int32)), .val (.ref b1), .val (.int (7 : Int32)), .val (.int (0 : Int32)), .val (.ref x0)] [(.ref x0)])) (fun t ht => ?_) ?_
  · refine XS.astore X1.here hx rfl (hb hby dC2_17) rfl rfl (l' := #[.val (.int (2 : Int32)), .val (.ref b1), .val (.int (7 : Int32)), .val (.int (0 : Int32)), .val (.ref x0)]) rfl ?_
    show Steps p.tables e below (T1.setTop (mkF m 19 #[.val (.int (2 : Int32)), .val (.ref b1), .val (.int (7 : Int32)), .val (.int (0 : Int32)), .val (.ref x0)] [])) _
    refine XS.aload X1.here hx rfl (hb hby dC2_19) rfl rfl ?_
    exact ht
  obtain ⟨T28, X28, e28, st28⟩ := getF X1 hx hZ hown (host := "") (Or.inl (hw _ (List.mem_of_getElem? (i := 26) rfl))) Via.refl (rfl : T1.heap = T1.heap) f17 (g := (mkF m 21 #[.val (.int (2 : Int32)), .val (.ref b1), .val (.int (7 : Int32)), .val (.int (0 : Int32)), .val (.ref x0)] [(.ref x0)])) rfl rfl (hb hby dC2_21)
  refine OFin.of (S' := T28.setTop (mkF m 24 #[.val (.int (2 : Int32)), .val (.ref b1), .val (.int (7 : Int32)), .val (.int (0 : Int32)), .val (.ref x0)] [(.int (0 : Int32))])) (fun t ht => st28 t ht) ?_
  refine OFin.of (S' := T28.setTop (mkF m 16 #[.val (.int (2 : Int32)), .val (.ref b1), .val (.int (7 : Int32)), .val (.int (1 : Int32)), .val (.ref x0)] [(.int (1 : Int32)), (.ref b1)])) (fun t ht => ?_) ?_
  · refine XS.iloadN X28.here hx rfl (hb hby dC2_24) rfl ?_
    show Steps p.tables e below (T28.setTop (mkF m 25 _ [(.int (2 : Int32)), (.int (0 : Int32))])) _
    refine XS.icmpYes X28.here hx rfl (pc0 := 25) (pc' := 31) rfl (hb hby dC2_25) rfl (feq (by decide : ¬ ((0 : Int32) = (2 : Int32)))).2 (by decide) (by decide) ?_
    show Steps p.tables e below (T28.setTop (mkF m 31 _ [])) _
    refine XS.iinc X28.here hx rfl (hb hby dC2_31) rfl (l' := #[.val (.int (2 : Int32)), .val (.ref b1), .val (.int (7 : Int32)), .val (.int (1 : Int32)), .val (.ref x0)]) rfl ?_
    show Steps p.tables e below (T28.setTop (mkF m 34 #[.val (.int (2 : Int32)), .val (.ref b1), .val (.int (7 : Int32)), .val (.int (1 : Int32)), .val (.ref x0)] [])) _
    refine XS.goto X28.here hx rfl (pc0 := 34) (pc' := 9) rfl (hb hby dC2_34) (by decide) (by decide) ?_
    show Steps p.tables e below (T28.setTop (mkF m 9 _ [])) _
    refine XS.iloadN X28.here hx rfl (hb hby dC2_9) rfl ?_
    show Steps p.tables e below (T28.setTop (mkF m 10 _ [(.int (1 : Int32))])) _
    refine XS.iloadN X28.here hx rfl (hb hby dC2_10) rfl ?_
    show Steps p.tables e below (T28.setTop (mkF m 11 _ [(.int (7 : Int32)), (.int (1 : Int32))])) _
    refine XS.icmpNo X28.here hx rfl (hb hby dC2_11) rfl (tlt (by decide : (1 : Int32) < (7 : Int32))).2.1 ?_
    show Steps p.tables e below (T28.setTop (mkF m 14 _ [])) _
    refine XS.aloadN X28.here hx rfl (hb hby dC2_14) rfl rfl ?_
    show Steps p.tables e below (T28.setTop (mkF m 15 _ [(.ref b1)])) _
    refine XS.iloadN X28.here hx rfl (hb hby dC2_15) rfl ?_
    exact ht
  obtain ⟨cl29, Ar29, q29, S29, Ng29, H29, G29⟩ := id f2
  have hin29 := inb_of (j := (1 : Int32)) S29 ⟨by decide, by decide⟩
  have hat29 : cl29.slots[((1 : Int32)).toNatClampNeg]? = some (.ref x1) := Has.at H29 hin29 rfl
  refine OFin.of (S' := T28.setTop (mkF m 17 #[.val (.int (2 : Int32)), .val (.ref b1), .val (.int (7 : Int32)), .val (.int (1 : Int32)), .val (.ref x0)] [(.ref x1)])) (fun t ht => X28.aaload hx (j := (1 : Int32)) (v := (.ref x1)) (by rw [e28]; exact Ar29.1) (State.isArrayOf_alike hZ.alike Ar29.2.1) rfl Ar29.2.2 hin29 hat29 (g := (mkF m 16 #[.val (.int (2 : Int32)), .val (.ref b1), .val (.int (7 : Int32)), .val (.int (1 : Int32)), .val (.ref x0)] [(.int (1 : Int32)), (.ref b1)])) rfl rfl (hb hby dC2_16) _ ht) ?_
  refine OFin.of (S' := T28.setTop (mkF m 21 #[.val (.int (2 : Int32)), .val (.ref b1), .val (.int (7 : Int32)), .val (.int (1 : Int32)), .val (.ref x1)] [(.ref x1)])) (fun t ht => ?_) ?_
  · refine XS.astore X28.here hx rfl (hb hby dC2_17) rfl rfl (l' := #[.val (.int (2 : Int32)), .val (.ref b1), .val (.int (7 : Int32)), .val (.int (1 : Int32)), .val (.ref x1)]) rfl ?_
    show Steps p.tables e below (T28.setTop (mkF m 19 #[.val (.int (2 : Int32)), .val (.ref b1), .val (.int (7 : Int32)), .val (.int (1 : Int32)), .val (.ref x1)] [])) _
    refine XS.aload X28.here hx rfl (hb hby dC2_19) rfl rfl ?_
    exact ht
  obtain ⟨T30, X30, e30, st30⟩ := getF X28 hx hZ hown (host := "") (Or.inl (hw _ (List.mem_of_getElem? (i := 26) rfl))) Via.refl e28 f18 (g := (mkF m 21 #[.val (.int (2 : Int32)), .val (.ref b1), .val (.int (7 : Int32)), .val (.int (1 : Int32)), .val (.ref x1)] [(.ref x1)])) rfl rfl (hb hby dC2_21)
  refine OFin.of (S' := T30.setTop (mkF m 24 #[.val (.int (2 : Int32)), .val (.ref b1), .val (.int (7 : Int32)), .val (.int (1 : Int32)), .val (.ref x1)] [(.int (1 : Int32))])) (fun t ht => st30 t ht) ?_
  refine OFin.of (S' := T30.setTop (mkF m 16 #[.val (.int (2 : Int32)), .val (.ref b1), .val (.int (7 : Int32)), .val (.int (2 : Int32)), .val (.ref x1)] [(.int (2 : Int32)), (.ref b1)])) (fun t ht => ?_) ?_
  · refine XS.iloadN X30.here hx rfl (hb hby dC2_24) rfl ?_
    show Steps p.tables e below (T30.setTop (mkF m 25 _ [(.int (2 : Int32)), (.int (1 : Int32))])) _
    refine XS.icmpYes X30.here hx rfl (pc0 := 25) (pc' := 31) rfl (hb hby dC2_25) rfl (feq (by decide : ¬ ((1 : Int32) = (2 : Int32)))).2 (by decide) (by decide) ?_
    show Steps p.tables e below (T30.setTop (mkF m 31 _ [])) _
    refine XS.iinc X30.here hx rfl (hb hby dC2_31) rfl (l' := #[.val (.int (2 : Int32)), .val (.ref b1), .val (.int (7 : Int32)), .val (.int (2 : Int32)), .val (.ref x1)]) rfl ?_
    show Steps p.tables e below (T30.setTop (mkF m 34 #[.val (.int (2 : Int32)), .val (.ref b1), .val (.int (7 : Int32)), .val (.int (2 : Int32)), .val (.ref x1)] [])) _
    refine XS.goto X30.here hx rfl (pc0 := 34) (pc' := 9) rfl (hb hby dC2_34) (by decide) (by decide) ?_
    show Steps p.tables e below (T30.setTop (mkF m 9 _ [])) _
    refine XS.iloadN X30.here hx rfl (hb hby dC2_9) rfl ?_
    show Steps p.tables e below (T30.setTop (mkF m 10 _ [(.int (2 : Int32))])) _
    refine XS.iloadN X30.here hx rfl (hb hby dC2_10) rfl ?_
    show Steps p.tables e below (T30.setTop (mkF m 11 _ [(.int (7 : Int32)), (.int (2 : Int32))])) _
    refine XS.icmpNo X30.here hx rfl (hb hby dC2_11) rfl (tlt (by decide : (2 : Int32) < (7 : Int32))).2.1 ?_
    show Steps p.tables e below (T30.setTop (mkF m 14 _ [])) _
    refine XS.aloadN X30.here hx rfl (hb hby dC2_14) rfl rfl ?_
    show Steps p.tables e below (T30.setTop (mkF m 15 _ [(.ref b1)])) _
    refine XS.iloadN X30.here hx rfl (hb hby dC2_15) rfl ?_
    exact ht
  obtain ⟨cl31, Ar31, q31, S31, Ng31, H31, G31⟩ := id f2
  have hin31 := inb_of (j := (2 : Int32)) S31 ⟨by decide, by decide⟩
  have hat31 : cl31.slots[((2 : Int32)).toNatClampNeg]? = some (.ref x2) := Has.at H31 hin31 rfl
  refine OFin.of (S' := T30.setTop (mkF m 17 #[.val (.int (2 : Int32)), .val (.ref b1), .val (.int (7 : Int32)), .val (.int (2 : Int32)), .val (.ref x1)] [(.ref x2)])) (fun t ht => X30.aaload hx (j := (2 : Int32)) (v := (.ref x2)) (by rw [e30]; exact Ar31.1) (State.isArrayOf_alike hZ.alike Ar31.2.1) rfl Ar31.2.2 hin31 hat31 (g := (mkF m 16 #[.val (.int (2 : Int32)), .val (.ref b1), .val (.int (7 : Int32)), .val (.int (2 : Int32)), .val (.ref x1)] [(.int (2 : Int32)), (.ref b1)])) rfl rfl (hb hby dC2_16) _ ht) ?_
  refine OFin.of (S' := T30.setTop (mkF m 21 #[.val (.int (2 : Int32)), .val (.ref b1), .val (.int (7 : Int32)), .val (.int (2 : Int32)), .val (.ref x2)] [(.ref x2)])) (fun t ht => ?_) ?_
  · refine XS.astore X30.here hx rfl (hb hby dC2_17) rfl rfl (l' := #[.val (.int (2 : Int32)), .val (.ref b1), .val (.int (7 : Int32)), .val (.int (2 : Int32)), .val (.ref x2)]) rfl ?_
    show Steps p.tables e below (T30.setTop (mkF m 19 #[.val (.int (2 : Int32)), .val (.ref b1), .val (.int (7 : Int32)), .val (.int (2 : Int32)), .val (.ref x2)] [])) _
    refine XS.aload X30.here hx rfl (hb hby dC2_19) rfl rfl ?_
    exact ht
  obtain ⟨T32, X32, e32, st32⟩ := getF X30 hx hZ hown (host := "") (Or.inl (hw _ (List.mem_of_getElem? (i := 26) rfl))) Via.refl e30 f19 (g := (mkF m 21 #[.val (.int (2 : Int32)), .val (.ref b1), .val (.int (7 : Int32)), .val (.int (2 : Int32)), .val (.ref x2)] [(.ref x2)])) rfl rfl (hb hby dC2_21)
  refine OFin.of (S' := T32.setTop (mkF m 24 #[.val (.int (2 : Int32)), .val (.ref b1), .val (.int (7 : Int32)), .val (.int (2 : Int32)), .val (.ref x2)] [(.int (2 : Int32))])) (fun t ht => st32 t ht) ?_
  refine OFin.of (S' := T32.setTop (mkF m 30 #[.val (.int (2 : Int32)), .val (.ref b1), .val (.int (7 : Int32)), .val (.int (2 : Int32)), .val (.ref x2)] [(.ref x2)])) (fun t ht => ?_) ?_
  · refine XS.iloadN X32.here hx rfl (hb hby dC2_24) rfl ?_
    show Steps p.tables e below (T32.setTop (mkF m 25 _ [(.int (2 : Int32)), (.int (2 : Int32))])) _
    refine XS.icmpNo X32.here hx rfl (hb hby dC2_25) rfl (teq (by decide : (2 : Int32) = (2 : Int32))).2 ?_
    show Steps p.tables e below (T32.setTop (mkF m 28 _ [])) _
    refine XS.aload X32.here hx rfl (hb hby dC2_28) rfl rfl ?_
    exact ht
  exact OFin.retA X32 hx hlk (t := (.object "com/example/querant/querant/exchange/Exchange$Outcome")) rfl rfl hret (hb hby dC2_30) (by decide) (by decide) (by rw [e32]; exact ⟨rfl, N3, K25⟩)
theorem dC3_0 : decode prog_3_method_5_code 0 = .ok (.invokestatic 48, 3) := by decide +kernel
theorem dC3_3 : decode prog_3_method_5_code 3 = .ok (.astore_n 1, 1) := by decide +kernel
theorem dC3_4 : decode prog_3_method_5_code 4 = .ok (.aload_n 1, 1) := by decide +kernel
theorem dC3_5 : decode prog_3_method_5_code 5 = .ok (.arraylength, 1) := by decide +kernel
theorem dC3_6 : decode prog_3_method_5_code 6 = .ok (.istore_n 2, 1) := by decide +kernel
theorem dC3_7 : decode prog_3_method_5_code 7 = .ok (.iconst 0, 1) := by decide +kernel
theorem dC3_8 : decode prog_3_method_5_code 8 = .ok (.istore_n 3, 1) := by decide +kernel
theorem dC3_9 : decode prog_3_method_5_code 9 = .ok (.iload_n 3, 1) := by decide +kernel
theorem dC3_10 : decode prog_3_method_5_code 10 = .ok (.iload_n 2, 1) := by decide +kernel
theorem dC3_11 : decode prog_3_method_5_code 11 = .ok (.if_icmp .ge 26, 3) := by decide +kernel
theorem dC3_14 : decode prog_3_method_5_code 14 = .ok (.aload_n 1, 1) := by decide +kernel
theorem dC3_15 : decode prog_3_method_5_code 15 = .ok (.iload_n 3, 1) := by decide +kernel
theorem dC3_16 : decode prog_3_method_5_code 16 = .ok (.aaload, 1) := by decide +kernel
theorem dC3_17 : decode prog_3_method_5_code 17 = .ok (.astore 4, 2) := by decide +kernel
theorem dC3_19 : decode prog_3_method_5_code 19 = .ok (.aload 4, 2) := by decide +kernel
theorem dC3_21 : decode prog_3_method_5_code 21 = .ok (.getfield 44, 3) := by decide +kernel
theorem dC3_24 : decode prog_3_method_5_code 24 = .ok (.iload_n 0, 1) := by decide +kernel
theorem dC3_25 : decode prog_3_method_5_code 25 = .ok (.if_icmp .ne 6, 3) := by decide +kernel
theorem dC3_28 : decode prog_3_method_5_code 28 = .ok (.aload 4, 2) := by decide +kernel
theorem dC3_30 : decode prog_3_method_5_code 30 = .ok (.areturn, 1) := by decide +kernel
theorem dC3_31 : decode prog_3_method_5_code 31 = .ok (.iinc 3 1, 3) := by decide +kernel
theorem dC3_34 : decode prog_3_method_5_code 34 = .ok (.goto (-25), 3) := by decide +kernel
theorem pnC3 : plainName "com/example/querant/querant/exchange/Exchange$Outcome" = true := by first | (simp [plainName, overriddenIn]; done) | decide +kernel
theorem efC3 (m : MethodId)  : entryFrame m #[(.int (3 : Int32))] 5 = mkF m 0 #[.val (.int (3 : Int32)), .unset, .unset, .unset, .unset] [] := by first | (simp [entryFrame, mkF, argsToLocals, Value.category]; done) | rfl
def QC3 (Z : State) (av : Addr) (k : ClassId) (x0 : Addr) (x1 : Addr) (x2 : Addr) (x3 : Addr) (x4 : Addr) (x5 : Addr) (x6 : Addr) (h0 : Heap) (n0 : Nat) (v : Option Value) (h : Heap) (L : List Loc) : Prop := v = some (.ref x3) ∧ Fr n0 L ∧ Keep h0 h []
set_option maxRecDepth 65536 in
set_option maxHeartbeats 40000000 in
theorem rmC3 (l : Launch) (Z : State) (a0 : Array Value) (hw : ∀ d ∈ tables_1, d.before a0 Z = true) (ws : List Jvm.Cond) (av : Addr) (k : ClassId) (x0 : Addr) (x1 : Addr) (x2 : Addr) (x3 : Addr) (x4 : Addr) (x5 : Addr) (x6 : Addr) (h0 : Heap) (n0 : Nat) (Z0 : n0 ≤ h0.size) (Sv : Sta Z h0 "com/example/querant/querant/exchange/Exchange$Outcome" "$VALUES" "[Lcom/example/querant/querant/exchange/Exchange$Outcome;" (.ref av)) (Ev : Exa Z h0 av "[Lcom/example/querant/querant/exchange/Exchange$Outcome;") (V1 : Arv Z h0 av k (.object "com/example/querant/querant/exchange/Exchange$Outcome") (7 : Int32) [(.ref x0), (.ref x1), (.ref x2), (.ref x3), (.ref x4), (.ref x5), (.ref x6)] .null) (O0 : Fld Z h0 x0 "com/example/querant/querant/exchange/Exchange$Outcome" "code" "I" (.int (0 : Int32))) (O1 : Fld Z h0 x1 "com/example/querant/querant/exchange/Exchange$Outcome" "code" "I" (.int (1 : Int32))) (O2 : Fld Z h0 x2 "com/example/querant/querant/exchange/Exchange$Outcome" "code" "I" (.int (2 : Int32))) (O3 : Fld Z h0 x3 "com/example/querant/querant/exchange/Exchange$Outcome" "code" "I" (.int (3 : Int32))) (O4 : Fld Z h0 x4 "com/example/querant/querant/exchange/Exchange$Outcome" "code" "I" (.int (4 : Int32))) (O5 : Fld Z h0 x5 "com/example/querant/querant/exchange/Exchange$Outcome" "code" "I" (.int (5 : Int32))) (O6 : Fld Z h0 x6 "com/example/querant/querant/exchange/Exchange$Outcome" "code" "I" (.int (6 : Int32))) :
    MetFree l (⟨"com/example/querant/querant/exchange/Exchange$Outcome", "ofCode", "(I)Lcom/example/querant/querant/exchange/Exchange$Outcome;"⟩ : MethodName) (head1 (Jvm.Cond.code (⟨"com/example/querant/querant/exchange/Exchange$Outcome", "ofCode", "(I)Lcom/example/querant/querant/exchange/Exchange$Outcome;"⟩ : MethodName) prog_3_method_5_code 5 (some (.object "com/example/querant/querant/exchange/Exchange$Outcome")) :: ws) ({ frames := 2, cells := 1, slots := 7, locals := 25 } : Room)) (fun a U => a = #[(.int (3 : Int32))] ∧ Z.Warmed39 U.vm ∧ U.heap = h0) (fun _ _ _ _ _ => True) (fun _ U o U' => ∃ v L, o = .returned v ∧ QC3 Z av k x0 x1 x2 x3 x4 x5 x6 h0 n0 v U'.heap L ∧ FrameEnd U o U' L ({ frames := 2, cells := 1, slots := 7, locals := 25 } : Room).cells ({ frames := 2, cells := 1, slots := 7, locals := 25 } : Room).slots) := by
  refine MetFree.of_bodySF (plainFor_of_name pnC3) hisR ?_
  intro p e s m args below meth c s₁ Bd hml0 hP hK
  obtain ⟨rfl, hZ, hh⟩ := hP
  have hx := Bd.exec
  have hby := Bd.bytes
  have hlk := BodyLoose.notSynchronized Bd
  have hret := Bd.returns
  have hml : c.maxLocals = 5 := hml0
  have hown : s.vm.findClass "com/example/querant/querant/exchange/Exchange$Outcome" = some m.cls := findClass_of_methodNamed Bd.named
  have hnm := (name_of_methodNamed Bd.named Bd.method).1
  have X0 : Stand p l e ({ frames := 2, cells := 1, slots := 7, locals := 25 } : Room) s m #[(.int (3 : Int32))] below meth c s₁ [] 0 0 := Stand.of_body Bd
  have e0 : s₁.heap = h0 := by rw [← hh, Bd.state]; rfl
  have N0 := Fr.nil n0
  show OFin p e below (KPost s (QC3 Z av k x0 x1 x2 x3 x4 x5 x6 h0 n0) ({ frames := 2, cells := 1, slots := 7, locals := 25 } : Room).cells ({ frames := 2, cells := 1, slots := 7, locals := 25 } : Room).slots) _
  rw [efC3 m ]
  have K0 : Keep h0 h0 [] := Keep.refl _ _
  obtain ⟨_, _, ⟨T1, L1, k1, n1⟩, -, X1, ⟨Lc1, hQ1, l1, y1, z1⟩, st1⟩ := Jvm.LawKit.callS X0 hx (y := (⟨"com/example/querant/querant/exchange/Exchange$Outcome", "values", "()[Lcom/example/querant/querant/exchange/Exchange$Outcome;"⟩ : MethodName)) hown (mvT hZ (hw _ (List.mem_of_getElem? (i := 4) rfl))) (mvT hZ (hw _ (List.mem_of_getElem? (i := 5) rfl))) (mvT hZ (hw _ (List.mem_of_getElem? (i := 2) rfl))) (mvT hZ (hw _ (List.mem_of_getElem? (i := 6) rfl))) (by decide) (backOf (W := 0) (rmVl l Z _ hw [] av k x0 x1 x2 x3 x4 x5 x6 h0 n0 Z0 Sv Ev V1) hZ (hw _ (List.mem_of_getElem? (i := 6) rfl)) (hw _ (List.mem_of_getElem? (i := 2) rfl)) (by decide) (by decide)) (g := (mkF m 0 #[.val (.int (3 : Int32)), .unset, .unset, .unset, .unset] [])) rfl (by rw [hml]; rfl) (argsL := []) (rest := []) (lenOf pd_0 rfl) rfl (by show 2 * 0 + _ ≤ _; exact Nat.le_of_eq rfl) (hb hby dC3_0) (fun _ _ => ⟨rfl, e0, (by decide : 0 + 1 ≤ _), (by decide : 0 + 7 ≤ _)⟩)
  dsimp only [Pt.U, Pt.locs, Pt.cells, Pt.slots] at X1 l1 y1 z1 st1 hQ1
  subst l1 y1 z1
  obtain ⟨rfl, Nq1, Eq1, f2⟩ := hQ1
  have N3 := Fr.app N0 Nq1
  obtain ⟨b1, gq1⟩ : ∃ z, z = h0.size := ⟨_, rfl⟩
  rw [← gq1] at f2 st1
  have g4 : n0 ≤ b1 := (Nat.le_trans Z0 (Nat.le_of_eq gq1.symm))
  have sz5 : h0.size ≤ b1 := (Nat.le_trans K0.1 (Nat.le_of_eq gq1.symm))
  have ne6 : av ≠ b1 := (Nat.ne_of_lt (Nat.lt_of_lt_of_le Ev.lt (Nat.le_of_eq gq1.symm)))
  have ne7 : x0 ≠ b1 := (Nat.ne_of_lt (Nat.lt_of_lt_of_le O0.lt (Nat.le_of_eq gq1.symm)))
  have ne8 : x1 ≠ b1 := (Nat.ne_of_lt (Nat.lt_of_lt_of_le O1.lt (Nat.le_of_eq gq1.symm)))
  have ne9 : x2 ≠ b1 := (Nat.ne_of_lt (Nat.lt_of_lt_of_le O2.lt (Nat.le_of_eq gq1.symm)))
  have ne10 : x3 ≠ b1 := (Nat.ne_of_lt (Nat.lt_of_lt_of_le O3.lt (Nat.le_of_eq gq1.symm)))
  have ne11 : x4 ≠ b1 := (Nat.ne_of_lt (Nat.lt_of_lt_of_le O4.lt (Nat.le_of_eq gq1.symm)))
  have ne12 : x5 ≠ b1 := (Nat.ne_of_lt (Nat.lt_of_lt_of_le O5.lt (Nat.le_of_eq gq1.symm)))
  have ne13 : x6 ≠ b1 := (Nat.ne_of_lt (Nat.lt_of_lt_of_le O6.lt (Nat.le_of_eq gq1.symm)))
  have f14 := Sv.ext Eq1
  have f15 := Ev.ext Eq1
  have f16 := V1.ext Eq1
  have f17 := O0.ext Eq1
  have f18 := O1.ext Eq1
  have f19 := O2.ext Eq1
  have f20 := O3.ext Eq1
  have f21 := O4.ext Eq1
  have f22 := O5.ext Eq1
  have f23 := O6.ext Eq1
  have Z24 : n0 ≤ T1.heap.size := (Nat.le_trans Z0 Eq1.1)
  have K25 : Keep h0 T1.heap [] := (K0.ext Eq1)
  refine OFin.of (S' := T1.setTop (mkF m 3 #[.val (.int (3 : Int32)), .unset, .unset, .unset, .unset] [(.ref b1)])) (fun t ht => st1 t ht) ?_
  refine OFin.of (S' := T1.setTop (mkF m 5 #[.val (.int (3 : Int32)), .val (.ref b1), .unset, .unset, .unset] [(.ref b1)])) (fun t ht => ?_) ?_
  · refine XS.astoreN X1.here hx rfl (hb hby dC3_3) rfl rfl (l' := #[.val (.int (3 : Int32)), .val (.ref b1), .unset, .unset, .unset]) rfl ?_
    show Steps p.tables e below (T1.setTop (mkF m 4 #[.val (.int (3 : Int32)), .val (.ref b1), .unset, .unset, .unset] [])) _
    refine XS.aloadN X1.here hx rfl (hb hby dC3_4) rfl rfl ?_
    exact ht
  obtain ⟨cl26, Ar26, q26, S26, Ng26, H26, G26⟩ := id f2
  refine OFin.of (S' := T1.setTop (mkF m 6 #[.val (.int (3 : Int32)), .val (.ref b1), .unset, .unset, .unset] [(.int (7 : Int32))])) (fun t ht => own_alen X1 hx hZ (rfl : T1.heap = T1.heap) Ar26 S26 Ng26 (g := (mkF m 5 #[.val (.int (3 : Int32)), .val (.ref b1), .unset, .unset, .unset] [(.ref b1)])) rfl rfl (hb hby dC3_5) ht) ?_
  refine OFin.of (S' := T1.setTop (mkF m 16 #[.val (.int (3 : Int32)), .val (.ref b1), .val (.int (7 : Int32)), .val (.int (0 : Int32)), .unset] [(.int (0 : Int32)), (.ref b1)])) (fun t ht => ?_) ?_
  · refine XS.istoreN X1.here hx rfl (hb hby dC3_6) rfl (l' := #[.val (.int (3 : Int32)), .val (.ref b1), .val (.int (7 : Int32)), .unset, .unset]) rfl ?_
    show Steps p.tables e below (T1.setTop (mkF m 7 #[.val (.int (3 : Int32)), .val (.ref b1), .val (.int (7 : Int32)), .unset, .unset] [])) _
    refine XS.iconst X1.here hx rfl (hb hby dC3_7) ?_
    show Steps p.tables e below (T1.setTop (mkF m 8 _ [(.int (0 : Int32))])) _
    refine XS.istoreN X1.here hx rfl (hb hby dC3_8) rfl (l' := #[.val (.int (3 : Int32)), .val (.ref b1), .val (.int (7 : Int32)), .val (.int (0 : Int32)), .unset]) rfl ?_
    show Steps p.tables e below (T1.setTop (mkF m 9 #[.val (.int (3 : Int32)), .val (.ref b1), .val (.int (7 : Int32)), .val (.int (0 : Int32)), .unset] [])) _
    refine XS.iloadN X1.here hx rfl (hb hby dC3_9) rfl ?_
    show Steps p.tables e below (T1.setTop (mkF m 10 _ [(.int (0 : Int32))])) _
    refine XS.iloadN X1.here hx rfl (hb hby dC3_10) rfl ?_
    show Steps p.tables e below (T1.setTop (mkF m 11 _ [(.int (7 : Int32)), (.int (0 : Int32))])) _
    refine XS.icmpNo X1.here hx rfl (hb hby dC3_11) rfl (tlt (by decide : (0 : Int32) < (7 : Int32))).2.1 ?_
    show Steps p.tables e below (T1.setTop (mkF m 14 _ [])) _
    refine XS.aloadN X1.here hx rfl (hb hby dC3_14) rfl rfl ?_
    show Steps p.tables e below (T1.setTop (mkF m 15 _ [(.ref b1)])) _
    refine XS.iloadN X1.here hx rfl (hb hby dC3_15) rfl ?_
    exact ht
  obtain ⟨cl27, Ar27, q27, S27, Ng27, H27, G27⟩ := id f2
  have hin27 := inb_of (j := (0 : Int32)) S27 ⟨by decide, by decide⟩
  have hat27 : cl27.slots[((0 : Int32)).toNatClampNeg]? = some (.ref x0) := Has.at H27 hin27 rfl
  refine OFin.of (S' := T1.setTop (mkF m 17 #[.val (.int (3 : Int32)), .val (.ref b1), .val (.int (7 : Int32)), .val (.int (0 : Int32)), .unset] [(.ref x0)])) (fun t ht => X1.aaload hx (j := (0 : Int32)) (v := (.ref x0)) (by rw [(rfl : T1.heap = T1.heap)]; exact Ar27.1) (State.isArrayOf_alike hZ.alike Ar27.2.1) rfl Ar27.2.2 hin27 hat27 (g := (mkF m 16 #[.val (.int (3 : Int32)), .val (.ref b1), .val (.int (7 : Int32)), .val (.int (0 : Int32)), .unset] [(.int (0 : Int32)), (.ref b1)])) rfl rfl (hb hby dC3_16) _ ht) ?_
  refine OFin.of (S' := T1.setTop (mkF m 21 #[.val (.int (3 : Int32)), .val (.ref b1), .val (.int (7 : Int32)), .val (.int (0 : Int32)), .val (.ref x0)] [(.ref x0)])) (fun t ht => ?_) ?_
  · refine XS.astore X1.here hx rfl (hb hby dC3_17) rfl rfl (l' := #[.val (.int (3 : Int32)), .val (.ref b1), .val (.int (7 : Int32)), .val (.int (0 : Int32)), .val (.ref x0)]) rfl ?_
    show Steps p.tables e below (T1.setTop (mkF m 19 #[.val (.int (3 : Int32)), .val (.ref b1), .val (.int (7 : Int32)), .val (.int (0 : Int32)), .val (.ref x0)] [])) _
    refine XS.aload X1.here hx rfl (hb hby dC3_19) rfl rfl ?_
    exact ht
  obtain ⟨T28, X28, e28, st28⟩ := getF X1 hx hZ hown (host := "") (Or.inl (hw _ (List.mem_of_getElem? (i := 26) rfl))) Via.refl (rfl : T1.heap = T1.heap) f17 (g := (mkF m 21 #[.val (.int (3 : Int32)), .val (.ref b1), .val (.int (7 : Int32)), .val (.int (0 : Int32)), .val (.ref x0)] [(.ref x0)])) rfl rfl (hb hby dC3_21)
  refine OFin.of (S' := T28.setTop (mkF m 24 #[.val (.int (3 : Int32)), .val (.ref b1), .val (.int (7 : Int32)), .val (.int (0 : Int32)), .val (.ref x0)] [(.int (0 : Int32))])) (fun t ht => st28 t ht) ?_
  refine OFin.of (S' := T28.setTop (mkF m 16 #[.val (.int (3 : Int32)), .val (.ref b1), .val (.int (7 : Int32)), .val (.int (1 : Int32)), .val (.ref x0)] [(.int (1 : Int32)), (.ref b1)])) (fun t ht => ?_) ?_
  · refine XS.iloadN X28.here hx rfl (hb hby dC3_24) rfl ?_
    show Steps p.tables e below (T28.setTop (mkF m 25 _ [(.int (3 : Int32)), (.int (0 : Int32))])) _
    refine XS.icmpYes X28.here hx rfl (pc0 := 25) (pc' := 31) rfl (hb hby dC3_25) rfl (feq (by decide : ¬ ((0 : Int32) = (3 : Int32)))).2 (by decide) (by decide) ?_
    show Steps p.tables e below (T28.setTop (mkF m 31 _ [])) _
    refine XS.iinc X28.here hx rfl (hb hby dC3_31) rfl (l' := #[.val (.int (3 : Int32)), .val (.ref b1), .val (.int (7 : Int32)), .val (.int (1 : Int32)), .val (.ref x0)]) rfl ?_
    show Steps p.tables e below (T28.setTop (mkF m 34 #[.val (.int (3 : Int32)), .val (.ref b1), .val (.int (7 : Int32)), .val (.int (1 : Int32)), .val (.ref x0)] [])) _
    refine XS.goto X28.here hx rfl (pc0 := 34) (pc' := 9) rfl (hb hby dC3_34) (by decide) (by decide) ?_
    show Steps p.tables e below (T28.setTop (mkF m 9 _ [])) _
    refine XS.iloadN X28.here hx rfl (hb hby dC3_9) rfl ?_
    show Steps p.tables e below (T28.setTop (mkF m 10 _ [(.int (1 : Int32))])) _
    refine XS.iloadN X28.here hx rfl (hb hby dC3_10) rfl ?_
    show Steps p.tables e below (T28.setTop (mkF m 11 _ [(.int (7 : Int32)), (.int (1 : Int32))])) _
    refine XS.icmpNo X28.here hx rfl (hb hby dC3_11) rfl (tlt (by decide : (1 : Int32) < (7 : Int32))).2.1 ?_
    show Steps p.tables e below (T28.setTop (mkF m 14 _ [])) _
    refine XS.aloadN X28.here hx rfl (hb hby dC3_14) rfl rfl ?_
    show Steps p.tables e below (T28.setTop (mkF m 15 _ [(.ref b1)])) _
    refine XS.iloadN X28.here hx rfl (hb hby dC3_15) rfl ?_
    exact ht
  obtain ⟨cl29, Ar29, q29, S29, Ng29, H29, G29⟩ := id f2
  have hin29 := inb_of (j := (1 : Int32)) S29 ⟨by decide, by decide⟩
  have hat29 : cl29.slots[((1 : Int32)).toNatClampNeg]? = some (.ref x1) := Has.at H29 hin29 rfl
  refine OFin.of (S' := T28.setTop (mkF m 17 #[.val (.int (3 : Int32)), .val (.ref b1), .val (.int (7 : Int32)), .val (.int (1 : Int32)), .val (.ref x0)] [(.ref x1)])) (fun t ht => X28.aaload hx (j := (1 : Int32)) (v := (.ref x1)) (by rw [e28]; exact Ar29.1) (State.isArrayOf_alike hZ.alike Ar29.2.1) rfl Ar29.2.2 hin29 hat29 (g := (mkF m 16 #[.val (.int (3 : Int32)), .val (.ref b1), .val (.int (7 : Int32)), .val (.int (1 : Int32)), .val (.ref x0)] [(.int (1 : Int32)), (.ref b1)])) rfl rfl (hb hby dC3_16) _ ht) ?_
  refine OFin.of (S' := T28.setTop (mkF m 21 #[.val (.int (3 : Int32)), .val (.ref b1), .val (.int (7 : Int32)), .val (.int (1 : Int32)), .val (.ref x1)] [(.ref x1)])) (fun t ht => ?_) ?_
  · refine XS.astore X28.here hx rfl (hb hby dC3_17) rfl rfl (l' := #[.val (.int (3 : Int32)), .val (.ref b1), .val (.int (7 : Int32)), .val (.int (1 : Int32)), .val (.ref x1)]) rfl ?_
    show Steps p.tables e below (T28.setTop (mkF m 19 #[.val (.int (3 : Int32)), .val (.ref b1), .val (.int (7 : Int32)), .val (.int (1 : Int32)), .val (.ref x1)] [])) _
    refine XS.aload X28.here hx rfl (hb hby dC3_19) rfl rfl ?_
    exact ht
  obtain ⟨T30, X30, e30, st30⟩ := getF X28 hx hZ hown (host := "") (Or.inl (hw _ (List.mem_of_getElem? (i := 26) rfl))) Via.refl e28 f18 (g := (mkF m 21 #[.val (.int (3 : Int32)), .val (.ref b1), .val (.int (7 : Int32)), .val (.int (1 : Int32)), .val (.ref x1)] [(.ref x1)])) rfl rfl (hb hby dC3_21)
  refine OFin.of (S' := T30.setTop (mkF m 24 #[.val (.int (3 : Int32)), .val (.ref b1), .val (.int (7 : Int32)), .val (.int (1 : Int32)), .val (.ref x1)] [(.int (1 : Int32))])) (fun t ht => st30 t ht) ?_
  refine OFin.of (S' := T30.setTop (mkF m 16 #[.val (.int (3 : Int32)), .val (.ref b1), .val (.int (7 : Int32)), .val (.int (2 : Int32)), .val (.ref x1)] [(.int (2 : Int32)), (.ref b1)])) (fun t ht => ?_) ?_
  · refine XS.iloadN X30.here hx rfl (hb hby dC3_24) rfl ?_
    show Steps p.tables e below (T30.setTop (mkF m 25 _ [(.int (3 : Int32)), (.int (1 : Int32))])) _
    refine XS.icmpYes X30.here hx rfl (pc0 := 25) (pc' := 31) rfl (hb hby dC3_25) rfl (feq (by decide : ¬ ((1 : Int32) = (3 : Int32)))).2 (by decide) (by decide) ?_
    show Steps p.tables e below (T30.setTop (mkF m 31 _ [])) _
    refine XS.iinc X30.here hx rfl (hb hby dC3_31) rfl (l' := #[.val (.int (3 : Int32)), .val (.ref b1), .val (.int (7 : Int32)), .val (.int (2 : Int32)), .val (.ref x1)]) rfl ?_
    show Steps p.tables e below (T30.setTop (mkF m 34 #[.val (.int (3 : Int32)), .val (.ref b1), .val (.int (7 : Int32)), .val (.int (2 : Int32)), .val (.ref x1)] [])) _
    refine XS.goto X30.here hx rfl (pc0 := 34) (pc' := 9) rfl (hb hby dC3_34) (by decide) (by decide) ?_
    show Steps p.tables e below (T30.setTop (mkF m 9 _ [])) _
    refine XS.iloadN X30.here hx rfl (hb hby dC3_9) rfl ?_
    show Steps p.tables e below (T30.setTop (mkF m 10 _ [(.int (2 : Int32))])) _
    refine XS.iloadN X30.here hx rfl (hb hby dC3_10) rfl ?_
    show Steps p.tables e below (T30.setTop (mkF m 11 _ [(.int (7 : Int32)), (.int (2 : Int32))])) _
    refine XS.icmpNo X30.here hx rfl (hb hby dC3_11) rfl (tlt (by decide : (2 : Int32) < (7 : Int32))).2.1 ?_
    show Steps p.tables e below (T30.setTop (mkF m 14 _ [])) _
    refine XS.aloadN X30.here hx rfl (hb hby dC3_14) rfl rfl ?_
    show Steps p.tables e below (T30.setTop (mkF m 15 _ [(.ref b1)])) _
    refine XS.iloadN X30.here hx rfl (hb hby dC3_15) rfl ?_
    exact ht
  obtain ⟨cl31, Ar31, q31, S31, Ng31, H31, G31⟩ := id f2
  have hin31 := inb_of (j := (2 : Int32)) S31 ⟨by decide, by decide⟩
  have hat31 : cl31.slots[((2 : Int32)).toNatClampNeg]? = some (.ref x2) := Has.at H31 hin31 rfl
  refine OFin.of (S' := T30.setTop (mkF m 17 #[.val (.int (3 : Int32)), .val (.ref b1), .val (.int (7 : Int32)), .val (.int (2 : Int32)), .val (.ref x1)] [(.ref x2)])) (fun t ht => X30.aaload hx (j := (2 : Int32)) (v := (.ref x2)) (by rw [e30]; exact Ar31.1) (State.isArrayOf_alike hZ.alike Ar31.2.1) rfl Ar31.2.2 hin31 hat31 (g := (mkF m 16 #[.val (.int (3 : Int32)), .val (.ref b1), .val (.int (7 : Int32)), .val (.int (2 : Int32)), .val (.ref x1)] [(.int (2 : Int32)), (.ref b1)])) rfl rfl (hb hby dC3_16) _ ht) ?_
  refine OFin.of (S' := T30.setTop (mkF m 21 #[.val (.int (3 : Int32)), .val (.ref b1), .val (.int (7 : Int32)), .val (.int (2 : Int32)), .val (.ref x2)] [(.ref x2)])) (fun t ht => ?_) ?_
  · refine XS.astore X30.here hx rfl (hb hby dC3_17) rfl rfl (l' := #[.val (.int (3 : Int32)), .val (.ref b1), .val (.int (7 : Int32)), .val (.int (2 : Int32)), .val (.ref x2)]) rfl ?_
    show Steps p.tables e below (T30.setTop (mkF m 19 #[.val (.int (3 : Int32)), .val (.ref b1), .val (.int (7 : Int32)), .val (.int (2 : Int32)), .val (.ref x2)] [])) _
    refine XS.aload X30.here hx rfl (hb hby dC3_19) rfl rfl ?_
    exact ht
  obtain ⟨T32, X32, e32, st32⟩ := getF X30 hx hZ hown (host := "") (Or.inl (hw _ (List.mem_of_getElem? (i := 26) rfl))) Via.refl e30 f19 (g := (mkF m 21 #[.val (.int (3 : Int32)), .val (.ref b1), .val (.int (7 : Int32)), .val (.int (2 : Int32)), .val (.ref x2)] [(.ref x2)])) rfl rfl (hb hby dC3_21)
  refine OFin.of (S' := T32.setTop (mkF m 24 #[.val (.int (3 : Int32)), .val (.ref b1), .val (.int (7 : Int32)), .val (.int (2 : Int32)), .val (.ref x2)] [(.int (2 : Int32))])) (fun t ht => st32 t ht) ?_
  refine OFin.of (S' := T32.setTop (mkF m 16 #[.val (.int (3 : Int32)), .val (.ref b1), .val (.int (7 : Int32)), .val (.int (3 : Int32)), .val (.ref x2)] [(.int (3 : Int32)), (.ref b1)])) (fun t ht => ?_) ?_
  · refine XS.iloadN X32.here hx rfl (hb hby dC3_24) rfl ?_
    show Steps p.tables e below (T32.setTop (mkF m 25 _ [(.int (3 : Int32)), (.int (2 : Int32))])) _
    refine XS.icmpYes X32.here hx rfl (pc0 := 25) (pc' := 31) rfl (hb hby dC3_25) rfl (feq (by decide : ¬ ((2 : Int32) = (3 : Int32)))).2 (by decide) (by decide) ?_
    show Steps p.tables e below (T32.setTop (mkF m 31 _ [])) _
    refine XS.iinc X32.here hx rfl (hb hby dC3_31) rfl (l' := #[.val (.int (3 : Int32)), .val (.ref b1), .val (.int (7 : Int32)), .val (.int (3 : Int32)), .val (.ref x2)]) rfl ?_
    show Steps p.tables e below (T32.setTop (mkF m 34 #[.val (.int (3 : Int32)), .val (.ref b1), .val (.int (7 : Int32)), .val (.int (3 : Int32)), .val (.ref x2)] [])) _
    refine XS.goto X32.here hx rfl (pc0 := 34) (pc' := 9) rfl (hb hby dC3_34) (by decide) (by decide) ?_
    show Steps p.tables e below (T32.setTop (mkF m 9 _ [])) _
    refine XS.iloadN X32.here hx rfl (hb hby dC3_9) rfl ?_
    show Steps p.tables e below (T32.setTop (mkF m 10 _ [(.int (3 : Int32))])) _
    refine XS.iloadN X32.here hx rfl (hb hby dC3_10) rfl ?_
    show Steps p.tables e below (T32.setTop (mkF m 11 _ [(.int (7 : Int32)), (.int (3 : Int32))])) _
    refine XS.icmpNo X32.here hx rfl (hb hby dC3_11) rfl (tlt (by decide : (3 : Int32) < (7 : Int32))).2.1 ?_
    show Steps p.tables e below (T32.setTop (mkF m 14 _ [])) _
    refine XS.aloadN X32.here hx rfl (hb hby dC3_14) rfl rfl ?_
    show Steps p.tables e below (T32.setTop (mkF m 15 _ [(.ref b1)])) _
    refine XS.iloadN X32.here hx rfl (hb hby dC3_15) rfl ?_
    exact ht
  obtain ⟨cl33, Ar33, q33, S33, Ng33, H33, G33⟩ := id f2
  have hin33 := inb_of (j := (3 : Int32)) S33 ⟨by decide, by decide⟩
  have hat33 : cl33.slots[((3 : Int32)).toNatClampNeg]? = some (.ref x3) := Has.at H33 hin33 rfl
  refine OFin.of (S' := T32.setTop (mkF m 17 #[.val (.int (3 : Int32)), .val (.ref b1), .val (.int (7 : Int32)), .val (.int (3 : Int32)), .val (.ref x2)] [(.ref x3)])) (fun t ht => X32.aaload hx (j := (3 : Int32)) (v := (.ref x3)) (by rw [e32]; exact Ar33.1) (State.isArrayOf_alike hZ.alike Ar33.2.1) rfl Ar33.2.2 hin33 hat33 (g := (mkF m 16 #[.val (.int (3 : Int32)), .val (.ref b1), .val (.int (7 : Int32)), .val (.int (3 : Int32)), .val (.ref x2)] [(.int (3 : Int32)), (.ref b1)])) rfl rfl (hb hby dC3_16) _ ht) ?_
  refine OFin.of (S' := T32.setTop (mkF m 21 #[.val (.int (3 : Int32)), .val (.ref b1), .val (.int (7 : Int32)), .val (.int (3 : Int32)), .val (.ref x3)] [(.ref x3)])) (fun t ht => ?_) ?_
  · refine XS.astore X32.here hx rfl (hb hby dC3_17) rfl rfl (l' := #[.val (.int (3 : Int32)), .val (.ref b1), .val (.int (7 : Int32)), .val (.int (3 : Int32)), .val (.ref x3)]) rfl ?_
    show Steps p.tables e below (T32.setTop (mkF m 19 #[.val (.int (3 : Int32)), .val (.ref b1), .val (.int (7 : Int32)), .val (.int (3 : Int32)), .val (.ref x3)] [])) _
    refine XS.aload X32.here hx rfl (hb hby dC3_19) rfl rfl ?_
    exact ht
  obtain ⟨T34, X34, e34, st34⟩ := getF X32 hx hZ hown (host := "") (Or.inl (hw _ (List.mem_of_getElem? (i := 26) rfl))) Via.refl e32 f20 (g := (mkF m 21 #[.val (.int (3 : Int32)), .val (.ref b1), .val (.int (7 : Int32)), .val (.int (3 : Int32)), .val (.ref x3)] [(.ref x3)])) rfl rfl (hb hby dC3_21)
  refine OFin.of (S' := T34.setTop (mkF m 24 #[.val (.int (3 : Int32)), .val (.ref b1), .val (.int (7 : Int32)), .val (.int (3 : Int32)), .val (.ref x3)] [(.int (3 : Int32))])) (fun t ht => st34 t ht) ?_
  refine OFin.of (S' := T34.setTop (mkF m 30 #[.val (.int (3 : Int32)), .val (.ref b1), .val (.int (7 : Int32)), .val (.int (3 : Int32)), .val (.ref x3)] [(.ref x3)])) (fun t ht => ?_) ?_
  · refine XS.iloadN X34.here hx rfl (hb hby dC3_24) rfl ?_
    show Steps p.tables e below (T34.setTop (mkF m 25 _ [(.int (3 : Int32)), (.int (3 : Int32))])) _
    refine XS.icmpNo X34.here hx rfl (hb hby dC3_25) rfl (teq (by decide : (3 : Int32) = (3 : Int32))).2 ?_
    show Steps p.tables e below (T34.setTop (mkF m 28 _ [])) _
    refine XS.aload X34.here hx rfl (hb hby dC3_28) rfl rfl ?_
    exact ht
  exact OFin.retA X34 hx hlk (t := (.object "com/example/querant/querant/exchange/Exchange$Outcome")) rfl rfl hret (hb hby dC3_30) (by decide) (by decide) (by rw [e34]; exact ⟨rfl, N3, K25⟩)
theorem dC4_0 : decode prog_3_method_5_code 0 = .ok (.invokestatic 48, 3) := by decide +kernel
theorem dC4_3 : decode prog_3_method_5_code 3 = .ok (.astore_n 1, 1) := by decide +kernel
theorem dC4_4 : decode prog_3_method_5_code 4 = .ok (.aload_n 1, 1) := by decide +kernel
theorem dC4_5 : decode prog_3_method_5_code 5 = .ok (.arraylength, 1) := by decide +kernel
theorem dC4_6 : decode prog_3_method_5_code 6 = .ok (.istore_n 2, 1) := by decide +kernel
theorem dC4_7 : decode prog_3_method_5_code 7 = .ok (.iconst 0, 1) := by decide +kernel
theorem dC4_8 : decode prog_3_method_5_code 8 = .ok (.istore_n 3, 1) := by decide +kernel
theorem dC4_9 : decode prog_3_method_5_code 9 = .ok (.iload_n 3, 1) := by decide +kernel
theorem dC4_10 : decode prog_3_method_5_code 10 = .ok (.iload_n 2, 1) := by decide +kernel
theorem dC4_11 : decode prog_3_method_5_code 11 = .ok (.if_icmp .ge 26, 3) := by decide +kernel
theorem dC4_14 : decode prog_3_method_5_code 14 = .ok (.aload_n 1, 1) := by decide +kernel
theorem dC4_15 : decode prog_3_method_5_code 15 = .ok (.iload_n 3, 1) := by decide +kernel
theorem dC4_16 : decode prog_3_method_5_code 16 = .ok (.aaload, 1) := by decide +kernel
theorem dC4_17 : decode prog_3_method_5_code 17 = .ok (.astore 4, 2) := by decide +kernel
theorem dC4_19 : decode prog_3_method_5_code 19 = .ok (.aload 4, 2) := by decide +kernel
theorem dC4_21 : decode prog_3_method_5_code 21 = .ok (.getfield 44, 3) := by decide +kernel
theorem dC4_24 : decode prog_3_method_5_code 24 = .ok (.iload_n 0, 1) := by decide +kernel
theorem dC4_25 : decode prog_3_method_5_code 25 = .ok (.if_icmp .ne 6, 3) := by decide +kernel
theorem dC4_28 : decode prog_3_method_5_code 28 = .ok (.aload 4, 2) := by decide +kernel
theorem dC4_30 : decode prog_3_method_5_code 30 = .ok (.areturn, 1) := by decide +kernel
theorem dC4_31 : decode prog_3_method_5_code 31 = .ok (.iinc 3 1, 3) := by decide +kernel
theorem dC4_34 : decode prog_3_method_5_code 34 = .ok (.goto (-25), 3) := by decide +kernel
theorem pnC4 : plainName "com/example/querant/querant/exchange/Exchange$Outcome" = true := by first | (simp [plainName, overriddenIn]; done) | decide +kernel
theorem efC4 (m : MethodId)  : entryFrame m #[(.int (4 : Int32))] 5 = mkF m 0 #[.val (.int (4 : Int32)), .unset, .unset, .unset, .unset] [] := by first | (simp [entryFrame, mkF, argsToLocals, Value.category]; done) | rfl
def QC4 (Z : State) (av : Addr) (k : ClassId) (x0 : Addr) (x1 : Addr) (x2 : Addr) (x3 : Addr) (x4 : Addr) (x5 : Addr) (x6 : Addr) (h0 : Heap) (n0 : Nat) (v : Option Value) (h : Heap) (L : List Loc) : Prop := v = some (.ref x4) ∧ Fr n0 L ∧ Keep h0 h []
set_option maxRecDepth 65536 in
set_option maxHeartbeats 40000000 in
theorem rmC4 (l : Launch) (Z : State) (a0 : Array Value) (hw : ∀ d ∈ tables_1, d.before a0 Z = true) (ws : List Jvm.Cond) (av : Addr) (k : ClassId) (x0 : Addr) (x1 : Addr) (x2 : Addr) (x3 : Addr) (x4 : Addr) (x5 : Addr) (x6 : Addr) (h0 : Heap) (n0 : Nat) (Z0 : n0 ≤ h0.size) (Sv : Sta Z h0 "com/example/querant/querant/exchange/Exchange$Outcome" "$VALUES" "[Lcom/example/querant/querant/exchange/Exchange$Outcome;" (.ref av)) (Ev : Exa Z h0 av "[Lcom/example/querant/querant/exchange/Exchange$Outcome;") (V1 : Arv Z h0 av k (.object "com/example/querant/querant/exchange/Exchange$Outcome") (7 : Int32) [(.ref x0), (.ref x1), (.ref x2), (.ref x3), (.ref x4), (.ref x5), (.ref x6)] .null) (O0 : Fld Z h0 x0 "com/example/querant/querant/exchange/Exchange$Outcome" "code" "I" (.int (0 : Int32))) (O1 : Fld Z h0 x1 "com/example/querant/querant/exchange/Exchange$Outcome" "code" "I" (.int (1 : Int32))) (O2 : Fld Z h0 x2 "com/example/querant/querant/exchange/Exchange$Outcome" "code" "I" (.int (2 : Int32))) (O3 : Fld Z h0 x3 "com/example/querant/querant/exchange/Exchange$Outcome" "code" "I" (.int (3 : Int32))) (O4 : Fld Z h0 x4 "com/example/querant/querant/exchange/Exchange$Outcome" "code" "I" (.int (4 : Int32))) (O5 : Fld Z h0 x5 "com/example/querant/querant/exchange/Exchange$Outcome" "code" "I" (.int (5 : Int32))) (O6 : Fld Z h0 x6 "com/example/querant/querant/exchange/Exchange$Outcome" "code" "I" (.int (6 : Int32))) :
    MetFree l (⟨"com/example/querant/querant/exchange/Exchange$Outcome", "ofCode", "(I)Lcom/example/querant/querant/exchange/Exchange$Outcome;"⟩ : MethodName) (head1 (Jvm.Cond.code (⟨"com/example/querant/querant/exchange/Exchange$Outcome", "ofCode", "(I)Lcom/example/querant/querant/exchange/Exchange$Outcome;"⟩ : MethodName) prog_3_method_5_code 5 (some (.object "com/example/querant/querant/exchange/Exchange$Outcome")) :: ws) ({ frames := 2, cells := 1, slots := 7, locals := 25 } : Room)) (fun a U => a = #[(.int (4 : Int32))] ∧ Z.Warmed39 U.vm ∧ U.heap = h0) (fun _ _ _ _ _ => True) (fun _ U o U' => ∃ v L, o = .returned v ∧ QC4 Z av k x0 x1 x2 x3 x4 x5 x6 h0 n0 v U'.heap L ∧ FrameEnd U o U' L ({ frames := 2, cells := 1, slots := 7, locals := 25 } : Room).cells ({ frames := 2, cells := 1, slots := 7, locals := 25 } : Room).slots) := by
  refine MetFree.of_bodySF (plainFor_of_name pnC4) hisR ?_
  intro p e s m args below meth c s₁ Bd hml0 hP hK
  obtain ⟨rfl, hZ, hh⟩ := hP
  have hx := Bd.exec
  have hby := Bd.bytes
  have hlk := BodyLoose.notSynchronized Bd
  have hret := Bd.returns
  have hml : c.maxLocals = 5 := hml0
  have hown : s.vm.findClass "com/example/querant/querant/exchange/Exchange$Outcome" = some m.cls := findClass_of_methodNamed Bd.named
  have hnm := (name_of_methodNamed Bd.named Bd.method).1
  have X0 : Stand p l e ({ frames := 2, cells := 1, slots := 7, locals := 25 } : Room) s m #[(.int (4 : Int32))] below meth c s₁ [] 0 0 := Stand.of_body Bd
  have e0 : s₁.heap = h0 := by rw [← hh, Bd.state]; rfl
  have N0 := Fr.nil n0
  show OFin p e below (KPost s (QC4 Z av k x0 x1 x2 x3 x4 x5 x6 h0 n0) ({ frames := 2, cells := 1, slots := 7, locals := 25 } : Room).cells ({ frames := 2, cells := 1, slots := 7, locals := 25 } : Room).slots) _
  rw [efC4 m ]
  have K0 : Keep h0 h0 [] := Keep.refl _ _
  obtain ⟨_, _, ⟨T1, L1, k1, n1⟩, -, X1, ⟨Lc1, hQ1, l1, y1, z1⟩, st1⟩ := Jvm.LawKit.callS X0 hx (y := (⟨"com/example/querant/querant/exchange/Exchange$Outcome", "values", "()[Lcom/example/querant/querant/exchange/Exchange$Outcome;"⟩ : MethodName)) hown (mvT hZ (hw _ (List.mem_of_getElem? (i := 4) rfl))) (mvT hZ (hw _ (List.mem_of_getElem? (i := 5) rfl))) (mvT hZ (hw _ (List.mem_of_getElem? (i := 2) rfl))) (mvT hZ (hw _ (List.mem_of_getElem? (i := 6) rfl))) (by decide) (backOf (W := 0) (rmVl l Z _ hw [] av k x0 x1 x2 x3 x4 x5 x6 h0 n0 Z0 Sv Ev V1) hZ (hw _ (List.mem_of_getElem? (i := 6) rfl)) (hw _ (List.mem_of_getElem? (i := 2) rfl)) (by decide) (by decide)) (g := (mkF m 0 #[.val (.int (4 : Int32)), .unset, .unset, .unset, .unset] [])) rfl (by rw [hml]; rfl) (argsL := []) (rest := []) (lenOf pd_0 rfl) rfl (by show 2 * 0 + _ ≤ _; exact Nat.le_of_eq rfl) (hb hby dC4_0) (fun _ _ => ⟨rfl, e0, (by decide : 0 + 1 ≤ _), (by decide : 0 + 7 ≤ _)⟩)
  dsimp only [Pt.U, Pt.locs, Pt.cells, Pt.slots] at X1 l1 y1 z1 st1 hQ1
  subst l1 y1 z1
  obtain ⟨rfl, Nq1, Eq1, f2⟩ := hQ1
  have N3 := Fr.app N0 Nq1
  obtain ⟨b1, gq1⟩ : ∃ z, z = h0.size := ⟨_, rfl⟩
  rw [← gq1] at f2 st1
  have g4 : n0 ≤ b1 := (Nat.le_trans Z0 (Nat.le_of_eq gq1.symm))
  have sz5 : h0.size ≤ b1 := (Nat.le_trans K0.1 (Nat.le_of_eq gq1.symm))
  have ne6 : av ≠ b1 := (Nat.ne_of_lt (Nat.lt_of_lt_of_le Ev.lt (Nat.le_of_eq gq1.symm)))
  have ne7 : x0 ≠ b1 := (Nat.ne_of_lt (Nat.lt_of_lt_of_le O0.lt (Nat.le_of_eq gq1.symm)))
  have ne8 : x1 ≠ b1 := (Nat.ne_of_lt (Nat.lt_of_lt_of_le O1.lt (Nat.le_of_eq gq1.symm)))
  have ne9 : x2 ≠ b1 := (Nat.ne_of_lt (Nat.lt_of_lt_of_le O2.lt (Nat.le_of_eq gq1.symm)))
  have ne10 : x3 ≠ b1 := (Nat.ne_of_lt (Nat.lt_of_lt_of_le O3.lt (Nat.le_of_eq gq1.symm)))
  have ne11 : x4 ≠ b1 := (Nat.ne_of_lt (Nat.lt_of_lt_of_le O4.lt (Nat.le_of_eq gq1.symm)))
  have ne12 : x5 ≠ b1 := (Nat.ne_of_lt (Nat.lt_of_lt_of_le O5.lt (Nat.le_of_eq gq1.symm)))
  have ne13 : x6 ≠ b1 := (Nat.ne_of_lt (Nat.lt_of_lt_of_le O6.lt (Nat.le_of_eq gq1.symm)))
  have f14 := Sv.ext Eq1
  have f15 := Ev.ext Eq1
  have f16 := V1.ext Eq1
  have f17 := O0.ext Eq1
  have f18 := O1.ext Eq1
  have f19 := O2.ext Eq1
  have f20 := O3.ext Eq1
  have f21 := O4.ext Eq1
  have f22 := O5.ext Eq1
  have f23 := O6.ext Eq1
  have Z24 : n0 ≤ T1.heap.size := (Nat.le_trans Z0 Eq1.1)
  have K25 : Keep h0 T1.heap [] := (K0.ext Eq1)
  refine OFin.of (S' := T1.setTop (mkF m 3 #[.val (.int (4 : Int32)), .unset, .unset, .unset, .unset] [(.ref b1)])) (fun t ht => st1 t ht) ?_
  refine OFin.of (S' := T1.setTop (mkF m 5 #[.val (.int (4 : Int32)), .val (.ref b1), .unset, .unset, .unset] [(.ref b1)])) (fun t ht => ?_) ?_
  · refine XS.astoreN X1.here hx rfl (hb hby dC4_3) rfl rfl (l' := #[.val (.int (4 : Int32)), .val (.ref b1), .unset, .unset, .unset]) rfl ?_
    show Steps p.tables e below (T1.setTop (mkF m 4 #[.val (.int (4 : Int32)), .val (.ref b1), .unset, .unset, .unset] [])) _
    refine XS.aloadN X1.here hx rfl (hb hby dC4_4) rfl rfl ?_
    exact ht
  obtain ⟨cl26, Ar26, q26, S26, Ng26, H26, G26⟩ := id f2
  refine OFin.of (S' := T1.setTop (mkF m 6 #[.val (.int (4 : Int32)), .val (.ref b1), .unset, .unset, .unset] [(.int (7 : Int32))])) (fun t ht => own_alen X1 hx hZ (rfl : T1.heap = T1.heap) Ar26 S26 Ng26 (g := (mkF m 5 #[.val (.int (4 : Int32)), .val (.ref b1), .unset, .unset, .unset] [(.ref b1)])) rfl rfl (hb hby dC4_5) ht) ?_
  refine OFin.of (S' := T1.setTop (mkF m 16 #[.val (.int (4 : Int32)), .val (.ref b1), .val (.int (7 : Int32)), .val (.int (0 : Int32)), .unset] [(.int (0 : Int32)), (.ref b1)])) (fun t ht => ?_) ?_
  · refine XS.istoreN X1.here hx rfl (hb hby dC4_6) rfl (l' := #[.val (.int (4 : Int32)), .val (.ref b1), .val (.int (7 : Int32)), .unset, .unset]) rfl ?_
    show Steps p.tables e below (T1.setTop (mkF m 7 #[.val (.int (4 : Int32)), .val (.ref b1), .val (.int (7 : Int32)), .unset, .unset] [])) _
    refine XS.iconst X1.here hx rfl (hb hby dC4_7) ?_
    show Steps p.tables e below (T1.setTop (mkF m 8 _ [(.int (0 : Int32))])) _
    refine XS.istoreN X1.here hx rfl (hb hby dC4_8) rfl (l' := #[.val (.int (4 : Int32)), .val (.ref b1), .val (.int (7 : Int32)), .val (.int (0 : Int32)), .unset]) rfl ?_
    show Steps p.tables e below (T1.setTop (mkF m 9 #[.val (.int (4 : Int32)), .val (.ref b1), .val (.int (7 : Int32)), .val (.int (0 : Int32)), .unset] [])) _
    refine XS.iloadN X1.here hx rfl (hb hby dC4_9) rfl ?_
    show Steps p.tables e below (T1.setTop (mkF m 10 _ [(.int (0 : Int32))])) _
    refine XS.iloadN X1.here hx rfl (hb hby dC4_10) rfl ?_
    show Steps p.tables e below (T1.setTop (mkF m 11 _ [(.int (7 : Int32)), (.int (0 : Int32))])) _
    refine XS.icmpNo X1.here hx rfl (hb hby dC4_11) rfl (tlt (by decide : (0 : Int32) < (7 : Int32))).2.1 ?_
    show Steps p.tables e below (T1.setTop (mkF m 14 _ [])) _
    refine XS.aloadN X1.here hx rfl (hb hby dC4_14) rfl rfl ?_
    show Steps p.tables e below (T1.setTop (mkF m 15 _ [(.ref b1)])) _
    refine XS.iloadN X1.here hx rfl (hb hby dC4_15) rfl ?_
    exact ht
  obtain ⟨cl27, Ar27, q27, S27, Ng27, H27, G27⟩ := id f2
  have hin27 := inb_of (j := (0 : Int32)) S27 ⟨by decide, by decide⟩
  have hat27 : cl27.slots[((0 : Int32)).toNatClampNeg]? = some (.ref x0) := Has.at H27 hin27 rfl
  refine OFin.of (S' := T1.setTop (mkF m 17 #[.val (.int (4 : Int32)), .val (.ref b1), .val (.int (7 : Int32)), .val (.int (0 : Int32)), .unset] [(.ref x0)])) (fun t ht => X1.aaload hx (j := (0 : Int32)) (v := (.ref x0)) (by rw [(rfl : T1.heap = T1.heap)]; exact Ar27.1) (State.isArrayOf_alike hZ.alike Ar27.2.1) rfl Ar27.2.2 hin27 hat27 (g := (mkF m 16 #[.val (.int (4 : Int32)), .val (.ref b1), .val (.int (7 : Int32)), .val (.int (0 : Int32)), .unset] [(.int (0 : Int32)), (.ref b1)])) rfl rfl (hb hby dC4_16) _ ht) ?_
  refine OFin.of (S' := T1.setTop (mkF m 21 #[.val (.int (4 : Int32)), .val (.ref b1), .val (.int (7 : Int32)), .val (.int (0 : Int32)), .val (.ref x0)] [(.ref x0)])) (fun t ht => ?_) ?_
  · refine XS.astore X1.here hx rfl (hb hby dC4_17) rfl rfl (l' := #[.val (.int (4 : Int32)), .val (.ref b1), .val (.int (7 : Int32)), .val (.int (0 : Int32)), .val (.ref x0)]) rfl ?_
    show Steps p.tables e below (T1.setTop (mkF m 19 #[.val (.int (4 : Int32)), .val (.ref b1), .val (.int (7 : Int32)), .val (.int (0 : Int32)), .val (.ref x0)] [])) _
    refine XS.aload X1.here hx rfl (hb hby dC4_19) rfl rfl ?_
    exact ht
  obtain ⟨T28, X28, e28, st28⟩ := getF X1 hx hZ hown (host := "") (Or.inl (hw _ (List.mem_of_getElem? (i := 26) rfl))) Via.refl (rfl : T1.heap = T1.heap) f17 (g := (mkF m 21 #[.val (.int (4 : Int32)), .val (.ref b1), .val (.int (7 : Int32)), .val (.int (0 : Int32)), .val (.ref x0)] [(.ref x0)])) rfl rfl (hb hby dC4_21)
  refine OFin.of (S' := T28.setTop (mkF m 24 #[.val (.int (4 : Int32)), .val (.ref b1), .val (.int (7 : Int32)), .val (.int (0 : Int32)), .val (.ref x0)] [(.int (0 : Int32))])) (fun t ht => st28 t ht) ?_
  refine OFin.of (S' := T28.setTop (mkF m 16 #[.val (.int (4 : Int32)), .val (.ref b1), .val (.int (7 : Int32)), .val (.int (1 : Int32)), .val (.ref x0)] [(.int (1 : Int32)), (.ref b1)])) (fun t ht => ?_) ?_
  · refine XS.iloadN X28.here hx rfl (hb hby dC4_24) rfl ?_
    show Steps p.tables e below (T28.setTop (mkF m 25 _ [(.int (4 : Int32)), (.int (0 : Int32))])) _
    refine XS.icmpYes X28.here hx rfl (pc0 := 25) (pc' := 31) rfl (hb hby dC4_25) rfl (feq (by decide : ¬ ((0 : Int32) = (4 : Int32)))).2 (by decide) (by decide) ?_
    show Steps p.tables e below (T28.setTop (mkF m 31 _ [])) _
    refine XS.iinc X28.here hx rfl (hb hby dC4_31) rfl (l' := #[.val (.int (4 : Int32)), .val (.ref b1), .val (.int (7 : Int32)), .val (.int (1 : Int32)), .val (.ref x0)]) rfl ?_
    show Steps p.tables e below (T28.setTop (mkF m 34 #[.val (.int (4 : Int32)), .val (.ref b1), .val (.int (7 : Int32)), .val (.int (1 : Int32)), .val (.ref x0)] [])) _
    refine XS.goto X28.here hx rfl (pc0 := 34) (pc' := 9) rfl (hb hby dC4_34) (by decide) (by decide) ?_
    show Steps p.tables e below (T28.setTop (mkF m 9 _ [])) _
    refine XS.iloadN X28.here hx rfl (hb hby dC4_9) rfl ?_
    show Steps p.tables e below (T28.setTop (mkF m 10 _ [(.int (1 : Int32))])) _
    refine XS.iloadN X28.here hx rfl (hb hby dC4_10) rfl ?_
    show Steps p.tables e below (T28.setTop (mkF m 11 _ [(.int (7 : Int32)), (.int (1 : Int32))])) _
    refine XS.icmpNo X28.here hx rfl (hb hby dC4_11) rfl (tlt (by decide : (1 : Int32) < (7 : Int32))).2.1 ?_
    show Steps p.tables e below (T28.setTop (mkF m 14 _ [])) _
    refine XS.aloadN X28.here hx rfl (hb hby dC4_14) rfl rfl ?_
    show Steps p.tables e below (T28.setTop (mkF m 15 _ [(.ref b1)])) _
    refine XS.iloadN X28.here hx rfl (hb hby dC4_15) rfl ?_
    exact ht
  obtain ⟨cl29, Ar29, q29, S29, Ng29, H29, G29⟩ := id f2
  have hin29 := inb_of (j := (1 : Int32)) S29 ⟨by decide, by decide⟩
  have hat29 : cl29.slots[((1 : Int32)).toNatClampNeg]? = some (.ref x1) := Has.at H29 hin29 rfl
  refine OFin.of (S' := T28.setTop (mkF m 17 #[.val (.int (4 : Int32)), .val (.ref b1), .val (.int (7 : Int32)), .val (.int (1 : Int32)), .val (.ref x0)] [(.ref x1)])) (fun t ht => X28.aaload hx (j := (1 : Int32)) (v := (.ref x1)) (by rw [e28]; exact Ar29.1) (State.isArrayOf_alike hZ.alike Ar29.2.1) rfl Ar29.2.2 hin29 hat29 (g := (mkF m 16 #[.val (.int (4 : Int32)), .val (.ref b1), .val (.int (7 : Int32)), .val (.int (1 : Int32)), .val (.ref x0)] [(.int (1 : Int32)), (.ref b1)])) rfl rfl (hb hby dC4_16) _ ht) ?_
  refine OFin.of (S' := T28.setTop (mkF m 21 #[.val (.int (4 : Int32)), .val (.ref b1), .val (.int (7 : Int32)), .val (.int (1 : Int32)), .val (.ref x1)] [(.ref x1)])) (fun t ht => ?_) ?_
  · refine XS.astore X28.here hx rfl (hb hby dC4_17) rfl rfl (l' := #[.val (.int (4 : Int32)), .val (.ref b1), .val (.int (7 : Int32)), .val (.int (1 : Int32)), .val (.ref x1)]) rfl ?_
    show Steps p.tables e below (T28.setTop (mkF m 19 #[.val (.int (4 : Int32)), .val (.ref b1), .val (.int (7 : Int32)), .val (.int (1 : Int32)), .val (.ref x1)] [])) _
    refine XS.aload X28.here hx rfl (hb hby dC4_19) rfl rfl ?_
    exact ht
  obtain ⟨T30, X30, e30, st30⟩ := getF X28 hx hZ hown (host := "") (Or.inl (hw _ (List.mem_of_getElem? (i := 26) rfl))) Via.refl e28 f18 (g := (mkF m 21 #[.val (.int (4 : Int32)), .val (.ref b1), .val (.int (7 : Int32)), .val (.int (1 : Int32)), .val (.ref x1)] [(.ref x1)])) rfl rfl (hb hby dC4_21)
  refine OFin.of (S' := T30.setTop (mkF m 24 #[.val (.int (4 : Int32)), .val (.ref b1), .val (.int (7 : Int32)), .val (.int (1 : Int32)), .val (.ref x1)] [(.int (1 : Int32))])) (fun t ht => st30 t ht) ?_
  refine OFin.of (S' := T30.setTop (mkF m 16 #[.val (.int (4 : Int32)), .val (.ref b1), .val (.int (7 : Int32)), .val (.int (2 : Int32)), .val (.ref x1)] [(.int (2 : Int32)), (.ref b1)])) (fun t ht => ?_) ?_
  · refine XS.iloadN X30.here hx rfl (hb hby dC4_24) rfl ?_
    show Steps p.tables e below (T30.setTop (mkF m 25 _ [(.int (4 : Int32)), (.int (1 : Int32))])) _
    refine XS.icmpYes X30.here hx rfl (pc0 := 25) (pc' := 31) rfl (hb hby dC4_25) rfl (feq (by decide : ¬ ((1 : Int32) = (4 : Int32)))).2 (by decide) (by decide) ?_
    show Steps p.tables e below (T30.setTop (mkF m 31 _ [])) _
    refine XS.iinc X30.here hx rfl (hb hby dC4_31) rfl (l' := #[.val (.int (4 : Int32)), .val (.ref b1), .val (.int (7 : Int32)), .val (.int (2 : Int32)), .val (.ref x1)]) rfl ?_
    show Steps p.tables e below (T30.setTop (mkF m 34 #[.val (.int (4 : Int32)), .val (.ref b1), .val (.int (7 : Int32)), .val (.int (2 : Int32)), .val (.ref x1)] [])) _
    refine XS.goto X30.here hx rfl (pc0 := 34) (pc' := 9) rfl (hb hby dC4_34) (by decide) (by decide) ?_
    show Steps p.tables e below (T30.setTop (mkF m 9 _ [])) _
    refine XS.iloadN X30.here hx rfl (hb hby dC4_9) rfl ?_
    show Steps p.tables e below (T30.setTop (mkF m 10 _ [(.int (2 : Int32))])) _
    refine XS.iloadN X30.here hx rfl (hb hby dC4_10) rfl ?_
    show Steps p.tables e below (T30.setTop (mkF m 11 _ [(.int (7 : Int32)), (.int (2 : Int32))])) _
    refine XS.icmpNo X30.here hx rfl (hb hby dC4_11) rfl (tlt (by decide : (2 : Int32) < (7 : Int32))).2.1 ?_
    show Steps p.tables e below (T30.setTop (mkF m 14 _ [])) _
    refine XS.aloadN X30.here hx rfl (hb hby dC4_14) rfl rfl ?_
    show Steps p.tables e below (T30.setTop (mkF m 15 _ [(.ref b1)])) _
    refine XS.iloadN X30.here hx rfl (hb hby dC4_15) rfl ?_
    exact ht
  obtain ⟨cl31, Ar31, q31, S31, Ng31, H31, G31⟩ := id f2
  have hin31 := inb_of (j := (2 : Int32)) S31 ⟨by decide, by decide⟩
  have hat31 : cl31.slots[((2 : Int32)).toNatClampNeg]? = some (.ref x2) := Has.at H31 hin31 rfl
  refine OFin.of (S' := T30.setTop (mkF m 17 #[.val (.int (4 : Int32)), .val (.ref b1), .val (.int (7 : Int32)), .val (.int (2 : Int32)), .val (.ref x1)] [(.ref x2)])) (fun t ht => X30.aaload hx (j := (2 : Int32)) (v := (.ref x2)) (by rw [e30]; exact Ar31.1) (State.isArrayOf_alike hZ.alike Ar31.2.1) rfl Ar31.2.2 hin31 hat31 (g := (mkF m 16 #[.val (.int (4 : Int32)), .val (.ref b1), .val (.int (7 : Int32)), .val (.int (2 : Int32)), .val (.ref x1)] [(.int (2 : Int32)), (.ref b1)])) rfl rfl (hb hby dC4_16) _ ht) ?_
  refine OFin.of (S' := T30.setTop (mkF m 21 #[.val (.int (4 : Int32)), .val (.ref b1), .val (.int (7 : Int32)), .val (.int (2 : Int32)), .val (.ref x2)] [(.ref x2)])) (fun t ht => ?_) ?_
  · refine XS.astore X30.here hx rfl (hb hby dC4_17) rfl rfl (l' := #[.val (.int (4 : Int32)), .val (.ref b1), .val (.int (7 : Int32)), .val (.int (2 : Int32)), .val (.ref x2)]) rfl ?_
    show Steps p.tables e below (T30.setTop (mkF m 19 #[.val (.int (4 : Int32)), .val (.ref b1), .val (.int (7 : Int32)), .val (.int (2 : Int32)), .val (.ref x2)] [])) _
    refine XS.aload X30.here hx rfl (hb hby dC4_19) rfl rfl ?_
    exact ht
  obtain ⟨T32, X32, e32, st32⟩ := getF X30 hx hZ hown (host := "") (Or.inl (hw _ (List.mem_of_getElem? (i := 26) rfl))) Via.refl e30 f19 (g := (mkF m 21 #[.val (.int (4 : Int32)), .val (.ref b1), .val (.int (7 : Int32)), .val (.int (2 : Int32)), .val (.ref x2)] [(.ref x2)])) rfl rfl (hb hby dC4_21)
  refine OFin.of (S' := T32.setTop (mkF m 24 #[.val (.int (4 : Int32)), .val (.ref b1), .val (.int (7 : Int32)), .val (.int (2 : Int32)), .val (.ref x2)] [(.int (2 : Int32))])) (fun t ht => st32 t ht) ?_
  refine OFin.of (S' := T32.setTop (mkF m 16 #[.val (.int (4 : Int32)), .val (.ref b1), .val (.int (7 : Int32)), .val (.int (3 : Int32)), .val (.ref x2)] [(.int (3 : Int32)), (.ref b1)])) (fun t ht => ?_) ?_
  · refine XS.iloadN X32.here hx rfl (hb hby dC4_24) rfl ?_
    show Steps p.tables e below (T32.setTop (mkF m 25 _ [(.int (4 : Int32)), (.int (2 : Int32))])) _
    refine XS.icmpYes X32.here hx rfl (pc0 := 25) (pc' := 31) rfl (hb hby dC4_25) rfl (feq (by decide : ¬ ((2 : Int32) = (4 : Int32)))).2 (by decide) (by decide) ?_
    show Steps p.tables e below (T32.setTop (mkF m 31 _ [])) _
    refine XS.iinc X32.here hx rfl (hb hby dC4_31) rfl (l' := #[.val (.int (4 : Int32)), .val (.ref b1), .val (.int (7 : Int32)), .val (.int (3 : Int32)), .val (.ref x2)]) rfl ?_
    show Steps p.tables e below (T32.setTop (mkF m 34 #[.val (.int (4 : Int32)), .val (.ref b1), .val (.int (7 : Int32)), .val (.int (3 : Int32)), .val (.ref x2)] [])) _
    refine XS.goto X32.here hx rfl (pc0 := 34) (pc' := 9) rfl (hb hby dC4_34) (by decide) (by decide) ?_
    show Steps p.tables e below (T32.setTop (mkF m 9 _ [])) _
    refine XS.iloadN X32.here hx rfl (hb hby dC4_9) rfl ?_
    show Steps p.tables e below (T32.setTop (mkF m 10 _ [(.int (3 : Int32))])) _
    refine XS.iloadN X32.here hx rfl (hb hby dC4_10) rfl ?_
    show Steps p.tables e below (T32.setTop (mkF m 11 _ [(.int (7 : Int32)), (.int (3 : Int32))])) _
    refine XS.icmpNo X32.here hx rfl (hb hby dC4_11) rfl (tlt (by decide : (3 : Int32) < (7 : Int32))).2.1 ?_
    show Steps p.tables e below (T32.setTop (mkF m 14 _ [])) _
    refine XS.aloadN X32.here hx rfl (hb hby dC4_14) rfl rfl ?_
    show Steps p.tables e below (T32.setTop (mkF m 15 _ [(.ref b1)])) _
    refine XS.iloadN X32.here hx rfl (hb hby dC4_15) rfl ?_
    exact ht
  obtain ⟨cl33, Ar33, q33, S33, Ng33, H33, G33⟩ := id f2
  have hin33 := inb_of (j := (3 : Int32)) S33 ⟨by decide, by decide⟩
  have hat33 : cl33.slots[((3 : Int32)).toNatClampNeg]? = some (.ref x3) := Has.at H33 hin33 rfl
  refine OFin.of (S' := T32.setTop (mkF m 17 #[.val (.int (4 : Int32)), .val (.ref b1), .val (.int (7 : Int32)), .val (.int (3 : Int32)), .val (.ref x2)] [(.ref x3)])) (fun t ht => X32.aaload hx (j := (3 : Int32)) (v := (.ref x3)) (by rw [e32]; exact Ar33.1) (State.isArrayOf_alike hZ.alike Ar33.2.1) rfl Ar33.2.2 hin33 hat33 (g := (mkF m 16 #[.val (.int (4 : Int32)), .val (.ref b1), .val (.int (7 : Int32)), .val (.int (3 : Int32)), .val (.ref x2)] [(.int (3 : Int32)), (.ref b1)])) rfl rfl (hb hby dC4_16) _ ht) ?_
  refine OFin.of (S' := T32.setTop (mkF m 21 #[.val (.int (4 : Int32)), .val (.ref b1), .val (.int (7 : Int32)), .val (.int (3 : Int32)), .val (.ref x3)] [(.ref x3)])) (fun t ht => ?_) ?_
  · refine XS.astore X32.here hx rfl (hb hby dC4_17) rfl rfl (l' := #[.val (.int (4 : Int32)), .val (.ref b1), .val (.int (7 : Int32)), .val (.int (3 : Int32)), .val (.ref x3)]) rfl ?_
    show Steps p.tables e below (T32.setTop (mkF m 19 #[.val (.int (4 : Int32)), .val (.ref b1), .val (.int (7 : Int32)), .val (.int (3 : Int32)), .val (.ref x3)] [])) _
    refine XS.aload X32.here hx rfl (hb hby dC4_19) rfl rfl ?_
    exact ht
  obtain ⟨T34, X34, e34, st34⟩ := getF X32 hx hZ hown (host := "") (Or.inl (hw _ (List.mem_of_getElem? (i := 26) rfl))) Via.refl e32 f20 (g := (mkF m 21 #[.val (.int (4 : Int32)), .val (.ref b1), .val (.int (7 : Int32)), .val (.int (3 : Int32)), .val (.ref x3)] [(.ref x3)])) rfl rfl (hb hby dC4_21)
  refine OFin.of (S' := T34.setTop (mkF m 24 #[.val (.int (4 : Int32)), .val (.ref b1), .val (.int (7 : Int32)), .val (.int (3 : Int32)), .val (.ref x3)] [(.int (3 : Int32))])) (fun t ht => st34 t ht) ?_
  refine OFin.of (S' := T34.setTop (mkF m 16 #[.val (.int (4 : Int32)), .val (.ref b1), .val (.int (7 : Int32)), .val (.int (4 : Int32)), .val (.ref x3)] [(.int (4 : Int32)), (.ref b1)])) (fun t ht => ?_) ?_
  · refine XS.iloadN X34.here hx rfl (hb hby dC4_24) rfl ?_
    show Steps p.tables e below (T34.setTop (mkF m 25 _ [(.int (4 : Int32)), (.int (3 : Int32))])) _
    refine XS.icmpYes X34.here hx rfl (pc0 := 25) (pc' := 31) rfl (hb hby dC4_25) rfl (feq (by decide : ¬ ((3 : Int32) = (4 : Int32)))).2 (by decide) (by decide) ?_
    show Steps p.tables e below (T34.setTop (mkF m 31 _ [])) _
    refine XS.iinc X34.here hx rfl (hb hby dC4_31) rfl (l' := #[.val (.int (4 : Int32)), .val (.ref b1), .val (.int (7 : Int32)), .val (.int (4 : Int32)), .val (.ref x3)]) rfl ?_
    show Steps p.tables e below (T34.setTop (mkF m 34 #[.val (.int (4 : Int32)), .val (.ref b1), .val (.int (7 : Int32)), .val (.int (4 : Int32)), .val (.ref x3)] [])) _
    refine XS.goto X34.here hx rfl (pc0 := 34) (pc' := 9) rfl (hb hby dC4_34) (by decide) (by decide) ?_
    show Steps p.tables e below (T34.setTop (mkF m 9 _ [])) _
    refine XS.iloadN X34.here hx rfl (hb hby dC4_9) rfl ?_
    show Steps p.tables e below (T34.setTop (mkF m 10 _ [(.int (4 : Int32))])) _
    refine XS.iloadN X34.here hx rfl (hb hby dC4_10) rfl ?_
    show Steps p.tables e below (T34.setTop (mkF m 11 _ [(.int (7 : Int32)), (.int (4 : Int32))])) _
    refine XS.icmpNo X34.here hx rfl (hb hby dC4_11) rfl (tlt (by decide : (4 : Int32) < (7 : Int32))).2.1 ?_
    show Steps p.tables e below (T34.setTop (mkF m 14 _ [])) _
    refine XS.aloadN X34.here hx rfl (hb hby dC4_14) rfl rfl ?_
    show Steps p.tables e below (T34.setTop (mkF m 15 _ [(.ref b1)])) _
    refine XS.iloadN X34.here hx rfl (hb hby dC4_15) rfl ?_
    exact ht
  obtain ⟨cl35, Ar35, q35, S35, Ng35, H35, G35⟩ := id f2
  have hin35 := inb_of (j := (4 : Int32)) S35 ⟨by decide, by decide⟩
  have hat35 : cl35.slots[((4 : Int32)).toNatClampNeg]? = some (.ref x4) := Has.at H35 hin35 rfl
  refine OFin.of (S' := T34.setTop (mkF m 17 #[.val (.int (4 : Int32)), .val (.ref b1), .val (.int (7 : Int32)), .val (.int (4 : Int32)), .val (.ref x3)] [(.ref x4)])) (fun t ht => X34.aaload hx (j := (4 : Int32)) (v := (.ref x4)) (by rw [e34]; exact Ar35.1) (State.isArrayOf_alike hZ.alike Ar35.2.1) rfl Ar35.2.2 hin35 hat35 (g := (mkF m 16 #[.val (.int (4 : Int32)), .val (.ref b1), .val (.int (7 : Int32)), .val (.int (4 : Int32)), .val (.ref x3)] [(.int (4 : Int32)), (.ref b1)])) rfl rfl (hb hby dC4_16) _ ht) ?_
  refine OFin.of (S' := T34.setTop (mkF m 21 #[.val (.int (4 : Int32)), .val (.ref b1), .val (.int (7 : Int32)), .val (.int (4 : Int32)), .val (.ref x4)] [(.ref x4)])) (fun t ht => ?_) ?_
  · refine XS.astore X34.here hx rfl (hb hby dC4_17) rfl rfl (l' := #[.val (.int (4 : Int32)), .val (.ref b1), .val (.int (7 : Int32)), .val (.int (4 : Int32)), .val (.ref x4)]) rfl ?_
    show Steps p.tables e below (T34.setTop (mkF m 19 #[.val (.int (4 : Int32)), .val (.ref b1), .val (.int (7 : Int32)), .val (.int (4 : Int32)), .val (.ref x4)] [])) _
    refine XS.aload X34.here hx rfl (hb hby dC4_19) rfl rfl ?_
    exact ht
  obtain ⟨T36, X36, e36, st36⟩ := getF X34 hx hZ hown (host := "") (Or.inl (hw _ (List.mem_of_getElem? (i := 26) rfl))) Via.refl e34 f21 (g := (mkF m 21 #[.val (.int (4 : Int32)), .val (.ref b1), .val (.int (7 : Int32)), .val (.int (4 : Int32)), .val (.ref x4)] [(.ref x4)])) rfl rfl (hb hby dC4_21)
  refine OFin.of (S' := T36.setTop (mkF m 24 #[.val (.int (4 : Int32)), .val (.ref b1), .val (.int (7 : Int32)), .val (.int (4 : Int32)), .val (.ref x4)] [(.int (4 : Int32))])) (fun t ht => st36 t ht) ?_
  refine OFin.of (S' := T36.setTop (mkF m 30 #[.val (.int (4 : Int32)), .val (.ref b1), .val (.int (7 : Int32)), .val (.int (4 : Int32)), .val (.ref x4)] [(.ref x4)])) (fun t ht => ?_) ?_
  · refine XS.iloadN X36.here hx rfl (hb hby dC4_24) rfl ?_
    show Steps p.tables e below (T36.setTop (mkF m 25 _ [(.int (4 : Int32)), (.int (4 : Int32))])) _
    refine XS.icmpNo X36.here hx rfl (hb hby dC4_25) rfl (teq (by decide : (4 : Int32) = (4 : Int32))).2 ?_
    show Steps p.tables e below (T36.setTop (mkF m 28 _ [])) _
    refine XS.aload X36.here hx rfl (hb hby dC4_28) rfl rfl ?_
    exact ht
  exact OFin.retA X36 hx hlk (t := (.object "com/example/querant/querant/exchange/Exchange$Outcome")) rfl rfl hret (hb hby dC4_30) (by decide) (by decide) (by rw [e36]; exact ⟨rfl, N3, K25⟩)
theorem dC5_0 : decode prog_3_method_5_code 0 = .ok (.invokestatic 48, 3) := by decide +kernel
theorem dC5_3 : decode prog_3_method_5_code 3 = .ok (.astore_n 1, 1) := by decide +kernel
theorem dC5_4 : decode prog_3_method_5_code 4 = .ok (.aload_n 1, 1) := by decide +kernel
theorem dC5_5 : decode prog_3_method_5_code 5 = .ok (.arraylength, 1) := by decide +kernel
theorem dC5_6 : decode prog_3_method_5_code 6 = .ok (.istore_n 2, 1) := by decide +kernel
theorem dC5_7 : decode prog_3_method_5_code 7 = .ok (.iconst 0, 1) := by decide +kernel
theorem dC5_8 : decode prog_3_method_5_code 8 = .ok (.istore_n 3, 1) := by decide +kernel
theorem dC5_9 : decode prog_3_method_5_code 9 = .ok (.iload_n 3, 1) := by decide +kernel
theorem dC5_10 : decode prog_3_method_5_code 10 = .ok (.iload_n 2, 1) := by decide +kernel
theorem dC5_11 : decode prog_3_method_5_code 11 = .ok (.if_icmp .ge 26, 3) := by decide +kernel
theorem dC5_14 : decode prog_3_method_5_code 14 = .ok (.aload_n 1, 1) := by decide +kernel
theorem dC5_15 : decode prog_3_method_5_code 15 = .ok (.iload_n 3, 1) := by decide +kernel
theorem dC5_16 : decode prog_3_method_5_code 16 = .ok (.aaload, 1) := by decide +kernel
theorem dC5_17 : decode prog_3_method_5_code 17 = .ok (.astore 4, 2) := by decide +kernel
theorem dC5_19 : decode prog_3_method_5_code 19 = .ok (.aload 4, 2) := by decide +kernel
theorem dC5_21 : decode prog_3_method_5_code 21 = .ok (.getfield 44, 3) := by decide +kernel
theorem dC5_24 : decode prog_3_method_5_code 24 = .ok (.iload_n 0, 1) := by decide +kernel
theorem dC5_25 : decode prog_3_method_5_code 25 = .ok (.if_icmp .ne 6, 3) := by decide +kernel
theorem dC5_28 : decode prog_3_method_5_code 28 = .ok (.aload 4, 2) := by decide +kernel
theorem dC5_30 : decode prog_3_method_5_code 30 = .ok (.areturn, 1) := by decide +kernel
theorem dC5_31 : decode prog_3_method_5_code 31 = .ok (.iinc 3 1, 3) := by decide +kernel
theorem dC5_34 : decode prog_3_method_5_code 34 = .ok (.goto (-25), 3) := by decide +kernel
theorem pnC5 : plainName "com/example/querant/querant/exchange/Exchange$Outcome" = true := by first | (simp [plainName, overriddenIn]; done) | decide +kernel
theorem efC5 (m : MethodId)  : entryFrame m #[(.int (5 : Int32))] 5 = mkF m 0 #[.val (.int (5 : Int32)), .unset, .unset, .unset, .unset] [] := by first | (simp [entryFrame, mkF, argsToLocals, Value.category]; done) | rfl
def QC5 (Z : State) (av : Addr) (k : ClassId) (x0 : Addr) (x1 : Addr) (x2 : Addr) (x3 : Addr) (x4 : Addr) (x5 : Addr) (x6 : Addr) (h0 : Heap) (n0 : Nat) (v : Option Value) (h : Heap) (L : List Loc) : Prop := v = some (.ref x5) ∧ Fr n0 L ∧ Keep h0 h []
set_option maxRecDepth 65536 in
set_option maxHeartbeats 40000000 in
theorem rmC5 (l : Launch) (Z : State) (a0 : Array Value) (hw : ∀ d ∈ tables_1, d.before a0 Z = true) (ws : List Jvm.Cond) (av : Addr) (k : ClassId) (x0 : Addr) (x1 : Addr) (x2 : Addr) (x3 : Addr) (x4 : Addr) (x5 : Addr) (x6 : Addr) (h0 : Heap) (n0 : Nat) (Z0 : n0 ≤ h0.size) (Sv : Sta Z h0 "com/example/querant/querant/exchange/Exchange$Outcome" "$VALUES" "[Lcom/example/querant/querant/exchange/Exchange$Outcome;" (.ref av)) (Ev : Exa Z h0 av "[Lcom/example/querant/querant/exchange/Exchange$Outcome;") (V1 : Arv Z h0 av k (.object "com/example/querant/querant/exchange/Exchange$Outcome") (7 : Int32) [(.ref x0), (.ref x1), (.ref x2), (.ref x3), (.ref x4), (.ref x5), (.ref x6)] .null) (O0 : Fld Z h0 x0 "com/example/querant/querant/exchange/Exchange$Outcome" "code" "I" (.int (0 : Int32))) (O1 : Fld Z h0 x1 "com/example/querant/querant/exchange/Exchange$Outcome" "code" "I" (.int (1 : Int32))) (O2 : Fld Z h0 x2 "com/example/querant/querant/exchange/Exchange$Outcome" "code" "I" (.int (2 : Int32))) (O3 : Fld Z h0 x3 "com/example/querant/querant/exchange/Exchange$Outcome" "code" "I" (.int (3 : Int32))) (O4 : Fld Z h0 x4 "com/example/querant/querant/exchange/Exchange$Outcome" "code" "I" (.int (4 : Int32))) (O5 : Fld Z h0 x5 "com/example/querant/querant/exchange/Exchange$Outcome" "code" "I" (.int (5 : Int32))) (O6 : Fld Z h0 x6 "com/example/querant/querant/exchange/Exchange$Outcome" "code" "I" (.int (6 : Int32))) :
    MetFree l (⟨"com/example/querant/querant/exchange/Exchange$Outcome", "ofCode", "(I)Lcom/example/querant/querant/exchange/Exchange$Outcome;"⟩ : MethodName) (head1 (Jvm.Cond.code (⟨"com/example/querant/querant/exchange/Exchange$Outcome", "ofCode", "(I)Lcom/example/querant/querant/exchange/Exchange$Outcome;"⟩ : MethodName) prog_3_method_5_code 5 (some (.object "com/example/querant/querant/exchange/Exchange$Outcome")) :: ws) ({ frames := 2, cells := 1, slots := 7, locals := 25 } : Room)) (fun a U => a = #[(.int (5 : Int32))] ∧ Z.Warmed39 U.vm ∧ U.heap = h0) (fun _ _ _ _ _ => True) (fun _ U o U' => ∃ v L, o = .returned v ∧ QC5 Z av k x0 x1 x2 x3 x4 x5 x6 h0 n0 v U'.heap L ∧ FrameEnd U o U' L ({ frames := 2, cells := 1, slots := 7, locals := 25 } : Room).cells ({ frames := 2, cells := 1, slots := 7, locals := 25 } : Room).slots) := by
  refine MetFree.of_bodySF (plainFor_of_name pnC5) hisR ?_
  intro p e s m args below meth c s₁ Bd hml0 hP hK
  obtain ⟨rfl, hZ, hh⟩ := hP
  have hx := Bd.exec
  have hby := Bd.bytes
  have hlk := BodyLoose.notSynchronized Bd
  have hret := Bd.returns
  have hml : c.maxLocals = 5 := hml0
  have hown : s.vm.findClass "com/example/querant/querant/exchange/Exchange$Outcome" = some m.cls := findClass_of_methodNamed Bd.named
  have hnm := (name_of_methodNamed Bd.named Bd.method).1
  have X0 : Stand p l e ({ frames := 2, cells := 1, slots := 7, locals := 25 } : Room) s m #[(.int (5 : Int32))] below meth c s₁ [] 0 0 := Stand.of_body Bd
  have e0 : s₁.heap = h0 := by rw [← hh, Bd.state]; rfl
  have N0 := Fr.nil n0
  show OFin p e below (KPost s (QC5 Z av k x0 x1 x2 x3 x4 x5 x6 h0 n0) ({ frames := 2, cells := 1, slots := 7, locals := 25 } : Room).cells ({ frames := 2, cells := 1, slots := 7, locals := 25 } : Room).slots) _
  rw [efC5 m ]
  have K0 : Keep h0 h0 [] := Keep.refl _ _
  obtain ⟨_, _, ⟨T1, L1, k1, n1⟩, -, X1, ⟨Lc1, hQ1, l1, y1, z1⟩, st1⟩ := Jvm.LawKit.callS X0 hx (y := (⟨"com/example/querant/querant/exchange/Exchange$Outcome", "values", "()[Lcom/example/querant/querant/exchange/Exchange$Outcome;"⟩ : MethodName)) hown (mvT hZ (hw _ (List.mem_of_getElem? (i := 4) rfl))) (mvT hZ (hw _ (List.mem_of_getElem? (i := 5) rfl))) (mvT hZ (hw _ (List.mem_of_getElem? (i := 2) rfl))) (mvT hZ (hw _ (List.mem_of_getElem? (i := 6) rfl))) (by decide) (backOf (W := 0) (rmVl l Z _ hw [] av k x0 x1 x2 x3 x4 x5 x6 h0 n0 Z0 Sv Ev V1) hZ (hw _ (List.mem_of_getElem? (i := 6) rfl)) (hw _ (List.mem_of_getElem? (i := 2) rfl)) (by decide) (by decide)) (g := (mkF m 0 #[.val (.int (5 : Int32)), .unset, .unset, .unset, .unset] [])) rfl (by rw [hml]; rfl) (argsL := []) (rest := []) (lenOf pd_0 rfl) rfl (by show 2 * 0 + _ ≤ _; exact Nat.le_of_eq rfl) (hb hby dC5_0) (fun _ _ => ⟨rfl, e0, (by decide : 0 + 1 ≤ _), (by decide : 0 + 7 ≤ _)⟩)
  dsimp only [Pt.U, Pt.locs, Pt.cells, Pt.slots] at X1 l1 y1 z1 st1 hQ1
  subst l1 y1 z1
  obtain ⟨rfl, Nq1, Eq1, f2⟩ := hQ1
  have N3 := Fr.app N0 Nq1
  obtain ⟨b1, gq1⟩ : ∃ z, z = h0.size := ⟨_, rfl⟩
  rw [← gq1] at f2 st1
  have g4 : n0 ≤ b1 := (Nat.le_trans Z0 (Nat.le_of_eq gq1.symm))
  have sz5 : h0.size ≤ b1 := (Nat.le_trans K0.1 (Nat.le_of_eq gq1.symm))
  have ne6 : av ≠ b1 := (Nat.ne_of_lt (Nat.lt_of_lt_of_le Ev.lt (Nat.le_of_eq gq1.symm)))
  have ne7 : x0 ≠ b1 := (Nat.ne_of_lt (Nat.lt_of_lt_of_le O0.lt (Nat.le_of_eq gq1.symm)))
  have ne8 : x1 ≠ b1 := (Nat.ne_of_lt (Nat.lt_of_lt_of_le O1.lt (Nat.le_of_eq gq1.symm)))
  have ne9 : x2 ≠ b1 := (Nat.ne_of_lt (Nat.lt_of_lt_of_le O2.lt (Nat.le_of_eq gq1.symm)))
  have ne10 : x3 ≠ b1 := (Nat.ne_of_lt (Nat.lt_of_lt_of_le O3.lt (Nat.le_of_eq gq1.symm)))
  have ne11 : x4 ≠ b1 := (Nat.ne_of_lt (Nat.lt_of_lt_of_le O4.lt (Nat.le_of_eq gq1.symm)))
  have ne12 : x5 ≠ b1 := (Nat.ne_of_lt (Nat.lt_of_lt_of_le O5.lt (Nat.le_of_eq gq1.symm)))
  have ne13 : x6 ≠ b1 := (Nat.ne_of_lt (Nat.lt_of_lt_of_le O6.lt (Nat.le_of_eq gq1.symm)))
  have f14 := Sv.ext Eq1
  have f15 := Ev.ext Eq1
  have f16 := V1.ext Eq1
  have f17 := O0.ext Eq1
  have f18 := O1.ext Eq1
  have f19 := O2.ext Eq1
  have f20 := O3.ext Eq1
  have f21 := O4.ext Eq1
  have f22 := O5.ext Eq1
  have f23 := O6.ext Eq1
  have Z24 : n0 ≤ T1.heap.size := (Nat.le_trans Z0 Eq1.1)
  have K25 : Keep h0 T1.heap [] := (K0.ext Eq1)
  refine OFin.of (S' := T1.setTop (mkF m 3 #[.val (.int (5 : Int32)), .unset, .unset, .unset, .unset] [(.ref b1)])) (fun t ht => st1 t ht) ?_
  refine OFin.of (S' := T1.setTop (mkF m 5 #[.val (.int (5 : Int32)), .val (.ref b1), .unset, .unset, .unset] [(.ref b1)])) (fun t ht => ?_) ?_
  · refine XS.astoreN X1.here hx rfl (hb hby dC5_3) rfl rfl (l' := #[.val (.int (5 : Int32)), .val (.ref b1), .unset, .unset, .unset]) rfl ?_
    show Steps p.tables e below (T1.setTop (mkF m 4 #[.val (.int (5 : Int32)), .val (.ref b1), .unset, .unset, .unset] [])) _
    refine XS.aloadN X1.here hx rfl (hb hby dC5_4) rfl rfl ?_
    exact ht
  obtain ⟨cl26, Ar26, q26, S26, Ng26, H26, G26⟩ := id f2
  refine OFin.of (S' := T1.setTop (mkF m 6 #[.val (.int (5 : Int32)), .val (.ref b1), .unset, .unset, .unset] [(.int (7 : Int32))])) (fun t ht => own_alen X1 hx hZ (rfl : T1.heap = T1.heap) Ar26 S26 Ng26 (g := (mkF m 5 #[.val (.int (5 : Int32)), .val (.ref b1), .unset, .unset, .unset] [(.ref b1)])) rfl rfl (hb hby dC5_5) ht) ?_
  refine OFin.of (S' := T1.setTop (mkF m 16 #[.val (.int (5 : Int32)), .val (.ref b1), .val (.int (7 : Int32)), .val (.int (0 : Int32)), .unset] [(.int (0 : Int32)), (.ref b1)])) (fun t ht => ?_) ?_
  · refine XS.istoreN X1.here hx rfl (hb hby dC5_6) rfl (l' := #[.val (.int (5 : Int32)), .val (.ref b1), .val (.int (7 : Int32)), .unset, .unset]) rfl ?_
    show Steps p.tables e below (T1.setTop (mkF m 7 #[.val (.int (5 : Int32)), .val (.ref b1), .val (.int (7 : Int32)), .unset, .unset] [])) _
    refine XS.iconst X1.here hx rfl (hb hby dC5_7) ?_
    show Steps p.tables e below (T1.setTop (mkF m 8 _ [(.int (0 : Int32))])) _
    refine XS.istoreN X1.here hx rfl (hb hby dC5_8) rfl (l' := #[.val (.int (5 : Int32)), .val (.ref b1), .val (.int (7 : Int32)), .val (.int (0 : Int32)), .unset]) rfl ?_
    show Steps p.tables e below (T1.setTop (mkF m 9 #[.val (.int (5 : Int32)), .val (.ref b1), .val (.int (7 : Int32)), .val (.int (0 : Int32)), .unset] [])) _
    refine XS.iloadN X1.here hx rfl (hb hby dC5_9) rfl ?_
    show Steps p.tables e below (T1.setTop (mkF m 10 _ [(.int (0 : Int32))])) _
    refine XS.iloadN X1.here hx rfl (hb hby dC5_10) rfl ?_
    show Steps p.tables e below (T1.setTop (mkF m 11 _ [(.int (7 : Int32)), (.int (0 : Int32))])) _
    refine XS.icmpNo X1.here hx rfl (hb hby dC5_11) rfl (tlt (by decide : (0 : Int32) < (7 : Int32))).2.1 ?_
    show Steps p.tables e below (T1.setTop (mkF m 14 _ [])) _
    refine XS.aloadN X1.here hx rfl (hb hby dC5_14) rfl rfl ?_
    show Steps p.tables e below (T1.setTop (mkF m 15 _ [(.ref b1)])) _
    refine XS.iloadN X1.here hx rfl (hb hby dC5_15) rfl ?_
    exact ht
  obtain ⟨cl27, Ar27, q27, S27, Ng27, H27, G27⟩ := id f2
  have hin27 := inb_of (j := (0 : Int32)) S27 ⟨by decide, by decide⟩
  have hat27 : cl27.slots[((0 : Int32)).toNatClampNeg]? = some (.ref x0) := Has.at H27 hin27 rfl
  refine OFin.of (S' := T1.setTop (mkF m 17 #[.val (.int (5 : Int32)), .val (.ref b1), .val (.int (7 : Int32)), .val (.int (0 : Int32)), .unset] [(.ref x0)])) (fun t ht => X1.aaload hx (j := (0 : Int32)) (v := (.ref x0)) (by rw [(rfl : T1.heap = T1.heap)]; exact Ar27.1) (State.isArrayOf_alike hZ.alike Ar27.2.1) rfl Ar27.2.2 hin27 hat27 (g := (mkF m 16 #[.val (.int (5 : Int32)), .val (.ref b1), .val (.int (7 : Int32)), .val (.int (0 : Int32)), .unset] [(.int (0 : Int32)), (.ref b1)])) rfl rfl (hb hby dC5_16) _ ht) ?_
  refine OFin.of (S' := T1.setTop (mkF m 21 #[.val (.int (5 : Int32)), .val (.ref b1), .val (.int (7 : Int32)), .val (.int (0 : Int32)), .val (.ref x0)] [(.ref x0)])) (fun t ht => ?_) ?_
  · refine XS.astore X1.here hx rfl (hb hby dC5_17) rfl rfl (l' := #[.val (.int (5 : Int32)), .val (.ref b1), .val (.int (7 : Int32)), .val (.int (0 : Int32)), .val (.ref x0)]) rfl ?_
    show Steps p.tables e below (T1.setTop (mkF m 19 #[.val (.int (5 : Int32)), .val (.ref b1), .val (.int (7 : Int32)), .val (.int (0 : Int32)), .val (.ref x0)] [])) _
    refine XS.aload X1.here hx rfl (hb hby dC5_19) rfl rfl ?_
    exact ht
  obtain ⟨T28, X28, e28, st28⟩ := getF X1 hx hZ hown (host := "") (Or.inl (hw _ (List.mem_of_getElem? (i := 26) rfl))) Via.refl (rfl : T1.heap = T1.heap) f17 (g := (mkF m 21 #[.val (.int (5 : Int32)), .val (.ref b1), .val (.int (7 : Int32)), .val (.int (0 : Int32)), .val (.ref x0)] [(.ref x0)])) rfl rfl (hb hby dC5_21)
  refine OFin.of (S' := T28.setTop (mkF m 24 #[.val (.int (5 : Int32)), .val (.ref b1), .val (.int (7 : Int32)), .val (.int (0 : Int32)), .val (.ref x0)] [(.int (0 : Int32))])) (fun t ht => st28 t ht) ?_
  refine OFin.of (S' := T28.setTop (mkF m 16 #[.val (.int (5 : Int32)), .val (.ref b1), .val (.int (7 : Int32)), .val (.int (1 : Int32)), .val (.ref x0)] [(.int (1 : Int32)), (.ref b1)])) (fun t ht => ?_) ?_
  · refine XS.iloadN X28.here hx rfl (hb hby dC5_24) rfl ?_
    show Steps p.tables e below (T28.setTop (mkF m 25 _ [(.int (5 : Int32)), (.int (0 : Int32))])) _
    refine XS.icmpYes X28.here hx rfl (pc0 := 25) (pc' := 31) rfl (hb hby dC5_25) rfl (feq (by decide : ¬ ((0 : Int32) = (5 : Int32)))).2 (by decide) (by decide) ?_
    show Steps p.tables e below (T28.setTop (mkF m 31 _ [])) _
    refine XS.iinc X28.here hx rfl (hb hby dC5_31) rfl (l' := #[.val (.int (5 : Int32)), .val (.ref b1), .val (.int (7 : Int32)), .val (.int (1 : Int32)), .val (.ref x0)]) rfl ?_
    show Steps p.tables e below (T28.setTop (mkF m 34 #[.val (.int (5 : Int32)), .val (.ref b1), .val (.int (7 : Int32)), .val (.int (1 : Int32)), .val (.ref x0)] [])) _
    refine XS.goto X28.here hx rfl (pc0 := 34) (pc' := 9) rfl (hb hby dC5_34) (by decide) (by decide) ?_
    show Steps p.tables e below (T28.setTop (mkF m 9 _ [])) _
    refine XS.iloadN X28.here hx rfl (hb hby dC5_9) rfl ?_
    show Steps p.tables e below (T28.setTop (mkF m 10 _ [(.int (1 : Int32))])) _
    refine XS.iloadN X28.here hx rfl (hb hby dC5_10) rfl ?_
    show Steps p.tables e below (T28.setTop (mkF m 11 _ [(.int (7 : Int32)), (.int (1 : Int32))])) _
    refine XS.icmpNo X28.here hx rfl (hb hby dC5_11) rfl (tlt (by decide : (1 : Int32) < (7 : Int32))).2.1 ?_
    show Steps p.tables e below (T28.setTop (mkF m 14 _ [])) _
    refine XS.aloadN X28.here hx rfl (hb hby dC5_14) rfl rfl ?_
    show Steps p.tables e below (T28.setTop (mkF m 15 _ [(.ref b1)])) _
    refine XS.iloadN X28.here hx rfl (hb hby dC5_15) rfl ?_
    exact ht
  obtain ⟨cl29, Ar29, q29, S29, Ng29, H29, G29⟩ := id f2
  have hin29 := inb_of (j := (1 : Int32)) S29 ⟨by decide, by decide⟩
  have hat29 : cl29.slots[((1 : Int32)).toNatClampNeg]? = some (.ref x1) := Has.at H29 hin29 rfl
  refine OFin.of (S' := T28.setTop (mkF m 17 #[.val (.int (5 : Int32)), .val (.ref b1), .val (.int (7 : Int32)), .val (.int (1 : Int32)), .val (.ref x0)] [(.ref x1)])) (fun t ht => X28.aaload hx (j := (1 : Int32)) (v := (.ref x1)) (by rw [e28]; exact Ar29.1) (State.isArrayOf_alike hZ.alike Ar29.2.1) rfl Ar29.2.2 hin29 hat29 (g := (mkF m 16 #[.val (.int (5 : Int32)), .val (.ref b1), .val (.int (7 : Int32)), .val (.int (1 : Int32)), .val (.ref x0)] [(.int (1 : Int32)), (.ref b1)])) rfl rfl (hb hby dC5_16) _ ht) ?_
  refine OFin.of (S' := T28.setTop (mkF m 21 #[.val (.int (5 : Int32)), .val (.ref b1), .val (.int (7 : Int32)), .val (.int (1 : Int32)), .val (.ref x1)] [(.ref x1)])) (fun t ht => ?_) ?_
  · refine XS.astore X28.here hx rfl (hb hby dC5_17) rfl rfl (l' := #[.val (.int (5 : Int32)), .val (.ref b1), .val (.int (7 : Int32)), .val (.int (1 : Int32)), .val (.ref x1)]) rfl ?_
    show Steps p.tables e below (T28.setTop (mkF m 19 #[.val (.int (5 : Int32)), .val (.ref b1), .val (.int (7 : Int32)), .val (.int (1 : Int32)), .val (.ref x1)] [])) _
    refine XS.aload X28.here hx rfl (hb hby dC5_19) rfl rfl ?_
    exact ht
  obtain ⟨T30, X30, e30, st30⟩ := getF X28 hx hZ hown (host := "") (Or.inl (hw _ (List.mem_of_getElem? (i := 26) rfl))) Via.refl e28 f18 (g := (mkF m 21 #[.val (.int (5 : Int32)), .val (.ref b1), .val (.int (7 : Int32)), .val (.int (1 : Int32)), .val (.ref x1)] [(.ref x1)])) rfl rfl (hb hby dC5_21)
  refine OFin.of (S' := T30.setTop (mkF m 24 #[.val (.int (5 : Int32)), .val (.ref b1), .val (.int (7 : Int32)), .val (.int (1 : Int32)), .val (.ref x1)] [(.int (1 : Int32))])) (fun t ht => st30 t ht) ?_
  refine OFin.of (S' := T30.setTop (mkF m 16 #[.val (.int (5 : Int32)), .val (.ref b1), .val (.int (7 : Int32)), .val (.int (2 : Int32)), .val (.ref x1)] [(.int (2 : Int32)), (.ref b1)])) (fun t ht => ?_) ?_
  · refine XS.iloadN X30.here hx rfl (hb hby dC5_24) rfl ?_
    show Steps p.tables e below (T30.setTop (mkF m 25 _ [(.int (5 : Int32)), (.int (1 : Int32))])) _
    refine XS.icmpYes X30.here hx rfl (pc0 := 25) (pc' := 31) rfl (hb hby dC5_25) rfl (feq (by decide : ¬ ((1 : Int32) = (5 : Int32)))).2 (by decide) (by decide) ?_
    show Steps p.tables e below (T30.setTop (mkF m 31 _ [])) _
    refine XS.iinc X30.here hx rfl (hb hby dC5_31) rfl (l' := #[.val (.int (5 : Int32)), .val (.ref b1), .val (.int (7 : Int32)), .val (.int (2 : Int32)), .val (.ref x1)]) rfl ?_
    show Steps p.tables e below (T30.setTop (mkF m 34 #[.val (.int (5 : Int32)), .val (.ref b1), .val (.int (7 : Int32)), .val (.int (2 : Int32)), .val (.ref x1)] [])) _
    refine XS.goto X30.here hx rfl (pc0 := 34) (pc' := 9) rfl (hb hby dC5_34) (by decide) (by decide) ?_
    show Steps p.tables e below (T30.setTop (mkF m 9 _ [])) _
    refine XS.iloadN X30.here hx rfl (hb hby dC5_9) rfl ?_
    show Steps p.tables e below (T30.setTop (mkF m 10 _ [(.int (2 : Int32))])) _
    refine XS.iloadN X30.here hx rfl (hb hby dC5_10) rfl ?_
    show Steps p.tables e below (T30.setTop (mkF m 11 _ [(.int (7 : Int32)), (.int (2 : Int32))])) _
    refine XS.icmpNo X30.here hx rfl (hb hby dC5_11) rfl (tlt (by decide : (2 : Int32) < (7 : Int32))).2.1 ?_
    show Steps p.tables e below (T30.setTop (mkF m 14 _ [])) _
    refine XS.aloadN X30.here hx rfl (hb hby dC5_14) rfl rfl ?_
    show Steps p.tables e below (T30.setTop (mkF m 15 _ [(.ref b1)])) _
    refine XS.iloadN X30.here hx rfl (hb hby dC5_15) rfl ?_
    exact ht
  obtain ⟨cl31, Ar31, q31, S31, Ng31, H31, G31⟩ := id f2
  have hin31 := inb_of (j := (2 : Int32)) S31 ⟨by decide, by decide⟩
  have hat31 : cl31.slots[((2 : Int32)).toNatClampNeg]? = some (.ref x2) := Has.at H31 hin31 rfl
  refine OFin.of (S' := T30.setTop (mkF m 17 #[.val (.int (5 : Int32)), .val (.ref b1), .val (.int (7 : Int32)), .val (.int (2 : Int32)), .val (.ref x1)] [(.ref x2)])) (fun t ht => X30.aaload hx (j := (2 : Int32)) (v := (.ref x2)) (by rw [e30]; exact Ar31.1) (State.isArrayOf_alike hZ.alike Ar31.2.1) rfl Ar31.2.2 hin31 hat31 (g := (mkF m 16 #[.val (.int (5 : Int32)), .val (.ref b1), .val (.int (7 : Int32)), .val (.int (2 : Int32)), .val (.ref x1)] [(.int (2 : Int32)), (.ref b1)])) rfl rfl (hb hby dC5_16) _ ht) ?_
  refine OFin.of (S' := T30.setTop (mkF m 21 #[.val (.int (5 : Int32)), .val (.ref b1), .val (.int (7 : Int32)), .val (.int (2 : Int32)), .val (.ref x2)] [(.ref x2)])) (fun t ht => ?_) ?_
  · refine XS.astore X30.here hx rfl (hb hby dC5_17) rfl rfl (l' := #[.val (.int (5 : Int32)), .val (.ref b1), .val (.int (7 : Int32)), .val (.int (2 : Int32)), .val (.ref x2)]) rfl ?_
    show Steps p.tables e below (T30.setTop (mkF m 19 #[.val (.int (5 : Int32)), .val (.ref b1), .val (.int (7 : Int32)), .val (.int (2 : Int32)), .val (.ref x2)] [])) _
    refine XS.aload X30.here hx rfl (hb hby dC5_19) rfl rfl ?_
    exact ht
  obtain ⟨T32, X32, e32, st32⟩ := getF X30 hx hZ hown (host := "") (Or.inl (hw _ (List.mem_of_getElem? (i := 26) rfl))) Via.refl e30 f19 (g := (mkF m 21 #[.val (.int (5 : Int32)), .val (.ref b1), .val (.int (7 : Int32)), .val (.int (2 : Int32)), .val (.ref x2)] [(.ref x2)])) rfl rfl (hb hby dC5_21)
  refine OFin.of (S' := T32.setTop (mkF m 24 #[.val (.int (5 : Int32)), .val (.ref b1), .val (.int (7 : Int32)), .val (.int (2 : Int32)), .val (.ref x2)] [(.int (2 : Int32))])) (fun t ht => st32 t ht) ?_
  refine OFin.of (S' := T32.setTop (mkF m 16 #[.val (.int (5 : Int32)), .val (.ref b1), .val (.int (7 : Int32)), .val (.int (3 : Int32)), .val (.ref x2)] [(.int (3 : Int32)), (.ref b1)])) (fun t ht => ?_) ?_
  · refine XS.iloadN X32.here hx rfl (hb hby dC5_24) rfl ?_
    show Steps p.tables e below (T32.setTop (mkF m 25 _ [(.int (5 : Int32)), (.int (2 : Int32))])) _
    refine XS.icmpYes X32.here hx rfl (pc0 := 25) (pc' := 31) rfl (hb hby dC5_25) rfl (feq (by decide : ¬ ((2 : Int32) = (5 : Int32)))).2 (by decide) (by decide) ?_
    show Steps p.tables e below (T32.setTop (mkF m 31 _ [])) _
    refine XS.iinc X32.here hx rfl (hb hby dC5_31) rfl (l' := #[.val (.int (5 : Int32)), .val (.ref b1), .val (.int (7 : Int32)), .val (.int (3 : Int32)), .val (.ref x2)]) rfl ?_
    show Steps p.tables e below (T32.setTop (mkF m 34 #[.val (.int (5 : Int32)), .val (.ref b1), .val (.int (7 : Int32)), .val (.int (3 : Int32)), .val (.ref x2)] [])) _
    refine XS.goto X32.here hx rfl (pc0 := 34) (pc' := 9) rfl (hb hby dC5_34) (by decide) (by decide) ?_
    show Steps p.tables e below (T32.setTop (mkF m 9 _ [])) _
    refine XS.iloadN X32.here hx rfl (hb hby dC5_9) rfl ?_
    show Steps p.tables e below (T32.setTop (mkF m 10 _ [(.int (3 : Int32))])) _
    refine XS.iloadN X32.here hx rfl (hb hby dC5_10) rfl ?_
    show Steps p.tables e below (T32.setTop (mkF m 11 _ [(.int (7 : Int32)), (.int (3 : Int32))])) _
    refine XS.icmpNo X32.here hx rfl (hb hby dC5_11) rfl (tlt (by decide : (3 : Int32) < (7 : Int32))).2.1 ?_
    show Steps p.tables e below (T32.setTop (mkF m 14 _ [])) _
    refine XS.aloadN X32.here hx rfl (hb hby dC5_14) rfl rfl ?_
    show Steps p.tables e below (T32.setTop (mkF m 15 _ [(.ref b1)])) _
    refine XS.iloadN X32.here hx rfl (hb hby dC5_15) rfl ?_
    exact ht
  obtain ⟨cl33, Ar33, q33, S33, Ng33, H33, G33⟩ := id f2
  have hin33 := inb_of (j := (3 : Int32)) S33 ⟨by decide, by decide⟩
  have hat33 : cl33.slots[((3 : Int32)).toNatClampNeg]? = some (.ref x3) := Has.at H33 hin33 rfl
  refine OFin.of (S' := T32.setTop (mkF m 17 #[.val (.int (5 : Int32)), .val (.ref b1), .val (.int (7 : Int32)), .val (.int (3 : Int32)), .val (.ref x2)] [(.ref x3)])) (fun t ht => X32.aaload hx (j := (3 : Int32)) (v := (.ref x3)) (by rw [e32]; exact Ar33.1) (State.isArrayOf_alike hZ.alike Ar33.2.1) rfl Ar33.2.2 hin33 hat33 (g := (mkF m 16 #[.val (.int (5 : Int32)), .val (.ref b1), .val (.int (7 : Int32)), .val (.int (3 : Int32)), .val (.ref x2)] [(.int (3 : Int32)), (.ref b1)])) rfl rfl (hb hby dC5_16) _ ht) ?_
  refine OFin.of (S' := T32.setTop (mkF m 21 #[.val (.int (5 : Int32)), .val (.ref b1), .val (.int (7 : Int32)), .val (.int (3 : Int32)), .val (.ref x3)] [(.ref x3)])) (fun t ht => ?_) ?_
  · refine XS.astore X32.here hx rfl (hb hby dC5_17) rfl rfl (l' := #[.val (.int (5 : Int32)), .val (.ref b1), .val (.int (7 : Int32)), .val (.int (3 : Int32)), .val (.ref x3)]) rfl ?_
    show Steps p.tables e below (T32.setTop (mkF m 19 #[.val (.int (5 : Int32)), .val (.ref b1), .val (.int (7 : Int32)), .val (.int (3 : Int32)), .val (.ref x3)] [])) _
    refine XS.aload X32.here hx rfl (hb hby dC5_19) rfl rfl ?_
    exact ht
  obtain ⟨T34, X34, e34, st34⟩ := getF X32 hx hZ hown (host := "") (Or.inl (hw _ (List.mem_of_getElem? (i := 26) rfl))) Via.refl e32 f20 (g := (mkF m 21 #[.val (.int (5 : Int32)), .val (.ref b1), .val (.int (7 : Int32)), .val (.int (3 : Int32)), .val (.ref x3)] [(.ref x3)])) rfl rfl (hb hby dC5_21)
  refine OFin.of (S' := T34.setTop (mkF m 24 #[.val (.int (5 : Int32)), .val (.ref b1), .val (.int (7 : Int32)), .val (.int (3 : Int32)), .val (.ref x3)] [(.int (3 : Int32))])) (fun t ht => st34 t ht) ?_
  refine OFin.of (S' := T34.setTop (mkF m 16 #[.val (.int (5 : Int32)), .val (.ref b1), .val (.int (7 : Int32)), .val (.int (4 : Int32)), .val (.ref x3)] [(.int (4 : Int32)), (.ref b1)])) (fun t ht => ?_) ?_
  · refine XS.iloadN X34.here hx rfl (hb hby dC5_24) rfl ?_
    show Steps p.tables e below (T34.setTop (mkF m 25 _ [(.int (5 : Int32)), (.int (3 : Int32))])) _
    refine XS.icmpYes X34.here hx rfl (pc0 := 25) (pc' := 31) rfl (hb hby dC5_25) rfl (feq (by decide : ¬ ((3 : Int32) = (5 : Int32)))).2 (by decide) (by decide) ?_
    show Steps p.tables e below (T34.setTop (mkF m 31 _ [])) _
    refine XS.iinc X34.here hx rfl (hb hby dC5_31) rfl (l' := #[.val (.int (5 : Int32)), .val (.ref b1), .val (.int (7 : Int32)), .val (.int (4 : Int32)), .val (.ref x3)]) rfl ?_
    show Steps p.tables e below (T34.setTop (mkF m 34 #[.val (.int (5 : Int32)), .val (.ref b1), .val (.int (7 : Int32)), .val (.int (4 : Int32)), .val (.ref x3)] [])) _
    refine XS.goto X34.here hx rfl (pc0 := 34) (pc' := 9) rfl (hb hby dC5_34) (by decide) (by decide) ?_
    show Steps p.tables e below (T34.setTop (mkF m 9 _ [])) _
    refine XS.iloadN X34.here hx rfl (hb hby dC5_9) rfl ?_
    show Steps p.tables e below (T34.setTop (mkF m 10 _ [(.int (4 : Int32))])) _
    refine XS.iloadN X34.here hx rfl (hb hby dC5_10) rfl ?_
    show Steps p.tables e below (T34.setTop (mkF m 11 _ [(.int (7 : Int32)), (.int (4 : Int32))])) _
    refine XS.icmpNo X34.here hx rfl (hb hby dC5_11) rfl (tlt (by decide : (4 : Int32) < (7 : Int32))).2.1 ?_
    show Steps p.tables e below (T34.setTop (mkF m 14 _ [])) _
    refine XS.aloadN X34.here hx rfl (hb hby dC5_14) rfl rfl ?_
    show Steps p.tables e below (T34.setTop (mkF m 15 _ [(.ref b1)])) _
    refine XS.iloadN X34.here hx rfl (hb hby dC5_15) rfl ?_
    exact ht
  obtain ⟨cl35, Ar35, q35, S35, Ng35, H35, G35⟩ := id f2
  have hin35 := inb_of (j := (4 : Int32)) S35 ⟨by decide, by decide⟩
  have hat35 : cl35.slots[((4 : Int32)).toNatClampNeg]? = some (.ref x4) := Has.at H35 hin35 rfl
  refine OFin.of (S' := T34.setTop (mkF m 17 #[.val (.int (5 : Int32)), .val (.ref b1), .val (.int (7 : Int32)), .val (.int (4 : Int32)), .val (.ref x3)] [(.ref x4)])) (fun t ht => X34.aaload hx (j := (4 : Int32)) (v := (.ref x4)) (by rw [e34]; exact Ar35.1) (State.isArrayOf_alike hZ.alike Ar35.2.1) rfl Ar35.2.2 hin35 hat35 (g := (mkF m 16 #[.val (.int (5 : Int32)), .val (.ref b1), .val (.int (7 : Int32)), .val (.int (4 : Int32)), .val (.ref x3)] [(.int (4 : Int32)), (.ref b1)])) rfl rfl (hb hby dC5_16) _ ht) ?_
  refine OFin.of (S' := T34.setTop (mkF m 21 #[.val (.int (5 : Int32)), .val (.ref b1), .val (.int (7 : Int32)), .val (.int (4 : Int32)), .val (.ref x4)] [(.ref x4)])) (fun t ht => ?_) ?_
  · refine XS.astore X34.here hx rfl (hb hby dC5_17) rfl rfl (l' := #[.val (.int (5 : Int32)), .val (.ref b1), .val (.int (7 : Int32)), .val (.int (4 : Int32)), .val (.ref x4)]) rfl ?_
    show Steps p.tables e below (T34.setTop (mkF m 19 #[.val (.int (5 : Int32)), .val (.ref b1), .val (.int (7 : Int32)), .val (.int (4 : Int32)), .val (.ref x4)] [])) _
    refine XS.aload X34.here hx rfl (hb hby dC5_19) rfl rfl ?_
    exact ht
  obtain ⟨T36, X36, e36, st36⟩ := getF X34 hx hZ hown (host := "") (Or.inl (hw _ (List.mem_of_getElem? (i := 26) rfl))) Via.refl e34 f21 (g := (mkF m 21 #[.val (.int (5 : Int32)), .val (.ref b1), .val (.int (7 : Int32)), .val (.int (4 : Int32)), .val (.ref x4)] [(.ref x4)])) rfl rfl (hb hby dC5_21)
  refine OFin.of (S' := T36.setTop (mkF m 24 #[.val (.int (5 : Int32)), .val (.ref b1), .val (.int (7 : Int32)), .val (.int (4 : Int32)), .val (.ref x4)] [(.int (4 : Int32))])) (fun t ht => st36 t ht) ?_
  refine OFin.of (S' := T36.setTop (mkF m 16 #[.val (.int (5 : Int32)), .val (.ref b1), .val (.int (7 : Int32)), .val (.int (5 : Int32)), .val (.ref x4)] [(.int (5 : Int32)), (.ref b1)])) (fun t ht => ?_) ?_
  · refine XS.iloadN X36.here hx rfl (hb hby dC5_24) rfl ?_
    show Steps p.tables e below (T36.setTop (mkF m 25 _ [(.int (5 : Int32)), (.int (4 : Int32))])) _
    refine XS.icmpYes X36.here hx rfl (pc0 := 25) (pc' := 31) rfl (hb hby dC5_25) rfl (feq (by decide : ¬ ((4 : Int32) = (5 : Int32)))).2 (by decide) (by decide) ?_
    show Steps p.tables e below (T36.setTop (mkF m 31 _ [])) _
    refine XS.iinc X36.here hx rfl (hb hby dC5_31) rfl (l' := #[.val (.int (5 : Int32)), .val (.ref b1), .val (.int (7 : Int32)), .val (.int (5 : Int32)), .val (.ref x4)]) rfl ?_
    show Steps p.tables e below (T36.setTop (mkF m 34 #[.val (.int (5 : Int32)), .val (.ref b1), .val (.int (7 : Int32)), .val (.int (5 : Int32)), .val (.ref x4)] [])) _
    refine XS.goto X36.here hx rfl (pc0 := 34) (pc' := 9) rfl (hb hby dC5_34) (by decide) (by decide) ?_
    show Steps p.tables e below (T36.setTop (mkF m 9 _ [])) _
    refine XS.iloadN X36.here hx rfl (hb hby dC5_9) rfl ?_
    show Steps p.tables e below (T36.setTop (mkF m 10 _ [(.int (5 : Int32))])) _
    refine XS.iloadN X36.here hx rfl (hb hby dC5_10) rfl ?_
    show Steps p.tables e below (T36.setTop (mkF m 11 _ [(.int (7 : Int32)), (.int (5 : Int32))])) _
    refine XS.icmpNo X36.here hx rfl (hb hby dC5_11) rfl (tlt (by decide : (5 : Int32) < (7 : Int32))).2.1 ?_
    show Steps p.tables e below (T36.setTop (mkF m 14 _ [])) _
    refine XS.aloadN X36.here hx rfl (hb hby dC5_14) rfl rfl ?_
    show Steps p.tables e below (T36.setTop (mkF m 15 _ [(.ref b1)])) _
    refine XS.iloadN X36.here hx rfl (hb hby dC5_15) rfl ?_
    exact ht
  obtain ⟨cl37, Ar37, q37, S37, Ng37, H37, G37⟩ := id f2
  have hin37 := inb_of (j := (5 : Int32)) S37 ⟨by decide, by decide⟩
  have hat37 : cl37.slots[((5 : Int32)).toNatClampNeg]? = some (.ref x5) := Has.at H37 hin37 rfl
  refine OFin.of (S' := T36.setTop (mkF m 17 #[.val (.int (5 : Int32)), .val (.ref b1), .val (.int (7 : Int32)), .val (.int (5 : Int32)), .val (.ref x4)] [(.ref x5)])) (fun t ht => X36.aaload hx (j := (5 : Int32)) (v := (.ref x5)) (by rw [e36]; exact Ar37.1) (State.isArrayOf_alike hZ.alike Ar37.2.1) rfl Ar37.2.2 hin37 hat37 (g := (mkF m 16 #[.val (.int (5 : Int32)), .val (.ref b1), .val (.int (7 : Int32)), .val (.int (5 : Int32)), .val (.ref x4)] [(.int (5 : Int32)), (.ref b1)])) rfl rfl (hb hby dC5_16) _ ht) ?_
  refine OFin.of (S' := T36.setTop (mkF m 21 #[.val (.int (5 : Int32)), .val (.ref b1), .val (.int (7 : Int32)), .val (.int (5 : Int32)), .val (.ref x5)] [(.ref x5)])) (fun t ht => ?_) ?_
  · refine XS.astore X36.here hx rfl (hb hby dC5_17) rfl rfl (l' := #[.val (.int (5 : Int32)), .val (.ref b1), .val (.int (7 : Int32)), .val (.int (5 : Int32)), .val (.ref x5)]) rfl ?_
    show Steps p.tables e below (T36.setTop (mkF m 19 #[.val (.int (5 : Int32)), .val (.ref b1), .val (.int (7 : Int32)), .val (.int (5 : Int32)), .val (.ref x5)] [])) _
    refine XS.aload X36.here hx rfl (hb hby dC5_19) rfl rfl ?_
    exact ht
  obtain ⟨T38, X38, e38, st38⟩ := getF X36 hx hZ hown (host := "") (Or.inl (hw _ (List.mem_of_getElem? (i := 26) rfl))) Via.refl e36 f22 (g := (mkF m 21 #[.val (.int (5 : Int32)), .val (.ref b1), .val (.int (7 : Int32)), .val (.int (5 : Int32)), .val (.ref x5)] [(.ref x5)])) rfl rfl (hb hby dC5_21)
  refine OFin.of (S' := T38.setTop (mkF m 24 #[.val (.int (5 : Int32)), .val (.ref b1), .val (.int (7 : Int32)), .val (.int (5 : Int32)), .val (.ref x5)] [(.int (5 : Int32))])) (fun t ht => st38 t ht) ?_
  refine OFin.of (S' := T38.setTop (mkF m 30 #[.val (.int (5 : Int32)), .val (.ref b1), .val (.int (7 : Int32)), .val (.int (5 : Int32)), .val (.ref x5)] [(.ref x5)])) (fun t ht => ?_) ?_
  · refine XS.iloadN X38.here hx rfl (hb hby dC5_24) rfl ?_
    show Steps p.tables e below (T38.setTop (mkF m 25 _ [(.int (5 : Int32)), (.int (5 : Int32))])) _
    refine XS.icmpNo X38.here hx rfl (hb hby dC5_25) rfl (teq (by decide : (5 : Int32) = (5 : Int32))).2 ?_
    show Steps p.tables e below (T38.setTop (mkF m 28 _ [])) _
    refine XS.aload X38.here hx rfl (hb hby dC5_28) rfl rfl ?_
    exact ht
  exact OFin.retA X38 hx hlk (t := (.object "com/example/querant/querant/exchange/Exchange$Outcome")) rfl rfl hret (hb hby dC5_30) (by decide) (by decide) (by rw [e38]; exact ⟨rfl, N3, K25⟩)
theorem dC6_0 : decode prog_3_method_5_code 0 = .ok (.invokestatic 48, 3) := by decide +kernel
theorem dC6_3 : decode prog_3_method_5_code 3 = .ok (.astore_n 1, 1) := by decide +kernel
theorem dC6_4 : decode prog_3_method_5_code 4 = .ok (.aload_n 1, 1) := by decide +kernel
theorem dC6_5 : decode prog_3_method_5_code 5 = .ok (.arraylength, 1) := by decide +kernel
theorem dC6_6 : decode prog_3_method_5_code 6 = .ok (.istore_n 2, 1) := by decide +kernel
theorem dC6_7 : decode prog_3_method_5_code 7 = .ok (.iconst 0, 1) := by decide +kernel
theorem dC6_8 : decode prog_3_method_5_code 8 = .ok (.istore_n 3, 1) := by decide +kernel
theorem dC6_9 : decode prog_3_method_5_code 9 = .ok (.iload_n 3, 1) := by decide +kernel
theorem dC6_10 : decode prog_3_method_5_code 10 = .ok (.iload_n 2, 1) := by decide +kernel
theorem dC6_11 : decode prog_3_method_5_code 11 = .ok (.if_icmp .ge 26, 3) := by decide +kernel
theorem dC6_14 : decode prog_3_method_5_code 14 = .ok (.aload_n 1, 1) := by decide +kernel
theorem dC6_15 : decode prog_3_method_5_code 15 = .ok (.iload_n 3, 1) := by decide +kernel
theorem dC6_16 : decode prog_3_method_5_code 16 = .ok (.aaload, 1) := by decide +kernel
theorem dC6_17 : decode prog_3_method_5_code 17 = .ok (.astore 4, 2) := by decide +kernel
theorem dC6_19 : decode prog_3_method_5_code 19 = .ok (.aload 4, 2) := by decide +kernel
theorem dC6_21 : decode prog_3_method_5_code 21 = .ok (.getfield 44, 3) := by decide +kernel
theorem dC6_24 : decode prog_3_method_5_code 24 = .ok (.iload_n 0, 1) := by decide +kernel
theorem dC6_25 : decode prog_3_method_5_code 25 = .ok (.if_icmp .ne 6, 3) := by decide +kernel
theorem dC6_28 : decode prog_3_method_5_code 28 = .ok (.aload 4, 2) := by decide +kernel
theorem dC6_30 : decode prog_3_method_5_code 30 = .ok (.areturn, 1) := by decide +kernel
theorem dC6_31 : decode prog_3_method_5_code 31 = .ok (.iinc 3 1, 3) := by decide +kernel
theorem dC6_34 : decode prog_3_method_5_code 34 = .ok (.goto (-25), 3) := by decide +kernel
theorem pnC6 : plainName "com/example/querant/querant/exchange/Exchange$Outcome" = true := by first | (simp [plainName, overriddenIn]; done) | decide +kernel
theorem efC6 (m : MethodId)  : entryFrame m #[(.int (6 : Int32))] 5 = mkF m 0 #[.val (.int (6 : Int32)), .unset, .unset, .unset, .unset] [] := by first | (simp [entryFrame, mkF, argsToLocals, Value.category]; done) | rfl
def QC6 (Z : State) (av : Addr) (k : ClassId) (x0 : Addr) (x1 : Addr) (x2 : Addr) (x3 : Addr) (x4 : Addr) (x5 : Addr) (x6 : Addr) (h0 : Heap) (n0 : Nat) (v : Option Value) (h : Heap) (L : List Loc) : Prop := v = some (.ref x6) ∧ Fr n0 L ∧ Keep h0 h []
set_option maxRecDepth 65536 in
set_option maxHeartbeats 40000000 in
theorem rmC6 (l : Launch) (Z : State) (a0 : Array Value) (hw : ∀ d ∈ tables_1, d.before a0 Z = true) (ws : List Jvm.Cond) (av : Addr) (k : ClassId) (x0 : Addr) (x1 : Addr) (x2 : Addr) (x3 : Addr) (x4 : Addr) (x5 : Addr) (x6 : Addr) (h0 : Heap) (n0 : Nat) (Z0 : n0 ≤ h0.size) (Sv : Sta Z h0 "com/example/querant/querant/exchange/Exchange$Outcome" "$VALUES" "[Lcom/example/querant/querant/exchange/Exchange$Outcome;" (.ref av)) (Ev : Exa Z h0 av "[Lcom/example/querant/querant/exchange/Exchange$Outcome;") (V1 : Arv Z h0 av k (.object "com/example/querant/querant/exchange/Exchange$Outcome") (7 : Int32) [(.ref x0), (.ref x1), (.ref x2), (.ref x3), (.ref x4), (.ref x5), (.ref x6)] .null) (O0 : Fld Z h0 x0 "com/example/querant/querant/exchange/Exchange$Outcome" "code" "I" (.int (0 : Int32))) (O1 : Fld Z h0 x1 "com/example/querant/querant/exchange/Exchange$Outcome" "code" "I" (.int (1 : Int32))) (O2 : Fld Z h0 x2 "com/example/querant/querant/exchange/Exchange$Outcome" "code" "I" (.int (2 : Int32))) (O3 : Fld Z h0 x3 "com/example/querant/querant/exchange/Exchange$Outcome" "code" "I" (.int (3 : Int32))) (O4 : Fld Z h0 x4 "com/example/querant/querant/exchange/Exchange$Outcome" "code" "I" (.int (4 : Int32))) (O5 : Fld Z h0 x5 "com/example/querant/querant/exchange/Exchange$Outcome" "code" "I" (.int (5 : Int32))) (O6 : Fld Z h0 x6 "com/example/querant/querant/exchange/Exchange$Outcome" "code" "I" (.int (6 : Int32))) :
    MetFree l (⟨"com/example/querant/querant/exchange/Exchange$Outcome", "ofCode", "(I)Lcom/example/querant/querant/exchange/Exchange$Outcome;"⟩ : MethodName) (head1 (Jvm.Cond.code (⟨"com/example/querant/querant/exchange/Exchange$Outcome", "ofCode", "(I)Lcom/example/querant/querant/exchange/Exchange$Outcome;"⟩ : MethodName) prog_3_method_5_code 5 (some (.object "com/example/querant/querant/exchange/Exchange$Outcome")) :: ws) ({ frames := 2, cells := 1, slots := 7, locals := 25 } : Room)) (fun a U => a = #[(.int (6 : Int32))] ∧ Z.Warmed39 U.vm ∧ U.heap = h0) (fun _ _ _ _ _ => True) (fun _ U o U' => ∃ v L, o = .returned v ∧ QC6 Z av k x0 x1 x2 x3 x4 x5 x6 h0 n0 v U'.heap L ∧ FrameEnd U o U' L ({ frames := 2, cells := 1, slots := 7, locals := 25 } : Room).cells ({ frames := 2, cells := 1, slots := 7, locals := 25 } : Room).slots) := by
  refine MetFree.of_bodySF (plainFor_of_name pnC6) hisR ?_
  intro p e s m args below meth c s₁ Bd hml0 hP hK
  obtain ⟨rfl, hZ, hh⟩ := hP
  have hx := Bd.exec
  have hby := Bd.bytes
  have hlk := BodyLoose.notSynchronized Bd
  have hret := Bd.returns
  have hml : c.maxLocals = 5 := hml0
  have hown : s.vm.findClass "com/example/querant/querant/exchange/Exchange$Outcome" = some m.cls := findClass_of_methodNamed Bd.named
  have hnm := (name_of_methodNamed Bd.named Bd.method).1
  have X0 : Stand p l e ({ frames := 2, cells := 1, slots := 7, locals := 25 } : Room) s m #[(.int (6 : Int32))] below meth c s₁ [] 0 0 := Stand.of_body Bd
  have e0 : s₁.heap = h0 := by rw [← hh, Bd.state]; rfl
  have N0 := Fr.nil n0
  show OFin p e below (KPost s (QC6 Z av k x0 x1 x2 x3 x4 x5 x6 h0 n0) ({ frames := 2, cells := 1, slots := 7, locals := 25 } : Room).cells ({ frames := 2, cells := 1, slots := 7, locals := 25 } : Room).slots) _
  rw [efC6 m ]
  have K0 : Keep h0 h0 [] := Keep.refl _ _
  obtain ⟨_, _, ⟨T1, L1, k1, n1⟩, -, X1, ⟨Lc1, hQ1, l1, y1, z1⟩, st1⟩ := Jvm.LawKit.callS X0 hx (y := (⟨"com/example/querant/querant/exchange/Exchange$Outcome", "values", "()[Lcom/example/querant/querant/exchange/Exchange$Outcome;"⟩ : MethodName)) hown (mvT hZ (hw _ (List.mem_of_getElem? (i := 4) rfl))) (mvT hZ (hw _ (List.mem_of_getElem? (i := 5) rfl))) (mvT hZ (hw _ (List.mem_of_getElem? (i := 2) rfl))) (mvT hZ (hw _ (List.mem_of_getElem? (i := 6) rfl))) (by decide) (backOf (W := 0) (rmVl l Z _ hw [] av k x0 x1 x2 x3 x4 x5 x6 h0 n0 Z0 Sv Ev V1) hZ (hw _ (List.mem_of_getElem? (i := 6) rfl)) (hw _ (List.mem_of_getElem? (i := 2) rfl)) (by decide) (by decide)) (g := (mkF m 0 #[.val (.int (6 : Int32)), .unset, .unset, .unset, .unset] [])) rfl (by rw [hml]; rfl) (argsL := []) (rest := []) (lenOf pd_0 rfl) rfl (by show 2 * 0 + _ ≤ _; exact Nat.le_of_eq rfl) (hb hby dC6_0) (fun _ _ => ⟨rfl, e0, (by decide : 0 + 1 ≤ _), (by decide : 0 + 7 ≤ _)⟩)
  dsimp only [Pt.U, Pt.locs, Pt.cells, Pt.slots] at X1 l1 y1 z1 st1 hQ1
  subst l1 y1 z1
  obtain ⟨rfl, Nq1, Eq1, f2⟩ := hQ1
  have N3 := Fr.app N0 Nq1
  obtain ⟨b1, gq1⟩ : ∃ z, z = h0.size := ⟨_, rfl⟩
  rw [← gq1] at f2 st1
  have g4 : n0 ≤ b1 := (Nat.le_trans Z0 (Nat.le_of_eq gq1.symm))
  have sz5 : h0.size ≤ b1 := (Nat.le_trans K0.1 (Nat.le_of_eq gq1.symm))
  have ne6 : av ≠ b1 := (Nat.ne_of_lt (Nat.lt_of_lt_of_le Ev.lt (Nat.le_of_eq gq1.symm)))
  have ne7 : x0 ≠ b1 := (Nat.ne_of_lt (Nat.lt_of_lt_of_le O0.lt (Nat.le_of_eq gq1.symm)))
  have ne8 : x1 ≠ b1 := (Nat.ne_of_lt (Nat.lt_of_lt_of_le O1.lt (Nat.le_of_eq gq1.symm)))
  have ne9 : x2 ≠ b1 := (Nat.ne_of_lt (Nat.lt_of_lt_of_le O2.lt (Nat.le_of_eq gq1.symm)))
  have ne10 : x3 ≠ b1 := (Nat.ne_of_lt (Nat.lt_of_lt_of_le O3.lt (Nat.le_of_eq gq1.symm)))
  have ne11 : x4 ≠ b1 := (Nat.ne_of_lt (Nat.lt_of_lt_of_le O4.lt (Nat.le_of_eq gq1.symm)))
  have ne12 : x5 ≠ b1 := (Nat.ne_of_lt (Nat.lt_of_lt_of_le O5.lt (Nat.le_of_eq gq1.symm)))
  have ne13 : x6 ≠ b1 := (Nat.ne_of_lt (Nat.lt_of_lt_of_le O6.lt (Nat.le_of_eq gq1.symm)))
  have f14 := Sv.ext Eq1
  have f15 := Ev.ext Eq1
  have f16 := V1.ext Eq1
  have f17 := O0.ext Eq1
  have f18 := O1.ext Eq1
  have f19 := O2.ext Eq1
  have f20 := O3.ext Eq1
  have f21 := O4.ext Eq1
  have f22 := O5.ext Eq1
  have f23 := O6.ext Eq1
  have Z24 : n0 ≤ T1.heap.size := (Nat.le_trans Z0 Eq1.1)
  have K25 : Keep h0 T1.heap [] := (K0.ext Eq1)
  refine OFin.of (S' := T1.setTop (mkF m 3 #[.val (.int (6 : Int32)), .unset, .unset, .unset, .unset] [(.ref b1)])) (fun t ht => st1 t ht) ?_
  refine OFin.of (S' := T1.setTop (mkF m 5 #[.val (.int (6 : Int32)), .val (.ref b1), .unset, .unset, .unset] [(.ref b1)])) (fun t ht => ?_) ?_
  · refine XS.astoreN X1.here hx rfl (hb hby dC6_3) rfl rfl (l' := #[.val (.int (6 : Int32)), .val (.ref b1), .unset, .unset, .unset]) rfl ?_
    show Steps p.tables e below (T1.setTop (mkF m 4 #[.val (.int (6 : Int32)), .val (.ref b1), .unset, .unset, .unset] [])) _
    refine XS.aloadN X1.here hx rfl (hb hby dC6_4) rfl rfl ?_
    exact ht
  obtain ⟨cl26, Ar26, q26, S26, Ng26, H26, G26⟩ := id f2
  refine OFin.of (S' := T1.setTop (mkF m 6 #[.val (.int (6 : Int32)), .val (.ref b1), .unset, .unset, .unset] [(.int (7 : Int32))])) (fun t ht => own_alen X1 hx hZ (rfl : T1.heap = T1.heap) Ar26 S26 Ng26 (g := (mkF m 5 #[.val (.int (6 : Int32)), .val (.ref b1), .unset, .unset, .unset] [(.ref b1)])) rfl rfl (hb hby dC6_5) ht) ?_
  refine OFin.of (S' := T1.setTop (mkF m 16 #[.val (.int (6 : Int32)), .val (.ref b1), .val (.int (7 : Int32)), .val (.int (0 : Int32)), .unset] [(.int (0 : Int32)), (.ref b1)])) (fun t ht => ?_) ?_
  · refine XS.istoreN X1.here hx rfl (hb hby dC6_6) rfl (l' := #[.val (.int (6 : Int32)), .val (.ref b1), .val (.int (7 : Int32)), .unset, .unset]) rfl ?_
    show Steps p.tables e below (T1.setTop (mkF m 7 #[.val (.int (6 : Int32)), .val (.ref b1), .val (.int (7 : Int32)), .unset, .unset] [])) _
    refine XS.iconst X1.here hx rfl (hb hby dC6_7) ?_
    show Steps p.tables e below (T1.setTop (mkF m 8 _ [(.int (0 : Int32))])) _
    refine XS.istoreN X1.here hx rfl (hb hby dC6_8) rfl (l' := #[.val (.int (6 : Int32)), .val (.ref b1), .val (.int (7 : Int32)), .val (.int (0 : Int32)), .unset]) rfl ?_
    show Steps p.tables e below (T1.setTop (mkF m 9 #[.val (.int (6 : Int32)), .val (.ref b1), .val (.int (7 : Int32)), .val (.int (0 : Int32)), .unset] [])) _
    refine XS.iloadN X1.here hx rfl (hb hby dC6_9) rfl ?_
    show Steps p.tables e below (T1.setTop (mkF m 10 _ [(.int (0 : Int32))])) _
    refine XS.iloadN X1.here hx rfl (hb hby dC6_10) rfl ?_
    show Steps p.tables e below (T1.setTop (mkF m 11 _ [(.int (7 : Int32)), (.int (0 : Int32))])) _
    refine XS.icmpNo X1.here hx rfl (hb hby dC6_11) rfl (tlt (by decide : (0 : Int32) < (7 : Int32))).2.1 ?_
    show Steps p.tables e below (T1.setTop (mkF m 14 _ [])) _
    refine XS.aloadN X1.here hx rfl (hb hby dC6_14) rfl rfl ?_
    show Steps p.tables e below (T1.setTop (mkF m 15 _ [(.ref b1)])) _
    refine XS.iloadN X1.here hx rfl (hb hby dC6_15) rfl ?_
    exact ht
  obtain ⟨cl27, Ar27, q27, S27, Ng27, H27, G27⟩ := id f2
  have hin27 := inb_of (j := (0 : Int32)) S27 ⟨by decide, by decide⟩
  have hat27 : cl27.slots[((0 : Int32)).toNatClampNeg]? = some (.ref x0) := Has.at H27 hin27 rfl
  refine OFin.of (S' := T1.setTop (mkF m 17 #[.val (.int (6 : Int32)), .val (.ref b1), .val (.int (7 : Int32)), .val (.int (0 : Int32)), .unset] [(.ref x0)])) (fun t ht => X1.aaload hx (j := (0 : Int32)) (v := (.ref x0)) (by rw [(rfl : T1.heap = T1.heap)]; exact Ar27.1) (State.isArrayOf_alike hZ.alike Ar27.2.1) rfl Ar27.2.2 hin27 hat27 (g := (mkF m 16 #[.val (.int (6 : Int32)), .val (.ref b1), .val (.int (7 : Int32)), .val (.int (0 : Int32)), .unset] [(.int (0 : Int32)), (.ref b1)])) rfl rfl (hb hby dC6_16) _ ht) ?_
  refine OFin.of (S' := T1.setTop (mkF m 21 #[.val (.int (6 : Int32)), .val (.ref b1), .val (.int (7 : Int32)), .val (.int (0 : Int32)), .val (.ref x0)] [(.ref x0)])) (fun t ht => ?_) ?_
  · refine XS.astore X1.here hx rfl (hb hby dC6_17) rfl rfl (l' := #[.val (.int (6 : Int32)), .val (.ref b1), .val (.int (7 : Int32)), .val (.int (0 : Int32)), .val (.ref x0)]) rfl ?_
    show Steps p.tables e below (T1.setTop (mkF m 19 #[.val (.int (6 : Int32)), .val (.ref b1), .val (.int (7 : Int32)), .val (.int (0 : Int32)), .val (.ref x0)] [])) _
    refine XS.aload X1.here hx rfl (hb hby dC6_19) rfl rfl ?_
    exact ht
  obtain ⟨T28, X28, e28, st28⟩ := getF X1 hx hZ hown (host := "") (Or.inl (hw _ (List.mem_of_getElem? (i := 26) rfl))) Via.refl (rfl : T1.heap = T1.heap) f17 (g := (mkF m 21 #[.val (.int (6 : Int32)), .val (.ref b1), .val (.int (7 : Int32)), .val (.int (0 : Int32)), .val (.ref x0)] [(.ref x0)])) rfl rfl (hb hby dC6_21)
  refine OFin.of (S' := T28.setTop (mkF m 24 #[.val (.int (6 : Int32)), .val (.ref b1), .val (.int (7 : Int32)), .val (.int (0 : Int32)), .val (.ref x0)] [(.int (0 : Int32))])) (fun t ht => st28 t ht) ?_
  refine OFin.of (S' := T28.setTop (mkF m 16 #[.val (.int (6 : Int32)), .val (.ref b1), .val (.int (7 : Int32)), .val (.int (1 : Int32)), .val (.ref x0)] [(.int (1 : Int32)), (.ref b1)])) (fun t ht => ?_) ?_
  · refine XS.iloadN X28.here hx rfl (hb hby dC6_24) rfl ?_
    show Steps p.tables e below (T28.setTop (mkF m 25 _ [(.int (6 : Int32)), (.int (0 : Int32))])) _
    refine XS.icmpYes X28.here hx rfl (pc0 := 25) (pc' := 31) rfl (hb hby dC6_25) rfl (feq (by decide : ¬ ((0 : Int32) = (6 : Int32)))).2 (by decide) (by decide) ?_
    show Steps p.tables e below (T28.setTop (mkF m 31 _ [])) _
    refine XS.iinc X28.here hx rfl (hb hby dC6_31) rfl (l' := #[.val (.int (6 : Int32)), .val (.ref b1), .val (.int (7 : Int32)), .val (.int (1 : Int32)), .val (.ref x0)]) rfl ?_
    show Steps p.tables e below (T28.setTop (mkF m 34 #[.val (.int (6 : Int32)), .val (.ref b1), .val (.int (7 : Int32)), .val (.int (1 : Int32)), .val (.ref x0)] [])) _
    refine XS.goto X28.here hx rfl (pc0 := 34) (pc' := 9) rfl (hb hby dC6_34) (by decide) (by decide) ?_
    show Steps p.tables e below (T28.setTop (mkF m 9 _ [])) _
    refine XS.iloadN X28.here hx rfl (hb hby dC6_9) rfl ?_
    show Steps p.tables e below (T28.setTop (mkF m 10 _ [(.int (1 : Int32))])) _
    refine XS.iloadN X28.here hx rfl (hb hby dC6_10) rfl ?_
    show Steps p.tables e below (T28.setTop (mkF m 11 _ [(.int (7 : Int32)), (.int (1 : Int32))])) _
    refine XS.icmpNo X28.here hx rfl (hb hby dC6_11) rfl (tlt (by decide : (1 : Int32) < (7 : Int32))).2.1 ?_
    show Steps p.tables e below (T28.setTop (mkF m 14 _ [])) _
    refine XS.aloadN X28.here hx rfl (hb hby dC6_14) rfl rfl ?_
    show Steps p.tables e below (T28.setTop (mkF m 15 _ [(.ref b1)])) _
    refine XS.iloadN X28.here hx rfl (hb hby dC6_15) rfl ?_
    exact ht
  obtain ⟨cl29, Ar29, q29, S29, Ng29, H29, G29⟩ := id f2
  have hin29 := inb_of (j := (1 : Int32)) S29 ⟨by decide, by decide⟩
  have hat29 : cl29.slots[((1 : Int32)).toNatClampNeg]? = some (.ref x1) := Has.at H29 hin29 rfl
  refine OFin.of (S' := T28.setTop (mkF m 17 #[.val (.int (6 : Int32)), .val (.ref b1), .val (.int (7 : Int32)), .val (.int (1 : Int32)), .val (.ref x0)] [(.ref x1)])) (fun t ht => X28.aaload hx (j := (1 : Int32)) (v := (.ref x1)) (by rw [e28]; exact Ar29.1) (State.isArrayOf_alike hZ.alike Ar29.2.1) rfl Ar29.2.2 hin29 hat29 (g := (mkF m 16 #[.val (.int (6 : Int32)), .val (.ref b1), .val (.int (7 : Int32)), .val (.int (1 : Int32)), .val (.ref x0)] [(.int (1 : Int32)), (.ref b1)])) rfl rfl (hb hby dC6_16) _ ht) ?_
  refine OFin.of (S' := T28.setTop (mkF m 21 #[.val (.int (6 : Int32)), .val (.ref b1), .val (.int (7 : Int32)), .val (.int (1 : Int32)), .val (.ref x1)] [(.ref x1)])) (fun t ht => ?_) ?_
  · refine XS.astore X28.here hx rfl (hb hby dC6_17) rfl rfl (l' := #[.val (.int (6 : Int32)), .val (.ref b1), .val (.int (7 : Int32)), .val (.int (1 : Int32)), .val (.ref x1)]) rfl ?_
    show Steps p.tables e below (T28.setTop (mkF m 19 #[.val (.int (6 : Int32)), .val (.ref b1), .val (.int (7 : Int32)), .val (.int (1 : Int32)), .val (.ref x1)] [])) _
    refine XS.aload X28.here hx rfl (hb hby dC6_19) rfl rfl ?_
    exact ht
  obtain ⟨T30, X30, e30, st30⟩ := getF X28 hx hZ hown (host := "") (Or.inl (hw _ (List.mem_of_getElem? (i := 26) rfl))) Via.refl e28 f18 (g := (mkF m 21 #[.val (.int (6 : Int32)), .val (.ref b1), .val (.int (7 : Int32)), .val (.int (1 : Int32)), .val (.ref x1)] [(.ref x1)])) rfl rfl (hb hby dC6_21)
  refine OFin.of (S' := T30.setTop (mkF m 24 #[.val (.int (6 : Int32)), .val (.ref b1), .val (.int (7 : Int32)), .val (.int (1 : Int32)), .val (.ref x1)] [(.int (1 : Int32))])) (fun t ht => st30 t ht) ?_
  refine OFin.of (S' := T30.setTop (mkF m 16 #[.val (.int (6 : Int32)), .val (.ref b1), .val (.int (7 : Int32)), .val (.int (2 : Int32)), .val (.ref x1)] [(.int (2 : Int32)), (.ref b1)])) (fun t ht => ?_) ?_
  · refine XS.iloadN X30.here hx rfl (hb hby dC6_24) rfl ?_
    show Steps p.tables e below (T30.setTop (mkF m 25 _ [(.int (6 : Int32)), (.int (1 : Int32))])) _
    refine XS.icmpYes X30.here hx rfl (pc0 := 25) (pc' := 31) rfl (hb hby dC6_25) rfl (feq (by decide : ¬ ((1 : Int32) = (6 : Int32)))).2 (by decide) (by decide) ?_
    show Steps p.tables e below (T30.setTop (mkF m 31 _ [])) _
    refine XS.iinc X30.here hx rfl (hb hby dC6_31) rfl (l' := #[.val (.int (6 : Int32)), .val (.ref b1), .val (.int (7 : Int32)), .val (.int (2 : Int32)), .val (.ref x1)]) rfl ?_
    show Steps p.tables e below (T30.setTop (mkF m 34 #[.val (.int (6 : Int32)), .val (.ref b1), .val (.int (7 : Int32)), .val (.int (2 : Int32)), .val (.ref x1)] [])) _
    refine XS.goto X30.here hx rfl (pc0 := 34) (pc' := 9) rfl (hb hby dC6_34) (by decide) (by decide) ?_
    show Steps p.tables e below (T30.setTop (mkF m 9 _ [])) _
    refine XS.iloadN X30.here hx rfl (hb hby dC6_9) rfl ?_
    show Steps p.tables e below (T30.setTop (mkF m 10 _ [(.int (2 : Int32))])) _
    refine XS.iloadN X30.here hx rfl (hb hby dC6_10) rfl ?_
    show Steps p.tables e below (T30.setTop (mkF m 11 _ [(.int (7 : Int32)), (.int (2 : Int32))])) _
    refine XS.icmpNo X30.here hx rfl (hb hby dC6_11) rfl (tlt (by decide : (2 : Int32) < (7 : Int32))).2.1 ?_
    show Steps p.tables e below (T30.setTop (mkF m 14 _ [])) _
    refine XS.aloadN X30.here hx rfl (hb hby dC6_14) rfl rfl ?_
    show Steps p.tables e below (T30.setTop (mkF m 15 _ [(.ref b1)])) _
    refine XS.iloadN X30.here hx rfl (hb hby dC6_15) rfl ?_
    exact ht
  obtain ⟨cl31, Ar31, q31, S31, Ng31, H31, G31⟩ := id f2
  have hin31 := inb_of (j := (2 : Int32)) S31 ⟨by decide, by decide⟩
  have hat31 : cl31.slots[((2 : Int32)).toNatClampNeg]? = some (.ref x2) := Has.at H31 hin31 rfl
  refine OFin.of (S' := T30.setTop (mkF m 17 #[.val (.int (6 : Int32)), .val (.ref b1), .val (.int (7 : Int32)), .val (.int (2 : Int32)), .val (.ref x1)] [(.ref x2)])) (fun t ht => X30.aaload hx (j := (2 : Int32)) (v := (.ref x2)) (by rw [e30]; exact Ar31.1) (State.isArrayOf_alike hZ.alike Ar31.2.1) rfl Ar31.2.2 hin31 hat31 (g := (mkF m 16 #[.val (.int (6 : Int32)), .val (.ref b1), .val (.int (7 : Int32)), .val (.int (2 : Int32)), .val (.ref x1)] [(.int (2 : Int32)), (.ref b1)])) rfl rfl (hb hby dC6_16) _ ht) ?_
  refine OFin.of (S' := T30.setTop (mkF m 21 #[.val (.int (6 : Int32)), .val (.ref b1), .val (.int (7 : Int32)), .val (.int (2 : Int32)), .val (.ref x2)] [(.ref x2)])) (fun t ht => ?_) ?_
  · refine XS.astore X30.here hx rfl (hb hby dC6_17) rfl rfl (l' := #[.val (.int (6 : Int32)), .val (.ref b1), .val (.int (7 : Int32)), .val (.int (2 : Int32)), .val (.ref x2)]) rfl ?_
    show Steps p.tables e below (T30.setTop (mkF m 19 #[.val (.int (6 : Int32)), .val (.ref b1), .val (.int (7 : Int32)), .val (.int (2 : Int32)), .val (.ref x2)] [])) _
    refine XS.aload X30.here hx rfl (hb hby dC6_19) rfl rfl ?_
    exact ht
  obtain ⟨T32, X32, e32, st32⟩ := getF X30 hx hZ hown (host := "") (Or.inl (hw _ (List.mem_of_getElem? (i := 26) rfl))) Via.refl e30 f19 (g := (mkF m 21 #[.val (.int (6 : Int32)), .val (.ref b1), .val (.int (7 : Int32)), .val (.int (2 : Int32)), .val (.ref x2)] [(.ref x2)])) rfl rfl (hb hby dC6_21)
  refine OFin.of (S' := T32.setTop (mkF m 24 #[.val (.int (6 : Int32)), .val (.ref b1), .val (.int (7 : Int32)), .val (.int (2 : Int32)), .val (.ref x2)] [(.int (2 : Int32))])) (fun t ht => st32 t ht) ?_
  refine OFin.of (S' := T32.setTop (mkF m 16 #[.val (.int (6 : Int32)), .val (.ref b1), .val (.int (7 : Int32)), .val (.int (3 : Int32)), .val (.ref x2)] [(.int (3 : Int32)), (.ref b1)])) (fun t ht => ?_) ?_
  · refine XS.iloadN X32.here hx rfl (hb hby dC6_24) rfl ?_
    show Steps p.tables e below (T32.setTop (mkF m 25 _ [(.int (6 : Int32)), (.int (2 : Int32))])) _
    refine XS.icmpYes X32.here hx rfl (pc0 := 25) (pc' := 31) rfl (hb hby dC6_25) rfl (feq (by decide : ¬ ((2 : Int32) = (6 : Int32)))).2 (by decide) (by decide) ?_
    show Steps p.tables e below (T32.setTop (mkF m 31 _ [])) _
    refine XS.iinc X32.here hx rfl (hb hby dC6_31) rfl (l' := #[.val (.int (6 : Int32)), .val (.ref b1), .val (.int (7 : Int32)), .val (.int (3 : Int32)), .val (.ref x2)]) rfl ?_
    show Steps p.tables e below (T32.setTop (mkF m 34 #[.val (.int (6 : Int32)), .val (.ref b1), .val (.int (7 : Int32)), .val (.int (3 : Int32)), .val (.ref x2)] [])) _
    refine XS.goto X32.here hx rfl (pc0 := 34) (pc' := 9) rfl (hb hby dC6_34) (by decide) (by decide) ?_
    show Steps p.tables e below (T32.setTop (mkF m 9 _ [])) _
    refine XS.iloadN X32.here hx rfl (hb hby dC6_9) rfl ?_
    show Steps p.tables e below (T32.setTop (mkF m 10 _ [(.int (3 : Int32))])) _
    refine XS.iloadN X32.here hx rfl (hb hby dC6_10) rfl ?_
    show Steps p.tables e below (T32.setTop (mkF m 11 _ [(.int (7 : Int32)), (.int (3 : Int32))])) _
    refine XS.icmpNo X32.here hx rfl (hb hby dC6_11) rfl (tlt (by decide : (3 : Int32) < (7 : Int32))).2.1 ?_
    show Steps p.tables e below (T32.setTop (mkF m 14 _ [])) _
    refine XS.aloadN X32.here hx rfl (hb hby dC6_14) rfl rfl ?_
    show Steps p.tables e below (T32.setTop (mkF m 15 _ [(.ref b1)])) _
    refine XS.iloadN X32.here hx rfl (hb hby dC6_15) rfl ?_
    exact ht
  obtain ⟨cl33, Ar33, q33, S33, Ng33, H33, G33⟩ := id f2
  have hin33 := inb_of (j := (3 : Int32)) S33 ⟨by decide, by decide⟩
  have hat33 : cl33.slots[((3 : Int32)).toNatClampNeg]? = some (.ref x3) := Has.at H33 hin33 rfl
  refine OFin.of (S' := T32.setTop (mkF m 17 #[.val (.int (6 : Int32)), .val (.ref b1), .val (.int (7 : Int32)), .val (.int (3 : Int32)), .val (.ref x2)] [(.ref x3)])) (fun t ht => X32.aaload hx (j := (3 : Int32)) (v := (.ref x3)) (by rw [e32]; exact Ar33.1) (State.isArrayOf_alike hZ.alike Ar33.2.1) rfl Ar33.2.2 hin33 hat33 (g := (mkF m 16 #[.val (.int (6 : Int32)), .val (.ref b1), .val (.int (7 : Int32)), .val (.int (3 : Int32)), .val (.ref x2)] [(.int (3 : Int32)), (.ref b1)])) rfl rfl (hb hby dC6_16) _ ht) ?_
  refine OFin.of (S' := T32.setTop (mkF m 21 #[.val (.int (6 : Int32)), .val (.ref b1), .val (.int (7 : Int32)), .val (.int (3 : Int32)), .val (.ref x3)] [(.ref x3)])) (fun t ht => ?_) ?_
  · refine XS.astore X32.here hx rfl (hb hby dC6_17) rfl rfl (l' := #[.val (.int (6 : Int32)), .val (.ref b1), .val (.int (7 : Int32)), .val (.int (3 : Int32)), .val (.ref x3)]) rfl ?_
    show Steps p.tables e below (T32.setTop (mkF m 19 #[.val (.int (6 : Int32)), .val (.ref b1), .val (.int (7 : Int32)), .val (.int (3 : Int32)), .val (.ref x3)] [])) _
    refine XS.aload X32.here hx rfl (hb hby dC6_19) rfl rfl ?_
    exact ht
  obtain ⟨T34, X34, e34, st34⟩ := getF X32 hx hZ hown (host := "") (Or.inl (hw _ (List.mem_of_getElem? (i := 26) rfl))) Via.refl e32 f20 (g := (mkF m 21 #[.val (.int (6 : Int32)), .val (.ref b1), .val (.int (7 : Int32)), .val (.int (3 : Int32)), .val (.ref x3)] [(.ref x3)])) rfl rfl (hb hby dC6_21)
  refine OFin.of (S' := T34.setTop (mkF m 24 #[.val (.int (6 : Int32)), .val (.ref b1), .val (.int (7 : Int32)), .val (.int (3 : Int32)), .val (.ref x3)] [(.int (3 : Int32))])) (fun t ht => st34 t ht) ?_
  refine OFin.of (S' := T34.setTop (mkF m 16 #[.val (.int (6 : Int32)), .val (.ref b1), .val (.int (7 : Int32)), .val (.int (4 : Int32)), .val (.ref x3)] [(.int (4 : Int32)), (.ref b1)])) (fun t ht => ?_) ?_
  · refine XS.iloadN X34.here hx rfl (hb hby dC6_24) rfl ?_
    show Steps p.tables e below (T34.setTop (mkF m 25 _ [(.int (6 : Int32)), (.int (3 : Int32))])) _
    refine XS.icmpYes X34.here hx rfl (pc0 := 25) (pc' := 31) rfl (hb hby dC6_25) rfl (feq (by decide : ¬ ((3 : Int32) = (6 : Int32)))).2 (by decide) (by decide) ?_
    show Steps p.tables e below (T34.setTop (mkF m 31 _ [])) _
    refine XS.iinc X34.here hx rfl (hb hby dC6_31) rfl (l' := #[.val (.int (6 : Int32)), .val (.ref b1), .val (.int (7 : Int32)), .val (.int (4 : Int32)), .val (.ref x3)]) rfl ?_
    show Steps p.tables e below (T34.setTop (mkF m 34 #[.val (.int (6 : Int32)), .val (.ref b1), .val (.int (7 : Int32)), .val (.int (4 : Int32)), .val (.ref x3)] [])) _
    refine XS.goto X34.here hx rfl (pc0 := 34) (pc' := 9) rfl (hb hby dC6_34) (by decide) (by decide) ?_
    show Steps p.tables e below (T34.setTop (mkF m 9 _ [])) _
    refine XS.iloadN X34.here hx rfl (hb hby dC6_9) rfl ?_
    show Steps p.tables e below (T34.setTop (mkF m 10 _ [(.int (4 : Int32))])) _
    refine XS.iloadN X34.here hx rfl (hb hby dC6_10) rfl ?_
    show Steps p.tables e below (T34.setTop (mkF m 11 _ [(.int (7 : Int32)), (.int (4 : Int32))])) _
    refine XS.icmpNo X34.here hx rfl (hb hby dC6_11) rfl (tlt (by decide : (4 : Int32) < (7 : Int32))).2.1 ?_
    show Steps p.tables e below (T34.setTop (mkF m 14 _ [])) _
    refine XS.aloadN X34.here hx rfl (hb hby dC6_14) rfl rfl ?_
    show Steps p.tables e below (T34.setTop (mkF m 15 _ [(.ref b1)])) _
    refine XS.iloadN X34.here hx rfl (hb hby dC6_15) rfl ?_
    exact ht
  obtain ⟨cl35, Ar35, q35, S35, Ng35, H35, G35⟩ := id f2
  have hin35 := inb_of (j := (4 : Int32)) S35 ⟨by decide, by decide⟩
  have hat35 : cl35.slots[((4 : Int32)).toNatClampNeg]? = some (.ref x4) := Has.at H35 hin35 rfl
  refine OFin.of (S' := T34.setTop (mkF m 17 #[.val (.int (6 : Int32)), .val (.ref b1), .val (.int (7 : Int32)), .val (.int (4 : Int32)), .val (.ref x3)] [(.ref x4)])) (fun t ht => X34.aaload hx (j := (4 : Int32)) (v := (.ref x4)) (by rw [e34]; exact Ar35.1) (State.isArrayOf_alike hZ.alike Ar35.2.1) rfl Ar35.2.2 hin35 hat35 (g := (mkF m 16 #[.val (.int (6 : Int32)), .val (.ref b1), .val (.int (7 : Int32)), .val (.int (4 : Int32)), .val (.ref x3)] [(.int (4 : Int32)), (.ref b1)])) rfl rfl (hb hby dC6_16) _ ht) ?_
  refine OFin.of (S' := T34.setTop (mkF m 21 #[.val (.int (6 : Int32)), .val (.ref b1), .val (.int (7 : Int32)), .val (.int (4 : Int32)), .val (.ref x4)] [(.ref x4)])) (fun t ht => ?_) ?_
  · refine XS.astore X34.here hx rfl (hb hby dC6_17) rfl rfl (l' := #[.val (.int (6 : Int32)), .val (.ref b1), .val (.int (7 : Int32)), .val (.int (4 : Int32)), .val (.ref x4)]) rfl ?_
    show Steps p.tables e below (T34.setTop (mkF m 19 #[.val (.int (6 : Int32)), .val (.ref b1), .val (.int (7 : Int32)), .val (.int (4 : Int32)), .val (.ref x4)] [])) _
    refine XS.aload X34.here hx rfl (hb hby dC6_19) rfl rfl ?_
    exact ht
  obtain ⟨T36, X36, e36, st36⟩ := getF X34 hx hZ hown (host := "") (Or.inl (hw _ (List.mem_of_getElem? (i := 26) rfl))) Via.refl e34 f21 (g := (mkF m 21 #[.val (.int (6 : Int32)), .val (.ref b1), .val (.int (7 : Int32)), .val (.int (4 : Int32)), .val (.ref x4)] [(.ref x4)])) rfl rfl (hb hby dC6_21)
  refine OFin.of (S' := T36.setTop (mkF m 24 #[.val (.int (6 : Int32)), .val (.ref b1), .val (.int (7 : Int32)), .val (.int (4 : Int32)), .val (.ref x4)] [(.int (4 : Int32))])) (fun t ht => st36 t ht) ?_
  refine OFin.of (S' := T36.setTop (mkF m 16 #[.val (.int (6 : Int32)), .val (.ref b1), .val (.int (7 : Int32)), .val (.int (5 : Int32)), .val (.ref x4)] [(.int (5 : Int32)), (.ref b1)])) (fun t ht => ?_) ?_
  · refine XS.iloadN X36.here hx rfl (hb hby dC6_24) rfl ?_
    show Steps p.tables e below (T36.setTop (mkF m 25 _ [(.int (6 : Int32)), (.int (4 : Int32))])) _
    refine XS.icmpYes X36.here hx rfl (pc0 := 25) (pc' := 31) rfl (hb hby dC6_25) rfl (feq (by decide : ¬ ((4 : Int32) = (6 : Int32)))).2 (by decide) (by decide) ?_
    show Steps p.tables e below (T36.setTop (mkF m 31 _ [])) _
    refine XS.iinc X36.here hx rfl (hb hby dC6_31) rfl (l' := #[.val (.int (6 : Int32)), .val (.ref b1), .val (.int (7 : Int32)), .val (.int (5 : Int32)), .val (.ref x4)]) rfl ?_
    show Steps p.tables e below (T36.setTop (mkF m 34 #[.val (.int (6 : Int32)), .val (.ref b1), .val (.int (7 : Int32)), .val (.int (5 : Int32)), .val (.ref x4)] [])) _
    refine XS.goto X36.here hx rfl (pc0 := 34) (pc' := 9) rfl (hb hby dC6_34) (by decide) (by decide) ?_
    show Steps p.tables e below (T36.setTop (mkF m 9 _ [])) _
    refine XS.iloadN X36.here hx rfl (hb hby dC6_9) rfl ?_
    show Steps p.tables e below (T36.setTop (mkF m 10 _ [(.int (5 : Int32))])) _
    refine XS.iloadN X36.here hx rfl (hb hby dC6_10) rfl ?_
    show Steps p.tables e below (T36.setTop (mkF m 11 _ [(.int (7 : Int32)), (.int (5 : Int32))])) _
    refine XS.icmpNo X36.here hx rfl (hb hby dC6_11) rfl (tlt (by decide : (5 : Int32) < (7 : Int32))).2.1 ?_
    show Steps p.tables e below (T36.setTop (mkF m 14 _ [])) _
    refine XS.aloadN X36.here hx rfl (hb hby dC6_14) rfl rfl ?_
    show Steps p.tables e below (T36.setTop (mkF m 15 _ [(.ref b1)])) _
    refine XS.iloadN X36.here hx rfl (hb hby dC6_15) rfl ?_
    exact ht
  obtain ⟨cl37, Ar37, q37, S37, Ng37, H37, G37⟩ := id f2
  have hin37 := inb_of (j := (5 : Int32)) S37 ⟨by decide, by decide⟩
  have hat37 : cl37.slots[((5 : Int32)).toNatClampNeg]? = some (.ref x5) := Has.at H37 hin37 rfl
  refine OFin.of (S' := T36.setTop (mkF m 17 #[.val (.int (6 : Int32)), .val (.ref b1), .val (.int (7 : Int32)), .val (.int (5 : Int32)), .val (.ref x4)] [(.ref x5)])) (fun t ht => X36.aaload hx (j := (5 : Int32)) (v := (.ref x5)) (by rw [e36]; exact Ar37.1) (State.isArrayOf_alike hZ.alike Ar37.2.1) rfl Ar37.2.2 hin37 hat37 (g := (mkF m 16 #[.val (.int (6 : Int32)), .val (.ref b1), .val (.int (7 : Int32)), .val (.int (5 : Int32)), .val (.ref x4)] [(.int (5 : Int32)), (.ref b1)])) rfl rfl (hb hby dC6_16) _ ht) ?_
  refine OFin.of (S' := T36.setTop (mkF m 21 #[.val (.int (6 : Int32)), .val (.ref b1), .val (.int (7 : Int32)), .val (.int (5 : Int32)), .val (.ref x5)] [(.ref x5)])) (fun t ht => ?_) ?_
  · refine XS.astore X36.here hx rfl (hb hby dC6_17) rfl rfl (l' := #[.val (.int (6 : Int32)), .val (.ref b1), .val (.int (7 : Int32)), .val (.int (5 : Int32)), .val (.ref x5)]) rfl ?_
    show Steps p.tables e below (T36.setTop (mkF m 19 #[.val (.int (6 : Int32)), .val (.ref b1), .val (.int (7 : Int32)), .val (.int (5 : Int32)), .val (.ref x5)] [])) _
    refine XS.aload X36.here hx rfl (hb hby dC6_19) rfl rfl ?_
    exact ht
  obtain ⟨T38, X38, e38, st38⟩ := getF X36 hx hZ hown (host := "") (Or.inl (hw _ (List.mem_of_getElem? (i := 26) rfl))) Via.refl e36 f22 (g := (mkF m 21 #[.val (.int (6 : Int32)), .val (.ref b1), .val (.int (7 : Int32)), .val (.int (5 : Int32)), .val (.ref x5)] [(.ref x5)])) rfl rfl (hb hby dC6_21)
  refine OFin.of (S' := T38.setTop (mkF m 24 #[.val (.int (6 : Int32)), .val (.ref b1), .val (.int (7 : Int32)), .val (.int (5 : Int32)), .val (.ref x5)] [(.int (5 : Int32))])) (fun t ht => st38 t ht) ?_
  refine OFin.of (S' := T38.setTop (mkF m 16 #[.val (.int (6 : Int32)), .val (.ref b1), .val (.int (7 : Int32)), .val (.int (6 : Int32)), .val (.ref x5)] [(.int (6 : Int32)), (.ref b1)])) (fun t ht => ?_) ?_
  · refine XS.iloadN X38.here hx rfl (hb hby dC6_24) rfl ?_
    show Steps p.tables e below (T38.setTop (mkF m 25 _ [(.int (6 : Int32)), (.int (5 : Int32))])) _
    refine XS.icmpYes X38.here hx rfl (pc0 := 25) (pc' := 31) rfl (hb hby dC6_25) rfl (feq (by decide : ¬ ((5 : Int32) = (6 : Int32)))).2 (by decide) (by decide) ?_
    show Steps p.tables e below (T38.setTop (mkF m 31 _ [])) _
    refine XS.iinc X38.here hx rfl (hb hby dC6_31) rfl (l' := #[.val (.int (6 : Int32)), .val (.ref b1), .val (.int (7 : Int32)), .val (.int (6 : Int32)), .val (.ref x5)]) rfl ?_
    show Steps p.tables e below (T38.setTop (mkF m 34 #[.val (.int (6 : Int32)), .val (.ref b1), .val (.int (7 : Int32)), .val (.int (6 : Int32)), .val (.ref x5)] [])) _
    refine XS.goto X38.here hx rfl (pc0 := 34) (pc' := 9) rfl (hb hby dC6_34) (by decide) (by decide) ?_
    show Steps p.tables e below (T38.setTop (mkF m 9 _ [])) _
    refine XS.iloadN X38.here hx rfl (hb hby dC6_9) rfl ?_
    show Steps p.tables e below (T38.setTop (mkF m 10 _ [(.int (6 : Int32))])) _
    refine XS.iloadN X38.here hx rfl (hb hby dC6_10) rfl ?_
    show Steps p.tables e below (T38.setTop (mkF m 11 _ [(.int (7 : Int32)), (.int (6 : Int32))])) _
    refine XS.icmpNo X38.here hx rfl (hb hby dC6_11) rfl (tlt (by decide : (6 : Int32) < (7 : Int32))).2.1 ?_
    show Steps p.tables e below (T38.setTop (mkF m 14 _ [])) _
    refine XS.aloadN X38.here hx rfl (hb hby dC6_14) rfl rfl ?_
    show Steps p.tables e below (T38.setTop (mkF m 15 _ [(.ref b1)])) _
    refine XS.iloadN X38.here hx rfl (hb hby dC6_15) rfl ?_
    exact ht
  obtain ⟨cl39, Ar39, q39, S39, Ng39, H39, G39⟩ := id f2
  have hin39 := inb_of (j := (6 : Int32)) S39 ⟨by decide, by decide⟩
  have hat39 : cl39.slots[((6 : Int32)).toNatClampNeg]? = some (.ref x6) := Has.at H39 hin39 rfl
  refine OFin.of (S' := T38.setTop (mkF m 17 #[.val (.int (6 : Int32)), .val (.ref b1), .val (.int (7 : Int32)), .val (.int (6 : Int32)), .val (.ref x5)] [(.ref x6)])) (fun t ht => X38.aaload hx (j := (6 : Int32)) (v := (.ref x6)) (by rw [e38]; exact Ar39.1) (State.isArrayOf_alike hZ.alike Ar39.2.1) rfl Ar39.2.2 hin39 hat39 (g := (mkF m 16 #[.val (.int (6 : Int32)), .val (.ref b1), .val (.int (7 : Int32)), .val (.int (6 : Int32)), .val (.ref x5)] [(.int (6 : Int32)), (.ref b1)])) rfl rfl (hb hby dC6_16) _ ht) ?_
  refine OFin.of (S' := T38.setTop (mkF m 21 #[.val (.int (6 : Int32)), .val (.ref b1), .val (.int (7 : Int32)), .val (.int (6 : Int32)), .val (.ref x6)] [(.ref x6)])) (fun t ht => ?_) ?_
  · refine XS.astore X38.here hx rfl (hb hby dC6_17) rfl rfl (l' := #[.val (.int (6 : Int32)), .val (.ref b1), .val (.int (7 : Int32)), .val (.int (6 : Int32)), .val (.ref x6)]) rfl ?_
    show Steps p.tables e below (T38.setTop (mkF m 19 #[.val (.int (6 : Int32)), .val (.ref b1), .val (.int (7 : Int32)), .val (.int (6 : Int32)), .val (.ref x6)] [])) _
    refine XS.aload X38.here hx rfl (hb hby dC6_19) rfl rfl ?_
    exact ht
  obtain ⟨T40, X40, e40, st40⟩ := getF X38 hx hZ hown (host := "") (Or.inl (hw _ (List.mem_of_getElem? (i := 26) rfl))) Via.refl e38 f23 (g := (mkF m 21 #[.val (.int (6 : Int32)), .val (.ref b1), .val (.int (7 : Int32)), .val (.int (6 : Int32)), .val (.ref x6)] [(.ref x6)])) rfl rfl (hb hby dC6_21)
  refine OFin.of (S' := T40.setTop (mkF m 24 #[.val (.int (6 : Int32)), .val (.ref b1), .val (.int (7 : Int32)), .val (.int (6 : Int32)), .val (.ref x6)] [(.int (6 : Int32))])) (fun t ht => st40 t ht) ?_
  refine OFin.of (S' := T40.setTop (mkF m 30 #[.val (.int (6 : Int32)), .val (.ref b1), .val (.int (7 : Int32)), .val (.int (6 : Int32)), .val (.ref x6)] [(.ref x6)])) (fun t ht => ?_) ?_
  · refine XS.iloadN X40.here hx rfl (hb hby dC6_24) rfl ?_
    show Steps p.tables e below (T40.setTop (mkF m 25 _ [(.int (6 : Int32)), (.int (6 : Int32))])) _
    refine XS.icmpNo X40.here hx rfl (hb hby dC6_25) rfl (teq (by decide : (6 : Int32) = (6 : Int32))).2 ?_
    show Steps p.tables e below (T40.setTop (mkF m 28 _ [])) _
    refine XS.aload X40.here hx rfl (hb hby dC6_28) rfl rfl ?_
    exact ht
  exact OFin.retA X40 hx hlk (t := (.object "com/example/querant/querant/exchange/Exchange$Outcome")) rfl rfl hret (hb hby dC6_30) (by decide) (by decide) (by rw [e40]; exact ⟨rfl, N3, K25⟩)
theorem dC7_0 : decode prog_3_method_5_code 0 = .ok (.invokestatic 48, 3) := by decide +kernel
theorem dC7_3 : decode prog_3_method_5_code 3 = .ok (.astore_n 1, 1) := by decide +kernel
theorem dC7_4 : decode prog_3_method_5_code 4 = .ok (.aload_n 1, 1) := by decide +kernel
theorem dC7_5 : decode prog_3_method_5_code 5 = .ok (.arraylength, 1) := by decide +kernel
theorem dC7_6 : decode prog_3_method_5_code 6 = .ok (.istore_n 2, 1) := by decide +kernel
theorem dC7_7 : decode prog_3_method_5_code 7 = .ok (.iconst 0, 1) := by decide +kernel
theorem dC7_8 : decode prog_3_method_5_code 8 = .ok (.istore_n 3, 1) := by decide +kernel
theorem dC7_9 : decode prog_3_method_5_code 9 = .ok (.iload_n 3, 1) := by decide +kernel
theorem dC7_10 : decode prog_3_method_5_code 10 = .ok (.iload_n 2, 1) := by decide +kernel
theorem dC7_11 : decode prog_3_method_5_code 11 = .ok (.if_icmp .ge 26, 3) := by decide +kernel
theorem dC7_14 : decode prog_3_method_5_code 14 = .ok (.aload_n 1, 1) := by decide +kernel
theorem dC7_15 : decode prog_3_method_5_code 15 = .ok (.iload_n 3, 1) := by decide +kernel
theorem dC7_16 : decode prog_3_method_5_code 16 = .ok (.aaload, 1) := by decide +kernel
theorem dC7_17 : decode prog_3_method_5_code 17 = .ok (.astore 4, 2) := by decide +kernel
theorem dC7_19 : decode prog_3_method_5_code 19 = .ok (.aload 4, 2) := by decide +kernel
theorem dC7_21 : decode prog_3_method_5_code 21 = .ok (.getfield 44, 3) := by decide +kernel
theorem dC7_24 : decode prog_3_method_5_code 24 = .ok (.iload_n 0, 1) := by decide +kernel
theorem dC7_25 : decode prog_3_method_5_code 25 = .ok (.if_icmp .ne 6, 3) := by decide +kernel
theorem dC7_31 : decode prog_3_method_5_code 31 = .ok (.iinc 3 1, 3) := by decide +kernel
theorem dC7_34 : decode prog_3_method_5_code 34 = .ok (.goto (-25), 3) := by decide +kernel
theorem dC7_37 : decode prog_3_method_5_code 37 = .ok (.aconst_null, 1) := by decide +kernel
theorem dC7_38 : decode prog_3_method_5_code 38 = .ok (.areturn, 1) := by decide +kernel
theorem pnC7 : plainName "com/example/querant/querant/exchange/Exchange$Outcome" = true := by first | (simp [plainName, overriddenIn]; done) | decide +kernel
theorem efC7 (m : MethodId) (p0 : Int32) : entryFrame m #[(.int p0)] 5 = mkF m 0 #[.val (.int p0), .unset, .unset, .unset, .unset] [] := by first | (simp [entryFrame, mkF, argsToLocals, Value.category]; done) | rfl
def QC7 (Z : State) (p0 : Int32) (av : Addr) (k : ClassId) (x0 : Addr) (x1 : Addr) (x2 : Addr) (x3 : Addr) (x4 : Addr) (x5 : Addr) (x6 : Addr) (h0 : Heap) (n0 : Nat) (v : Option Value) (h : Heap) (L : List Loc) : Prop := v = some .null ∧ Fr n0 L ∧ Keep h0 h []
set_option maxRecDepth 65536 in
set_option maxHeartbeats 40000000 in
theorem rmC7 (l : Launch) (Z : State) (a0 : Array Value) (hw : ∀ d ∈ tables_1, d.before a0 Z = true) (ws : List Jvm.Cond) (p0 : Int32) (av : Addr) (k : ClassId) (x0 : Addr) (x1 : Addr) (x2 : Addr) (x3 : Addr) (x4 : Addr) (x5 : Addr) (x6 : Addr) (h0 : Heap) (n0 : Nat) (Z0 : n0 ≤ h0.size) (Sv : Sta Z h0 "com/example/querant/querant/exchange/Exchange$Outcome" "$VALUES" "[Lcom/example/querant/querant/exchange/Exchange$Outcome;" (.ref av)) (Ev : Exa Z h0 av "[Lcom/example/querant/querant/exchange/Exchange$Outcome;") (V1 : Arv Z h0 av k (.object "com/example/querant/querant/exchange/Exchange$Outcome") (7 : Int32) [(.ref x0), (.ref x1), (.ref x2), (.ref x3), (.ref x4), (.ref x5), (.ref x6)] .null) (O0 : Fld Z h0 x0 "com/example/querant/querant/exchange/Exchange$Outcome" "code" "I" (.int (0 : Int32))) (O1 : Fld Z h0 x1 "com/example/querant/querant/exchange/Exchange$Outcome" "code" "I" (.int (1 : Int32))) (O2 : Fld Z h0 x2 "com/example/querant/querant/exchange/Exchange$Outcome" "code" "I" (.int (2 : Int32))) (O3 : Fld Z h0 x3 "com/example/querant/querant/exchange/Exchange$Outcome" "code" "I" (.int (3 : Int32))) (O4 : Fld Z h0 x4 "com/example/querant/querant/exchange/Exchange$Outcome" "code" "I" (.int (4 : Int32))) (O5 : Fld Z h0 x5 "com/example/querant/querant/exchange/Exchange$Outcome" "code" "I" (.int (5 : Int32))) (O6 : Fld Z h0 x6 "com/example/querant/querant/exchange/Exchange$Outcome" "code" "I" (.int (6 : Int32))) (hp : ¬ p0 = (0 : Int32) ∧ ¬ p0 = (1 : Int32) ∧ ¬ p0 = (2 : Int32) ∧ ¬ p0 = (3 : Int32) ∧ ¬ p0 = (4 : Int32) ∧ ¬ p0 = (5 : Int32) ∧ ¬ p0 = (6 : Int32)) :
    MetFree l (⟨"com/example/querant/querant/exchange/Exchange$Outcome", "ofCode", "(I)Lcom/example/querant/querant/exchange/Exchange$Outcome;"⟩ : MethodName) (head1 (Jvm.Cond.code (⟨"com/example/querant/querant/exchange/Exchange$Outcome", "ofCode", "(I)Lcom/example/querant/querant/exchange/Exchange$Outcome;"⟩ : MethodName) prog_3_method_5_code 5 (some (.object "com/example/querant/querant/exchange/Exchange$Outcome")) :: ws) ({ frames := 2, cells := 1, slots := 7, locals := 25 } : Room)) (fun a U => a = #[(.int p0)] ∧ Z.Warmed39 U.vm ∧ U.heap = h0) (fun _ _ _ _ _ => True) (fun _ U o U' => ∃ v L, o = .returned v ∧ QC7 Z p0 av k x0 x1 x2 x3 x4 x5 x6 h0 n0 v U'.heap L ∧ FrameEnd U o U' L ({ frames := 2, cells := 1, slots := 7, locals := 25 } : Room).cells ({ frames := 2, cells := 1, slots := 7, locals := 25 } : Room).slots) := by
  refine MetFree.of_bodySF (plainFor_of_name pnC7) hisR ?_
  intro p e s m args below meth c s₁ Bd hml0 hP hK
  obtain ⟨rfl, hZ, hh⟩ := hP
  have hx := Bd.exec
  have hby := Bd.bytes
  have hlk := BodyLoose.notSynchronized Bd
  have hret := Bd.returns
  have hml : c.maxLocals = 5 := hml0
  have hown : s.vm.findClass "com/example/querant/querant/exchange/Exchange$Outcome" = some m.cls := findClass_of_methodNamed Bd.named
  have hnm := (name_of_methodNamed Bd.named Bd.method).1
  have X0 : Stand p l e ({ frames := 2, cells := 1, slots := 7, locals := 25 } : Room) s m #[(.int p0)] below meth c s₁ [] 0 0 := Stand.of_body Bd
  have e0 : s₁.heap = h0 := by rw [← hh, Bd.state]; rfl
  have N0 := Fr.nil n0
  show OFin p e below (KPost s (QC7 Z p0 av k x0 x1 x2 x3 x4 x5 x6 h0 n0) ({ frames := 2, cells := 1, slots := 7, locals := 25 } : Room).cells ({ frames := 2, cells := 1, slots := 7, locals := 25 } : Room).slots) _
  rw [efC7 m p0]
  have K0 : Keep h0 h0 [] := Keep.refl _ _
  obtain ⟨_, _, ⟨T1, L1, k1, n1⟩, -, X1, ⟨Lc1, hQ1, l1, y1, z1⟩, st1⟩ := Jvm.LawKit.callS X0 hx (y := (⟨"com/example/querant/querant/exchange/Exchange$Outcome", "values", "()[Lcom/example/querant/querant/exchange/Exchange$Outcome;"⟩ : MethodName)) hown (mvT hZ (hw _ (List.mem_of_getElem? (i := 4) rfl))) (mvT hZ (hw _ (List.mem_of_getElem? (i := 5) rfl))) (mvT hZ (hw _ (List.mem_of_getElem? (i := 2) rfl))) (mvT hZ (hw _ (List.mem_of_getElem? (i := 6) rfl))) (by decide) (backOf (W := 0) (rmVl l Z _ hw [] av k x0 x1 x2 x3 x4 x5 x6 h0 n0 Z0 Sv Ev V1) hZ (hw _ (List.mem_of_getElem? (i := 6) rfl)) (hw _ (List.mem_of_getElem? (i := 2) rfl)) (by decide) (by decide)) (g := (mkF m 0 #[.val (.int p0), .unset, .unset, .unset, .unset] [])) rfl (by rw [hml]; rfl) (argsL := []) (rest := []) (lenOf pd_0 rfl) rfl (by show 2 * 0 + _ ≤ _; exact Nat.le_of_eq rfl) (hb hby dC7_0) (fun _ _ => ⟨rfl, e0, (by decide : 0 + 1 ≤ _), (by decide : 0 + 7 ≤ _)⟩)
  dsimp only [Pt.U, Pt.locs, Pt.cells, Pt.slots] at X1 l1 y1 z1 st1 hQ1
  subst l1 y1 z1
  obtain ⟨rfl, Nq1, Eq1, f2⟩ := hQ1
  have N3 := Fr.app N0 Nq1
  obtain ⟨b1, gq1⟩ : ∃ z, z = h0.size := ⟨_, rfl⟩
  rw [← gq1] at f2 st1
  have g4 : n0 ≤ b1 := (Nat.le_trans Z0 (Nat.le_of_eq gq1.symm))
  have sz5 : h0.size ≤ b1 := (Nat.le_trans K0.1 (Nat.le_of_eq gq1.symm))
  have ne6 : av ≠ b1 := (Nat.ne_of_lt (Nat.lt_of_lt_of_le Ev.lt (Nat.le_of_eq gq1.symm)))
  have ne7 : x0 ≠ b1 := (Nat.ne_of_lt (Nat.lt_of_lt_of_le O0.lt (Nat.le_of_eq gq1.symm)))
  have ne8 : x1 ≠ b1 := (Nat.ne_of_lt (Nat.lt_of_lt_of_le O1.lt (Nat.le_of_eq gq1.symm)))
  have ne9 : x2 ≠ b1 := (Nat.ne_of_lt (Nat.lt_of_lt_of_le O2.lt (Nat.le_of_eq gq1.symm)))
  have ne10 : x3 ≠ b1 := (Nat.ne_of_lt (Nat.lt_of_lt_of_le O3.lt (Nat.le_of_eq gq1.symm)))
  have ne11 : x4 ≠ b1 := (Nat.ne_of_lt (Nat.lt_of_lt_of_le O4.lt (Nat.le_of_eq gq1.symm)))
  have ne12 : x5 ≠ b1 := (Nat.ne_of_lt (Nat.lt_of_lt_of_le O5.lt (Nat.le_of_eq gq1.symm)))
  have ne13 : x6 ≠ b1 := (Nat.ne_of_lt (Nat.lt_of_lt_of_le O6.lt (Nat.le_of_eq gq1.symm)))
  have f14 := Sv.ext Eq1
  have f15 := Ev.ext Eq1
  have f16 := V1.ext Eq1
  have f17 := O0.ext Eq1
  have f18 := O1.ext Eq1
  have f19 := O2.ext Eq1
  have f20 := O3.ext Eq1
  have f21 := O4.ext Eq1
  have f22 := O5.ext Eq1
  have f23 := O6.ext Eq1
  have Z24 : n0 ≤ T1.heap.size := (Nat.le_trans Z0 Eq1.1)
  have K25 : Keep h0 T1.heap [] := (K0.ext Eq1)
  refine OFin.of (S' := T1.setTop (mkF m 3 #[.val (.int p0), .unset, .unset, .unset, .unset] [(.ref b1)])) (fun t ht => st1 t ht) ?_
  refine OFin.of (S' := T1.setTop (mkF m 5 #[.val (.int p0), .val (.ref b1), .unset, .unset, .unset] [(.ref b1)])) (fun t ht => ?_) ?_
  · refine XS.astoreN X1.here hx rfl (hb hby dC7_3) rfl rfl (l' := #[.val (.int p0), .val (.ref b1), .unset, .unset, .unset]) rfl ?_
    show Steps p.tables e below (T1.setTop (mkF m 4 #[.val (.int p0), .val (.ref b1), .unset, .unset, .unset] [])) _
    refine XS.aloadN X1.here hx rfl (hb hby dC7_4) rfl rfl ?_
    exact ht
  obtain ⟨cl26, Ar26, q26, S26, Ng26, H26, G26⟩ := id f2
  refine OFin.of (S' := T1.setTop (mkF m 6 #[.val (.int p0), .val (.ref b1), .unset, .unset, .unset] [(.int (7 : Int32))])) (fun t ht => own_alen X1 hx hZ (rfl : T1.heap = T1.heap) Ar26 S26 Ng26 (g := (mkF m 5 #[.val (.int p0), .val (.ref b1), .unset, .unset, .unset] [(.ref b1)])) rfl rfl (hb hby dC7_5) ht) ?_
  refine OFin.of (S' := T1.setTop (mkF m 16 #[.val (.int p0), .val (.ref b1), .val (.int (7 : Int32)), .val (.int (0 : Int32)), .unset] [(.int (0 : Int32)), (.ref b1)])) (fun t ht => ?_) ?_
  · refine XS.istoreN X1.here hx rfl (hb hby dC7_6) rfl (l' := #[.val (.int p0), .val (.ref b1), .val (.int (7 : Int32)), .unset, .unset]) rfl ?_
    show Steps p.tables e below (T1.setTop (mkF m 7 #[.val (.int p0), .val (.ref b1), .val (.int (7 : Int32)), .unset, .unset] [])) _
    refine XS.iconst X1.here hx rfl (hb hby dC7_7) ?_
    show Steps p.tables e below (T1.setTop (mkF m 8 _ [(.int (0 : Int32))])) _
    refine XS.istoreN X1.here hx rfl (hb hby dC7_8) rfl (l' := #[.val (.int p0), .val (.ref b1), .val (.int (7 : Int32)), .val (.int (0 : Int32)), .unset]) rfl ?_
    show Steps p.tables e below (T1.setTop (mkF m 9 #[.val (.int p0), .val (.ref b1), .val (.int (7 : Int32)), .val (.int (0 : Int32)), .unset] [])) _
    refine XS.iloadN X1.here hx rfl (hb hby dC7_9) rfl ?_
    show Steps p.tables e below (T1.setTop (mkF m 10 _ [(.int (0 : Int32))])) _
    refine XS.iloadN X1.here hx rfl (hb hby dC7_10) rfl ?_
    show Steps p.tables e below (T1.setTop (mkF m 11 _ [(.int (7 : Int32)), (.int (0 : Int32))])) _
    refine XS.icmpNo X1.here hx rfl (hb hby dC7_11) rfl (tlt (by decide : (0 : Int32) < (7 : Int32))).2.1 ?_
    show Steps p.tables e below (T1.setTop (mkF m 14 _ [])) _
    refine XS.aloadN X1.here hx rfl (hb hby dC7_14) rfl rfl ?_
    show Steps p.tables e below (T1.setTop (mkF m 15 _ [(.ref b1)])) _
    refine XS.iloadN X1.here hx rfl (hb hby dC7_15) rfl ?_
    exact ht
  obtain ⟨cl27, Ar27, q27, S27, Ng27, H27, G27⟩ := id f2
  have hin27 := inb_of (j := (0 : Int32)) S27 ⟨by decide, by decide⟩
  have hat27 : cl27.slots[((0 : Int32)).toNatClampNeg]? = some (.ref x0) := Has.at H27 hin27 rfl
  refine OFin.of (S' := T1.setTop (mkF m 17 #[.val (.int p0), .val (.ref b1), .val (.int (7 : Int32)), .val (.int (0 : Int32)), .unset] [(.ref x0)])) (fun t ht => X1.aaload hx (j := (0 : Int32)) (v := (.ref x0)) (by rw [(rfl : T1.heap = T1.heap)]; exact Ar27.1) (State.isArrayOf_alike hZ.alike Ar27.2.1) rfl Ar27.2.2 hin27 hat27 (g := (mkF m 16 #[.val (.int p0), .val (.ref b1), .val (.int (7 : Int32)), .val (.int (0 : Int32)), .unset] [(.int (0 : Int32)), (.ref b1)])) rfl rfl (hb hby dC7_16) _ ht) ?_
  refine OFin.of (S' := T1.setTop (mkF m 21 #[.val (.int p0), .val (.ref b1), .val (.int (7 : Int32)), .val (.int (0 : Int32)), .val (.ref x0)] [(.ref x0)])) (fun t ht => ?_) ?_
  · refine XS.astore X1.here hx rfl (hb hby dC7_17) rfl rfl (l' := #[.val (.int p0), .val (.ref b1), .val (.int (7 : Int32)), .val (.int (0 : Int32)), .val (.ref x0)]) rfl ?_
    show Steps p.tables e below (T1.setTop (mkF m 19 #[.val (.int p0), .val (.ref b1), .val (.int (7 : Int32)), .val (.int (0 : Int32)), .val (.ref x0)] [])) _
    refine XS.aload X1.here hx rfl (hb hby dC7_19) rfl rfl ?_
    exact ht
  obtain ⟨T28, X28, e28, st28⟩ := getF X1 hx hZ hown (host := "") (Or.inl (hw _ (List.mem_of_getElem? (i := 26) rfl))) Via.refl (rfl : T1.heap = T1.heap) f17 (g := (mkF m 21 #[.val (.int p0), .val (.ref b1), .val (.int (7 : Int32)), .val (.int (0 : Int32)), .val (.ref x0)] [(.ref x0)])) rfl rfl (hb hby dC7_21)
  refine OFin.of (S' := T28.setTop (mkF m 24 #[.val (.int p0), .val (.ref b1), .val (.int (7 : Int32)), .val (.int (0 : Int32)), .val (.ref x0)] [(.int (0 : Int32))])) (fun t ht => st28 t ht) ?_
  refine OFin.of (S' := T28.setTop (mkF m 16 #[.val (.int p0), .val (.ref b1), .val (.int (7 : Int32)), .val (.int (1 : Int32)), .val (.ref x0)] [(.int (1 : Int32)), (.ref b1)])) (fun t ht => ?_) ?_
  · refine XS.iloadN X28.here hx rfl (hb hby dC7_24) rfl ?_
    show Steps p.tables e below (T28.setTop (mkF m 25 _ [(.int p0), (.int (0 : Int32))])) _
    refine XS.icmpYes X28.here hx rfl (pc0 := 25) (pc' := 31) rfl (hb hby dC7_25) rfl (feq ((fun q => hp.1 q.symm) : ¬ ((0 : Int32) = p0))).2 (by decide) (by decide) ?_
    show Steps p.tables e below (T28.setTop (mkF m 31 _ [])) _
    refine XS.iinc X28.here hx rfl (hb hby dC7_31) rfl (l' := #[.val (.int p0), .val (.ref b1), .val (.int (7 : Int32)), .val (.int (1 : Int32)), .val (.ref x0)]) rfl ?_
    show Steps p.tables e below (T28.setTop (mkF m 34 #[.val (.int p0), .val (.ref b1), .val (.int (7 : Int32)), .val (.int (1 : Int32)), .val (.ref x0)] [])) _
    refine XS.goto X28.here hx rfl (pc0 := 34) (pc' := 9) rfl (hb hby dC7_34) (by decide) (by decide) ?_
    show Steps p.tables e below (T28.setTop (mkF m 9 _ [])) _
    refine XS.iloadN X28.here hx rfl (hb hby dC7_9) rfl ?_
    show Steps p.tables e below (T28.setTop (mkF m 10 _ [(.int (1 : Int32))])) _
    refine XS.iloadN X28.here hx rfl (hb hby dC7_10) rfl ?_
    show Steps p.tables e below (T28.setTop (mkF m 11 _ [(.int (7 : Int32)), (.int (1 : Int32))])) _
    refine XS.icmpNo X28.here hx rfl (hb hby dC7_11) rfl (tlt (by decide : (1 : Int32) < (7 : Int32))).2.1 ?_
    show Steps p.tables e below (T28.setTop (mkF m 14 _ [])) _
    refine XS.aloadN X28.here hx rfl (hb hby dC7_14) rfl rfl ?_
    show Steps p.tables e below (T28.setTop (mkF m 15 _ [(.ref b1)])) _
    refine XS.iloadN X28.here hx rfl (hb hby dC7_15) rfl ?_
    exact ht
  obtain ⟨cl29, Ar29, q29, S29, Ng29, H29, G29⟩ := id f2
  have hin29 := inb_of (j := (1 : Int32)) S29 ⟨by decide, by decide⟩
  have hat29 : cl29.slots[((1 : Int32)).toNatClampNeg]? = some (.ref x1) := Has.at H29 hin29 rfl
  refine OFin.of (S' := T28.setTop (mkF m 17 #[.val (.int p0), .val (.ref b1), .val (.int (7 : Int32)), .val (.int (1 : Int32)), .val (.ref x0)] [(.ref x1)])) (fun t ht => X28.aaload hx (j := (1 : Int32)) (v := (.ref x1)) (by rw [e28]; exact Ar29.1) (State.isArrayOf_alike hZ.alike Ar29.2.1) rfl Ar29.2.2 hin29 hat29 (g := (mkF m 16 #[.val (.int p0), .val (.ref b1), .val (.int (7 : Int32)), .val (.int (1 : Int32)), .val (.ref x0)] [(.int (1 : Int32)), (.ref b1)])) rfl rfl (hb hby dC7_16) _ ht) ?_
  refine OFin.of (S' := T28.setTop (mkF m 21 #[.val (.int p0), .val (.ref b1), .val (.int (7 : Int32)), .val (.int (1 : Int32)), .val (.ref x1)] [(.ref x1)])) (fun t ht => ?_) ?_
  · refine XS.astore X28.here hx rfl (hb hby dC7_17) rfl rfl (l' := #[.val (.int p0), .val (.ref b1), .val (.int (7 : Int32)), .val (.int (1 : Int32)), .val (.ref x1)]) rfl ?_
    show Steps p.tables e below (T28.setTop (mkF m 19 #[.val (.int p0), .val (.ref b1), .val (.int (7 : Int32)), .val (.int (1 : Int32)), .val (.ref x1)] [])) _
    refine XS.aload X28.here hx rfl (hb hby dC7_19) rfl rfl ?_
    exact ht
  obtain ⟨T30, X30, e30, st30⟩ := getF X28 hx hZ hown (host := "") (Or.inl (hw _ (List.mem_of_getElem? (i := 26) rfl))) Via.refl e28 f18 (g := (mkF m 21 #[.val (.int p0), .val (.ref b1), .val (.int (7 : Int32)), .val (.int (1 : Int32)), .val (.ref x1)] [(.ref x1)])) rfl rfl (hb hby dC7_21)
  refine OFin.of (S' := T30.setTop (mkF m 24 #[.val (.int p0), .val (.ref b1), .val (.int (7 : Int32)), .val (.int (1 : Int32)), .val (.ref x1)] [(.int (1 : Int32))])) (fun t ht => st30 t ht) ?_
  refine OFin.of (S' := T30.setTop (mkF m 16 #[.val (.int p0), .val (.ref b1), .val (.int (7 : Int32)), .val (.int (2 : Int32)), .val (.ref x1)] [(.int (2 : Int32)), (.ref b1)])) (fun t ht => ?_) ?_
  · refine XS.iloadN X30.here hx rfl (hb hby dC7_24) rfl ?_
    show Steps p.tables e below (T30.setTop (mkF m 25 _ [(.int p0), (.int (1 : Int32))])) _
    refine XS.icmpYes X30.here hx rfl (pc0 := 25) (pc' := 31) rfl (hb hby dC7_25) rfl (feq ((fun q => hp.2.1 q.symm) : ¬ ((1 : Int32) = p0))).2 (by decide) (by decide) ?_
    show Steps p.tables e below (T30.setTop (mkF m 31 _ [])) _
    refine XS.iinc X30.here hx rfl (hb hby dC7_31) rfl (l' := #[.val (.int p0), .val (.ref b1), .val (.int (7 : Int32)), .val (.int (2 : Int32)), .val (.ref x1)]) rfl ?_
    show Steps p.tables e below (T30.setTop (mkF m 34 #[.val (.int p0), .val (.ref b1), .val (.int (7 : Int32)), .val (.int (2 : Int32)), .val (.ref x1)] [])) _
    refine XS.goto X30.here hx rfl (pc0 := 34) (pc' := 9) rfl (hb hby dC7_34) (by decide) (by decide) ?_
    show Steps p.tables e below (T30.setTop (mkF m 9 _ [])) _
    refine XS.iloadN X30.here hx rfl (hb hby dC7_9) rfl ?_
    show Steps p.tables e below (T30.setTop (mkF m 10 _ [(.int (2 : Int32))])) _
    refine XS.iloadN X30.here hx rfl (hb hby dC7_10) rfl ?_
    show Steps p.tables e below (T30.setTop (mkF m 11 _ [(.int (7 : Int32)), (.int (2 : Int32))])) _
    refine XS.icmpNo X30.here hx rfl (hb hby dC7_11) rfl (tlt (by decide : (2 : Int32) < (7 : Int32))).2.1 ?_
    show Steps p.tables e below (T30.setTop (mkF m 14 _ [])) _
    refine XS.aloadN X30.here hx rfl (hb hby dC7_14) rfl rfl ?_
    show Steps p.tables e below (T30.setTop (mkF m 15 _ [(.ref b1)])) _
    refine XS.iloadN X30.here hx rfl (hb hby dC7_15) rfl ?_
    exact ht
  obtain ⟨cl31, Ar31, q31, S31, Ng31, H31, G31⟩ := id f2
  have hin31 := inb_of (j := (2 : Int32)) S31 ⟨by decide, by decide⟩
  have hat31 : cl31.slots[((2 : Int32)).toNatClampNeg]? = some (.ref x2) := Has.at H31 hin31 rfl
  refine OFin.of (S' := T30.setTop (mkF m 17 #[.val (.int p0), .val (.ref b1), .val (.int (7 : Int32)), .val (.int (2 : Int32)), .val (.ref x1)] [(.ref x2)])) (fun t ht => X30.aaload hx (j := (2 : Int32)) (v := (.ref x2)) (by rw [e30]; exact Ar31.1) (State.isArrayOf_alike hZ.alike Ar31.2.1) rfl Ar31.2.2 hin31 hat31 (g := (mkF m 16 #[.val (.int p0), .val (.ref b1), .val (.int (7 : Int32)), .val (.int (2 : Int32)), .val (.ref x1)] [(.int (2 : Int32)), (.ref b1)])) rfl rfl (hb hby dC7_16) _ ht) ?_
  refine OFin.of (S' := T30.setTop (mkF m 21 #[.val (.int p0), .val (.ref b1), .val (.int (7 : Int32)), .val (.int (2 : Int32)), .val (.ref x2)] [(.ref x2)])) (fun t ht => ?_) ?_
  · refine XS.astore X30.here hx rfl (hb hby dC7_17) rfl rfl (l' := #[.val (.int p0), .val (.ref b1), .val (.int (7 : Int32)), .val (.int (2 : Int32)), .val (.ref x2)]) rfl ?_
    show Steps p.tables e below (T30.setTop (mkF m 19 #[.val (.int p0), .val (.ref b1), .val (.int (7 : Int32)), .val (.int (2 : Int32)), .val (.ref x2)] [])) _
    refine XS.aload X30.here hx rfl (hb hby dC7_19) rfl rfl ?_
    exact ht
  obtain ⟨T32, X32, e32, st32⟩ := getF X30 hx hZ hown (host := "") (Or.inl (hw _ (List.mem_of_getElem? (i := 26) rfl))) Via.refl e30 f19 (g := (mkF m 21 #[.val (.int p0), .val (.ref b1), .val (.int (7 : Int32)), .val (.int (2 : Int32)), .val (.ref x2)] [(.ref x2)])) rfl rfl (hb hby dC7_21)
  refine OFin.of (S' := T32.setTop (mkF m 24 #[.val (.int p0), .val (.ref b1), .val (.int (7 : Int32)), .val (.int (2 : Int32)), .val (.ref x2)] [(.int (2 : Int32))])) (fun t ht => st32 t ht) ?_
  refine OFin.of (S' := T32.setTop (mkF m 16 #[.val (.int p0), .val (.ref b1), .val (.int (7 : Int32)), .val (.int (3 : Int32)), .val (.ref x2)] [(.int (3 : Int32)), (.ref b1)])) (fun t ht => ?_) ?_
  · refine XS.iloadN X32.here hx rfl (hb hby dC7_24) rfl ?_
    show Steps p.tables e below (T32.setTop (mkF m 25 _ [(.int p0), (.int (2 : Int32))])) _
    refine XS.icmpYes X32.here hx rfl (pc0 := 25) (pc' := 31) rfl (hb hby dC7_25) rfl (feq ((fun q => hp.2.2.1 q.symm) : ¬ ((2 : Int32) = p0))).2 (by decide) (by decide) ?_
    show Steps p.tables e below (T32.setTop (mkF m 31 _ [])) _
    refine XS.iinc X32.here hx rfl (hb hby dC7_31) rfl (l' := #[.val (.int p0), .val (.ref b1), .val (.int (7 : Int32)), .val (.int (3 : Int32)), .val (.ref x2)]) rfl ?_
    show Steps p.tables e below (T32.setTop (mkF m 34 #[.val (.int p0), .val (.ref b1), .val (.int (7 : Int32)), .val (.int (3 : Int32)), .val (.ref x2)] [])) _
    refine XS.goto X32.here hx rfl (pc0 := 34) (pc' := 9) rfl (hb hby dC7_34) (by decide) (by decide) ?_
    show Steps p.tables e below (T32.setTop (mkF m 9 _ [])) _
    refine XS.iloadN X32.here hx rfl (hb hby dC7_9) rfl ?_
    show Steps p.tables e below (T32.setTop (mkF m 10 _ [(.int (3 : Int32))])) _
    refine XS.iloadN X32.here hx rfl (hb hby dC7_10) rfl ?_
    show Steps p.tables e below (T32.setTop (mkF m 11 _ [(.int (7 : Int32)), (.int (3 : Int32))])) _
    refine XS.icmpNo X32.here hx rfl (hb hby dC7_11) rfl (tlt (by decide : (3 : Int32) < (7 : Int32))).2.1 ?_
    show Steps p.tables e below (T32.setTop (mkF m 14 _ [])) _
    refine XS.aloadN X32.here hx rfl (hb hby dC7_14) rfl rfl ?_
    show Steps p.tables e below (T32.setTop (mkF m 15 _ [(.ref b1)])) _
    refine XS.iloadN X32.here hx rfl (hb hby dC7_15) rfl ?_
    exact ht
  obtain ⟨cl33, Ar33, q33, S33, Ng33, H33, G33⟩ := id f2
  have hin33 := inb_of (j := (3 : Int32)) S33 ⟨by decide, by decide⟩
  have hat33 : cl33.slots[((3 : Int32)).toNatClampNeg]? = some (.ref x3) := Has.at H33 hin33 rfl
  refine OFin.of (S' := T32.setTop (mkF m 17 #[.val (.int p0), .val (.ref b1), .val (.int (7 : Int32)), .val (.int (3 : Int32)), .val (.ref x2)] [(.ref x3)])) (fun t ht => X32.aaload hx (j := (3 : Int32)) (v := (.ref x3)) (by rw [e32]; exact Ar33.1) (State.isArrayOf_alike hZ.alike Ar33.2.1) rfl Ar33.2.2 hin33 hat33 (g := (mkF m 16 #[.val (.int p0), .val (.ref b1), .val (.int (7 : Int32)), .val (.int (3 : Int32)), .val (.ref x2)] [(.int (3 : Int32)), (.ref b1)])) rfl rfl (hb hby dC7_16) _ ht) ?_
  refine OFin.of (S' := T32.setTop (mkF m 21 #[.val (.int p0), .val (.ref b1), .val (.int (7 : Int32)), .val (.int (3 : Int32)), .val (.ref x3)] [(.ref x3)])) (fun t ht => ?_) ?_
  · refine XS.astore X32.here hx rfl (hb hby dC7_17) rfl rfl (l' := #[.val (.int p0), .val (.ref b1), .val (.int (7 : Int32)), .val (.int (3 : Int32)), .val (.ref x3)]) rfl ?_
    show Steps p.tables e below (T32.setTop (mkF m 19 #[.val (.int p0), .val (.ref b1), .val (.int (7 : Int32)), .val (.int (3 : Int32)), .val (.ref x3)] [])) _
    refine XS.aload X32.here hx rfl (hb hby dC7_19) rfl rfl ?_
    exact ht
  obtain ⟨T34, X34, e34, st34⟩ := getF X32 hx hZ hown (host := "") (Or.inl (hw _ (List.mem_of_getElem? (i := 26) rfl))) Via.refl e32 f20 (g := (mkF m 21 #[.val (.int p0), .val (.ref b1), .val (.int (7 : Int32)), .val (.int (3 : Int32)), .val (.ref x3)] [(.ref x3)])) rfl rfl (hb hby dC7_21)
  refine OFin.of (S' := T34.setTop (mkF m 24 #[.val (.int p0), .val (.ref b1), .val (.int (7 : Int32)), .val (.int (3 : Int32)), .val (.ref x3)] [(.int (3 : Int32))])) (fun t ht => st34 t ht) ?_
  refine OFin.of (S' := T34.setTop (mkF m 16 #[.val (.int p0), .val (.ref b1), .val (.int (7 : Int32)), .val (.int (4 : Int32)), .val (.ref x3)] [(.int (4 : Int32)), (.ref b1)])) (fun t ht => ?_) ?_
  · refine XS.iloadN X34.here hx rfl (hb hby dC7_24) rfl ?_
    show Steps p.tables e below (T34.setTop (mkF m 25 _ [(.int p0), (.int (3 : Int32))])) _
    refine XS.icmpYes X34.here hx rfl (pc0 := 25) (pc' := 31) rfl (hb hby dC7_25) rfl (feq ((fun q => hp.2.2.2.1 q.symm) : ¬ ((3 : Int32) = p0))).2 (by decide) (by decide) ?_
    show Steps p.tables e below (T34.setTop (mkF m 31 _ [])) _
    refine XS.iinc X34.here hx rfl (hb hby dC7_31) rfl (l' := #[.val (.int p0), .val (.ref b1), .val (.int (7 : Int32)), .val (.int (4 : Int32)), .val (.ref x3)]) rfl ?_
    show Steps p.tables e below (T34.setTop (mkF m 34 #[.val (.int p0), .val (.ref b1), .val (.int (7 : Int32)), .val (.int (4 : Int32)), .val (.ref x3)] [])) _
    refine XS.goto X34.here hx rfl (pc0 := 34) (pc' := 9) rfl (hb hby dC7_34) (by decide) (by decide) ?_
    show Steps p.tables e below (T34.setTop (mkF m 9 _ [])) _
    refine XS.iloadN X34.here hx rfl (hb hby dC7_9) rfl ?_
    show Steps p.tables e below (T34.setTop (mkF m 10 _ [(.int (4 : Int32))])) _
    refine XS.iloadN X34.here hx rfl (hb hby dC7_10) rfl ?_
    show Steps p.tables e below (T34.setTop (mkF m 11 _ [(.int (7 : Int32)), (.int (4 : Int32))])) _
    refine XS.icmpNo X34.here hx rfl (hb hby dC7_11) rfl (tlt (by decide : (4 : Int32) < (7 : Int32))).2.1 ?_
    show Steps p.tables e below (T34.setTop (mkF m 14 _ [])) _
    refine XS.aloadN X34.here hx rfl (hb hby dC7_14) rfl rfl ?_
    show Steps p.tables e below (T34.setTop (mkF m 15 _ [(.ref b1)])) _
    refine XS.iloadN X34.here hx rfl (hb hby dC7_15) rfl ?_
    exact ht
  obtain ⟨cl35, Ar35, q35, S35, Ng35, H35, G35⟩ := id f2
  have hin35 := inb_of (j := (4 : Int32)) S35 ⟨by decide, by decide⟩
  have hat35 : cl35.slots[((4 : Int32)).toNatClampNeg]? = some (.ref x4) := Has.at H35 hin35 rfl
  refine OFin.of (S' := T34.setTop (mkF m 17 #[.val (.int p0), .val (.ref b1), .val (.int (7 : Int32)), .val (.int (4 : Int32)), .val (.ref x3)] [(.ref x4)])) (fun t ht => X34.aaload hx (j := (4 : Int32)) (v := (.ref x4)) (by rw [e34]; exact Ar35.1) (State.isArrayOf_alike hZ.alike Ar35.2.1) rfl Ar35.2.2 hin35 hat35 (g := (mkF m 16 #[.val (.int p0), .val (.ref b1), .val (.int (7 : Int32)), .val (.int (4 : Int32)), .val (.ref x3)] [(.int (4 : Int32)), (.ref b1)])) rfl rfl (hb hby dC7_16) _ ht) ?_
  refine OFin.of (S' := T34.setTop (mkF m 21 #[.val (.int p0), .val (.ref b1), .val (.int (7 : Int32)), .val (.int (4 : Int32)), .val (.ref x4)] [(.ref x4)])) (fun t ht => ?_) ?_
  · refine XS.astore X34.here hx rfl (hb hby dC7_17) rfl rfl (l' := #[.val (.int p0), .val (.ref b1), .val (.int (7 : Int32)), .val (.int (4 : Int32)), .val (.ref x4)]) rfl ?_
    show Steps p.tables e below (T34.setTop (mkF m 19 #[.val (.int p0), .val (.ref b1), .val (.int (7 : Int32)), .val (.int (4 : Int32)), .val (.ref x4)] [])) _
    refine XS.aload X34.here hx rfl (hb hby dC7_19) rfl rfl ?_
    exact ht
  obtain ⟨T36, X36, e36, st36⟩ := getF X34 hx hZ hown (host := "") (Or.inl (hw _ (List.mem_of_getElem? (i := 26) rfl))) Via.refl e34 f21 (g := (mkF m 21 #[.val (.int p0), .val (.ref b1), .val (.int (7 : Int32)), .val (.int (4 : Int32)), .val (.ref x4)] [(.ref x4)])) rfl rfl (hb hby dC7_21)
  refine OFin.of (S' := T36.setTop (mkF m 24 #[.val (.int p0), .val (.ref b1), .val (.int (7 : Int32)), .val (.int (4 : Int32)), .val (.ref x4)] [(.int (4 : Int32))])) (fun t ht => st36 t ht) ?_
  refine OFin.of (S' := T36.setTop (mkF m 16 #[.val (.int p0), .val (.ref b1), .val (.int (7 : Int32)), .val (.int (5 : Int32)), .val (.ref x4)] [(.int (5 : Int32)), (.ref b1)])) (fun t ht => ?_) ?_
  · refine XS.iloadN X36.here hx rfl (hb hby dC7_24) rfl ?_
    show Steps p.tables e below (T36.setTop (mkF m 25 _ [(.int p0), (.int (4 : Int32))])) _
    refine XS.icmpYes X36.here hx rfl (pc0 := 25) (pc' := 31) rfl (hb hby dC7_25) rfl (feq ((fun q => hp.2.2.2.2.1 q.symm) : ¬ ((4 : Int32) = p0))).2 (by decide) (by decide) ?_
    show Steps p.tables e below (T36.setTop (mkF m 31 _ [])) _
    refine XS.iinc X36.here hx rfl (hb hby dC7_31) rfl (l' := #[.val (.int p0), .val (.ref b1), .val (.int (7 : Int32)), .val (.int (5 : Int32)), .val (.ref x4)]) rfl ?_
    show Steps p.tables e below (T36.setTop (mkF m 34 #[.val (.int p0), .val (.ref b1), .val (.int (7 : Int32)), .val (.int (5 : Int32)), .val (.ref x4)] [])) _
    refine XS.goto X36.here hx rfl (pc0 := 34) (pc' := 9) rfl (hb hby dC7_34) (by decide) (by decide) ?_
    show Steps p.tables e below (T36.setTop (mkF m 9 _ [])) _
    refine XS.iloadN X36.here hx rfl (hb hby dC7_9) rfl ?_
    show Steps p.tables e below (T36.setTop (mkF m 10 _ [(.int (5 : Int32))])) _
    refine XS.iloadN X36.here hx rfl (hb hby dC7_10) rfl ?_
    show Steps p.tables e below (T36.setTop (mkF m 11 _ [(.int (7 : Int32)), (.int (5 : Int32))])) _
    refine XS.icmpNo X36.here hx rfl (hb hby dC7_11) rfl (tlt (by decide : (5 : Int32) < (7 : Int32))).2.1 ?_
    show Steps p.tables e below (T36.setTop (mkF m 14 _ [])) _
    refine XS.aloadN X36.here hx rfl (hb hby dC7_14) rfl rfl ?_
    show Steps p.tables e below (T36.setTop (mkF m 15 _ [(.ref b1)])) _
    refine XS.iloadN X36.here hx rfl (hb hby dC7_15) rfl ?_
    exact ht
  obtain ⟨cl37, Ar37, q37, S37, Ng37, H37, G37⟩ := id f2
  have hin37 := inb_of (j := (5 : Int32)) S37 ⟨by decide, by decide⟩
  have hat37 : cl37.slots[((5 : Int32)).toNatClampNeg]? = some (.ref x5) := Has.at H37 hin37 rfl
  refine OFin.of (S' := T36.setTop (mkF m 17 #[.val (.int p0), .val (.ref b1), .val (.int (7 : Int32)), .val (.int (5 : Int32)), .val (.ref x4)] [(.ref x5)])) (fun t ht => X36.aaload hx (j := (5 : Int32)) (v := (.ref x5)) (by rw [e36]; exact Ar37.1) (State.isArrayOf_alike hZ.alike Ar37.2.1) rfl Ar37.2.2 hin37 hat37 (g := (mkF m 16 #[.val (.int p0), .val (.ref b1), .val (.int (7 : Int32)), .val (.int (5 : Int32)), .val (.ref x4)] [(.int (5 : Int32)), (.ref b1)])) rfl rfl (hb hby dC7_16) _ ht) ?_
  refine OFin.of (S' := T36.setTop (mkF m 21 #[.val (.int p0), .val (.ref b1), .val (.int (7 : Int32)), .val (.int (5 : Int32)), .val (.ref x5)] [(.ref x5)])) (fun t ht => ?_) ?_
  · refine XS.astore X36.here hx rfl (hb hby dC7_17) rfl rfl (l' := #[.val (.int p0), .val (.ref b1), .val (.int (7 : Int32)), .val (.int (5 : Int32)), .val (.ref x5)]) rfl ?_
    show Steps p.tables e below (T36.setTop (mkF m 19 #[.val (.int p0), .val (.ref b1), .val (.int (7 : Int32)), .val (.int (5 : Int32)), .val (.ref x5)] [])) _
    refine XS.aload X36.here hx rfl (hb hby dC7_19) rfl rfl ?_
    exact ht
  obtain ⟨T38, X38, e38, st38⟩ := getF X36 hx hZ hown (host := "") (Or.inl (hw _ (List.mem_of_getElem? (i := 26) rfl))) Via.refl e36 f22 (g := (mkF m 21 #[.val (.int p0), .val (.ref b1), .val (.int (7 : Int32)), .val (.int (5 : Int32)), .val (.ref x5)] [(.ref x5)])) rfl rfl (hb hby dC7_21)
  refine OFin.of (S' := T38.setTop (mkF m 24 #[.val (.int p0), .val (.ref b1), .val (.int (7 : Int32)), .val (.int (5 : Int32)), .val (.ref x5)] [(.int (5 : Int32))])) (fun t ht => st38 t ht) ?_
  refine OFin.of (S' := T38.setTop (mkF m 16 #[.val (.int p0), .val (.ref b1), .val (.int (7 : Int32)), .val (.int (6 : Int32)), .val (.ref x5)] [(.int (6 : Int32)), (.ref b1)])) (fun t ht => ?_) ?_
  · refine XS.iloadN X38.here hx rfl (hb hby dC7_24) rfl ?_
    show Steps p.tables e below (T38.setTop (mkF m 25 _ [(.int p0), (.int (5 : Int32))])) _
    refine XS.icmpYes X38.here hx rfl (pc0 := 25) (pc' := 31) rfl (hb hby dC7_25) rfl (feq ((fun q => hp.2.2.2.2.2.1 q.symm) : ¬ ((5 : Int32) = p0))).2 (by decide) (by decide) ?_
    show Steps p.tables e below (T38.setTop (mkF m 31 _ [])) _
    refine XS.iinc X38.here hx rfl (hb hby dC7_31) rfl (l' := #[.val (.int p0), .val (.ref b1), .val (.int (7 : Int32)), .val (.int (6 : Int32)), .val (.ref x5)]) rfl ?_
    show Steps p.tables e below (T38.setTop (mkF m 34 #[.val (.int p0), .val (.ref b1), .val (.int (7 : Int32)), .val (.int (6 : Int32)), .val (.ref x5)] [])) _
    refine XS.goto X38.here hx rfl (pc0 := 34) (pc' := 9) rfl (hb hby dC7_34) (by decide) (by decide) ?_
    show Steps p.tables e below (T38.setTop (mkF m 9 _ [])) _
    refine XS.iloadN X38.here hx rfl (hb hby dC7_9) rfl ?_
    show Steps p.tables e below (T38.setTop (mkF m 10 _ [(.int (6 : Int32))])) _
    refine XS.iloadN X38.here hx rfl (hb hby dC7_10) rfl ?_
    show Steps p.tables e below (T38.setTop (mkF m 11 _ [(.int (7 : Int32)), (.int (6 : Int32))])) _
    refine XS.icmpNo X38.here hx rfl (hb hby dC7_11) rfl (tlt (by decide : (6 : Int32) < (7 : Int32))).2.1 ?_
    show Steps p.tables e below (T38.setTop (mkF m 14 _ [])) _
    refine XS.aloadN X38.here hx rfl (hb hby dC7_14) rfl rfl ?_
    show Steps p.tables e below (T38.setTop (mkF m 15 _ [(.ref b1)])) _
    refine XS.iloadN X38.here hx rfl (hb hby dC7_15) rfl ?_
    exact ht
  obtain ⟨cl39, Ar39, q39, S39, Ng39, H39, G39⟩ := id f2
  have hin39 := inb_of (j := (6 : Int32)) S39 ⟨by decide, by decide⟩
  have hat39 : cl39.slots[((6 : Int32)).toNatClampNeg]? = some (.ref x6) := Has.at H39 hin39 rfl
  refine OFin.of (S' := T38.setTop (mkF m 17 #[.val (.int p0), .val (.ref b1), .val (.int (7 : Int32)), .val (.int (6 : Int32)), .val (.ref x5)] [(.ref x6)])) (fun t ht => X38.aaload hx (j := (6 : Int32)) (v := (.ref x6)) (by rw [e38]; exact Ar39.1) (State.isArrayOf_alike hZ.alike Ar39.2.1) rfl Ar39.2.2 hin39 hat39 (g := (mkF m 16 #[.val (.int p0), .val (.ref b1), .val (.int (7 : Int32)), .val (.int (6 : Int32)), .val (.ref x5)] [(.int (6 : Int32)), (.ref b1)])) rfl rfl (hb hby dC7_16) _ ht) ?_
  refine OFin.of (S' := T38.setTop (mkF m 21 #[.val (.int p0), .val (.ref b1), .val (.int (7 : Int32)), .val (.int (6 : Int32)), .val (.ref x6)] [(.ref x6)])) (fun t ht => ?_) ?_
  · refine XS.astore X38.here hx rfl (hb hby dC7_17) rfl rfl (l' := #[.val (.int p0), .val (.ref b1), .val (.int (7 : Int32)), .val (.int (6 : Int32)), .val (.ref x6)]) rfl ?_
    show Steps p.tables e below (T38.setTop (mkF m 19 #[.val (.int p0), .val (.ref b1), .val (.int (7 : Int32)), .val (.int (6 : Int32)), .val (.ref x6)] [])) _
    refine XS.aload X38.here hx rfl (hb hby dC7_19) rfl rfl ?_
    exact ht
  obtain ⟨T40, X40, e40, st40⟩ := getF X38 hx hZ hown (host := "") (Or.inl (hw _ (List.mem_of_getElem? (i := 26) rfl))) Via.refl e38 f23 (g := (mkF m 21 #[.val (.int p0), .val (.ref b1), .val (.int (7 : Int32)), .val (.int (6 : Int32)), .val (.ref x6)] [(.ref x6)])) rfl rfl (hb hby dC7_21)
  refine OFin.of (S' := T40.setTop (mkF m 24 #[.val (.int p0), .val (.ref b1), .val (.int (7 : Int32)), .val (.int (6 : Int32)), .val (.ref x6)] [(.int (6 : Int32))])) (fun t ht => st40 t ht) ?_
  refine OFin.of (S' := T40.setTop (mkF m 38 #[.val (.int p0), .val (.ref b1), .val (.int (7 : Int32)), .val (.int (7 : Int32)), .val (.ref x6)] [.null])) (fun t ht => ?_) ?_
  · refine XS.iloadN X40.here hx rfl (hb hby dC7_24) rfl ?_
    show Steps p.tables e below (T40.setTop (mkF m 25 _ [(.int p0), (.int (6 : Int32))])) _
    refine XS.icmpYes X40.here hx rfl (pc0 := 25) (pc' := 31) rfl (hb hby dC7_25) rfl (feq ((fun q => hp.2.2.2.2.2.2 q.symm) : ¬ ((6 : Int32) = p0))).2 (by decide) (by decide) ?_
    show Steps p.tables e below (T40.setTop (mkF m 31 _ [])) _
    refine XS.iinc X40.here hx rfl (hb hby dC7_31) rfl (l' := #[.val (.int p0), .val (.ref b1), .val (.int (7 : Int32)), .val (.int (7 : Int32)), .val (.ref x6)]) rfl ?_
    show Steps p.tables e below (T40.setTop (mkF m 34 #[.val (.int p0), .val (.ref b1), .val (.int (7 : Int32)), .val (.int (7 : Int32)), .val (.ref x6)] [])) _
    refine XS.goto X40.here hx rfl (pc0 := 34) (pc' := 9) rfl (hb hby dC7_34) (by decide) (by decide) ?_
    show Steps p.tables e below (T40.setTop (mkF m 9 _ [])) _
    refine XS.iloadN X40.here hx rfl (hb hby dC7_9) rfl ?_
    show Steps p.tables e below (T40.setTop (mkF m 10 _ [(.int (7 : Int32))])) _
    refine XS.iloadN X40.here hx rfl (hb hby dC7_10) rfl ?_
    show Steps p.tables e below (T40.setTop (mkF m 11 _ [(.int (7 : Int32)), (.int (7 : Int32))])) _
    refine XS.icmpYes X40.here hx rfl (pc0 := 11) (pc' := 37) rfl (hb hby dC7_11) rfl (flt (by decide : ¬ ((7 : Int32) < (7 : Int32)))).2.1 (by decide) (by decide) ?_
    show Steps p.tables e below (T40.setTop (mkF m 37 _ [])) _
    refine XS.aconstNull X40.here hx rfl (hb hby dC7_37) ?_
    exact ht
  exact OFin.retA X40 hx hlk (t := (.object "com/example/querant/querant/exchange/Exchange$Outcome")) rfl rfl hret (hb hby dC7_38) (by decide) (by decide) (by rw [e40]; exact ⟨rfl, N3, K25⟩)
theorem dX0_0 : decode method_2_code 0 = .ok (.iload_n 0, 1) := by decide +kernel
theorem dX0_1 : decode method_2_code 1 = .ok (.ifCond .ne 7, 3) := by decide +kernel
theorem dX0_4 : decode method_2_code 4 = .ok (.getstatic 7, 3) := by decide +kernel
theorem dX0_7 : decode method_2_code 7 = .ok (.areturn, 1) := by decide +kernel
theorem pnX0 : plainName "com/example/querant/querant/exchange/OutcomeOfCodePinLaw" = true := by first | (simp [plainName, overriddenIn]; done) | decide +kernel
theorem efX0 (m : MethodId)  : entryFrame m #[(.int (0 : Int32))] 1 = mkF m 0 #[.val (.int (0 : Int32))] [] := by first | (simp [entryFrame, mkF, argsToLocals, Value.category]; done) | rfl
def QX0 (Z : State) (x1 : Addr) (h0 : Heap) (n0 : Nat) (v : Option Value) (h : Heap) (L : List Loc) : Prop := v = some (.ref x1) ∧ Fr n0 L ∧ h = h0
set_option maxRecDepth 65536 in
set_option maxHeartbeats 40000000 in
theorem rmX0 (l : Launch) (Z : State) (a0 : Array Value) (hw : ∀ d ∈ tables_1, d.before a0 Z = true) (ws : List Jvm.Cond) (x1 : Addr) (h0 : Heap) (n0 : Nat) (Z0 : n0 ≤ h0.size) (S1 : Sta Z h0 "com/example/querant/querant/exchange/Exchange$Outcome" "NO_QUERY" "Lcom/example/querant/querant/exchange/Exchange$Outcome;" (.ref x1)) :
    MetFree l (⟨"com/example/querant/querant/exchange/OutcomeOfCodePinLaw", "expected", "(I)Lcom/example/querant/querant/exchange/Exchange$Outcome;"⟩ : MethodName) (head1 (Jvm.Cond.code (⟨"com/example/querant/querant/exchange/OutcomeOfCodePinLaw", "expected", "(I)Lcom/example/querant/querant/exchange/Exchange$Outcome;"⟩ : MethodName) method_2_code 1 (some (.object "com/example/querant/querant/exchange/Exchange$Outcome")) :: ws) ({ frames := 0, cells := 0, slots := 0, locals := 0 } : Room)) (fun a U => a = #[(.int (0 : Int32))] ∧ Z.Warmed39 U.vm ∧ U.heap = h0) (fun _ _ _ _ _ => True) (fun _ U o U' => ∃ v L, o = .returned v ∧ QX0 Z x1 h0 n0 v U'.heap L ∧ FrameEnd U o U' L ({ frames := 0, cells := 0, slots := 0, locals := 0 } : Room).cells ({ frames := 0, cells := 0, slots := 0, locals := 0 } : Room).slots) := by
  refine MetFree.of_bodySF (plainFor_of_name pnX0) hisR ?_
  intro p e s m args below meth c s₁ Bd hml0 hP hK
  obtain ⟨rfl, hZ, hh⟩ := hP
  have hx := Bd.exec
  have hby := Bd.bytes
  have hlk := BodyLoose.notSynchronized Bd
  have hret := Bd.returns
  have hml : c.maxLocals = 1 := hml0
  have hown : s.vm.findClass "com/example/querant/querant/exchange/OutcomeOfCodePinLaw" = some m.cls := findClass_of_methodNamed Bd.named
  have hnm := (name_of_methodNamed Bd.named Bd.method).1
  have X0 : Stand p l e ({ frames := 0, cells := 0, slots := 0, locals := 0 } : Room) s m #[(.int (0 : Int32))] below meth c s₁ [] 0 0 := Stand.of_body Bd
  have e0 : s₁.heap = h0 := by rw [← hh, Bd.state]; rfl
  have N0 := Fr.nil n0
  show OFin p e below (KPost s (QX0 Z x1 h0 n0) ({ frames := 0, cells := 0, slots := 0, locals := 0 } : Room).cells ({ frames := 0, cells := 0, slots := 0, locals := 0 } : Room).slots) _
  rw [efX0 m ]
  refine OFin.of (S' := s₁.setTop (mkF m 4 #[.val (.int (0 : Int32))] [])) (fun t ht => ?_) ?_
  · refine XS.iloadN X0.here hx rfl (hb hby dX0_0) rfl ?_
    show Steps p.tables e below (s₁.setTop (mkF m 1 _ [(.int (0 : Int32))])) _
    refine XS.ifNo X0.here hx rfl (hb hby dX0_1) rfl ((if0 _ _).trans (teq (by decide : (0 : Int32) = (0 : Int32))).2) ?_
    exact ht
  obtain ⟨T1, X1, e1, st1⟩ := getS (host := "") X0 hx hZ hown (hw _ (List.mem_of_getElem? (i := 32) rfl)) Via.refl e0 S1 (g := (mkF m 4 #[.val (.int (0 : Int32))] [])) rfl (hb hby dX0_4)
  refine OFin.of (S' := T1.setTop (mkF m 7 #[.val (.int (0 : Int32))] [(.ref x1)])) (fun t ht => st1 t ht) ?_
  exact OFin.retA X1 hx hlk (t := (.object "com/example/querant/querant/exchange/Exchange$Outcome")) rfl rfl hret (hb hby dX0_7) (by decide) (by decide) (by rw [e1]; exact ⟨rfl, N0, rfl⟩)
theorem dX1_0 : decode method_2_code 0 = .ok (.iload_n 0, 1) := by decide +kernel
theorem dX1_1 : decode method_2_code 1 = .ok (.ifCond .ne 7, 3) := by decide +kernel
theorem dX1_8 : decode method_2_code 8 = .ok (.iload_n 0, 1) := by decide +kernel
theorem dX1_9 : decode method_2_code 9 = .ok (.iconst 1, 1) := by decide +kernel
theorem dX1_10 : decode method_2_code 10 = .ok (.if_icmp .ne 7, 3) := by decide +kernel
theorem dX1_13 : decode method_2_code 13 = .ok (.getstatic 13, 3) := by decide +kernel
theorem dX1_16 : decode method_2_code 16 = .ok (.areturn, 1) := by decide +kernel
theorem pnX1 : plainName "com/example/querant/querant/exchange/OutcomeOfCodePinLaw" = true := by first | (simp [plainName, overriddenIn]; done) | decide +kernel
theorem efX1 (m : MethodId)  : entryFrame m #[(.int (1 : Int32))] 1 = mkF m 0 #[.val (.int (1 : Int32))] [] := by first | (simp [entryFrame, mkF, argsToLocals, Value.category]; done) | rfl
def QX1 (Z : State) (x1 : Addr) (h0 : Heap) (n0 : Nat) (v : Option Value) (h : Heap) (L : List Loc) : Prop := v = some (.ref x1) ∧ Fr n0 L ∧ h = h0
set_option maxRecDepth 65536 in
set_option maxHeartbeats 40000000 in
theorem rmX1 (l : Launch) (Z : State) (a0 : Array Value) (hw : ∀ d ∈ tables_1, d.before a0 Z = true) (ws : List Jvm.Cond) (x1 : Addr) (h0 : Heap) (n0 : Nat) (Z0 : n0 ≤ h0.size) (S1 : Sta Z h0 "com/example/querant/querant/exchange/Exchange$Outcome" "EXACT" "Lcom/example/querant/querant/exchange/Exchange$Outcome;" (.ref x1)) :
    MetFree l (⟨"com/example/querant/querant/exchange/OutcomeOfCodePinLaw", "expected", "(I)Lcom/example/querant/querant/exchange/Exchange$Outcome;"⟩ : MethodName) (head1 (Jvm.Cond.code (⟨"com/example/querant/querant/exchange/OutcomeOfCodePinLaw", "expected", "(I)Lcom/example/querant/querant/exchange/Exchange$Outcome;"⟩ : MethodName) method_2_code 1 (some (.object "com/example/querant/querant/exchange/Exchange$Outcome")) :: ws) ({ frames := 0, cells := 0, slots := 0, locals := 0 } : Room)) (fun a U => a = #[(.int (1 : Int32))] ∧ Z.Warmed39 U.vm ∧ U.heap = h0) (fun _ _ _ _ _ => True) (fun _ U o U' => ∃ v L, o = .returned v ∧ QX1 Z x1 h0 n0 v U'.heap L ∧ FrameEnd U o U' L ({ frames := 0, cells := 0, slots := 0, locals := 0 } : Room).cells ({ frames := 0, cells := 0, slots := 0, locals := 0 } : Room).slots) := by
  refine MetFree.of_bodySF (plainFor_of_name pnX1) hisR ?_
  intro p e s m args below meth c s₁ Bd hml0 hP hK
  obtain ⟨rfl, hZ, hh⟩ := hP
  have hx := Bd.exec
  have hby := Bd.bytes
  have hlk := BodyLoose.notSynchronized Bd
  have hret := Bd.returns
  have hml : c.maxLocals = 1 := hml0
  have hown : s.vm.findClass "com/example/querant/querant/exchange/OutcomeOfCodePinLaw" = some m.cls := findClass_of_methodNamed Bd.named
  have hnm := (name_of_methodNamed Bd.named Bd.method).1
  have X0 : Stand p l e ({ frames := 0, cells := 0, slots := 0, locals := 0 } : Room) s m #[(.int (1 : Int32))] below meth c s₁ [] 0 0 := Stand.of_body Bd
  have e0 : s₁.heap = h0 := by rw [← hh, Bd.state]; rfl
  have N0 := Fr.nil n0
  show OFin p e below (KPost s (QX1 Z x1 h0 n0) ({ frames := 0, cells := 0, slots := 0, locals := 0 } : Room).cells ({ frames := 0, cells := 0, slots := 0, locals := 0 } : Room).slots) _
  rw [efX1 m ]
  refine OFin.of (S' := s₁.setTop (mkF m 13 #[.val (.int (1 : Int32))] [])) (fun t ht => ?_) ?_
  · refine XS.iloadN X0.here hx rfl (hb hby dX1_0) rfl ?_
    show Steps p.tables e below (s₁.setTop (mkF m 1 _ [(.int (1 : Int32))])) _
    refine XS.ifYes X0.here hx rfl (pc0 := 1) (pc' := 8) rfl (hb hby dX1_1) rfl ((if0 _ _).trans (feq (by decide : ¬ ((1 : Int32) = (0 : Int32)))).2) (by decide) (by decide) ?_
    show Steps p.tables e below (s₁.setTop (mkF m 8 _ [])) _
    refine XS.iloadN X0.here hx rfl (hb hby dX1_8) rfl ?_
    show Steps p.tables e below (s₁.setTop (mkF m 9 _ [(.int (1 : Int32))])) _
    refine XS.iconst X0.here hx rfl (hb hby dX1_9) ?_
    show Steps p.tables e below (s₁.setTop (mkF m 10 _ [(.int (1 : Int32)), (.int (1 : Int32))])) _
    refine XS.icmpNo X0.here hx rfl (hb hby dX1_10) rfl (teq (by decide : (1 : Int32) = (1 : Int32))).2 ?_
    exact ht
  obtain ⟨T1, X1, e1, st1⟩ := getS (host := "") X0 hx hZ hown (hw _ (List.mem_of_getElem? (i := 36) rfl)) Via.refl e0 S1 (g := (mkF m 13 #[.val (.int (1 : Int32))] [])) rfl (hb hby dX1_13)
  refine OFin.of (S' := T1.setTop (mkF m 16 #[.val (.int (1 : Int32))] [(.ref x1)])) (fun t ht => st1 t ht) ?_
  exact OFin.retA X1 hx hlk (t := (.object "com/example/querant/querant/exchange/Exchange$Outcome")) rfl rfl hret (hb hby dX1_16) (by decide) (by decide) (by rw [e1]; exact ⟨rfl, N0, rfl⟩)
theorem dX2_0 : decode method_2_code 0 = .ok (.iload_n 0, 1) := by decide +kernel
theorem dX2_1 : decode method_2_code 1 = .ok (.ifCond .ne 7, 3) := by decide +kernel
theorem dX2_8 : decode method_2_code 8 = .ok (.iload_n 0, 1) := by decide +kernel
theorem dX2_9 : decode method_2_code 9 = .ok (.iconst 1, 1) := by decide +kernel
theorem dX2_10 : decode method_2_code 10 = .ok (.if_icmp .ne 7, 3) := by decide +kernel
theorem dX2_17 : decode method_2_code 17 = .ok (.iload_n 0, 1) := by decide +kernel
theorem dX2_18 : decode method_2_code 18 = .ok (.iconst 2, 1) := by decide +kernel
theorem dX2_19 : decode method_2_code 19 = .ok (.if_icmp .ne 7, 3) := by decide +kernel
theorem dX2_22 : decode method_2_code 22 = .ok (.getstatic 16, 3) := by decide +kernel
theorem dX2_25 : decode method_2_code 25 = .ok (.areturn, 1) := by decide +kernel
theorem pnX2 : plainName "com/example/querant/querant/exchange/OutcomeOfCodePinLaw" = true := by first | (simp [plainName, overriddenIn]; done) | decide +kernel
theorem efX2 (m : MethodId)  : entryFrame m #[(.int (2 : Int32))] 1 = mkF m 0 #[.val (.int (2 : Int32))] [] := by first | (simp [entryFrame, mkF, argsToLocals, Value.category]; done) | rfl
def QX2 (Z : State) (x1 : Addr) (h0 : Heap) (n0 : Nat) (v : Option Value) (h : Heap) (L : List Loc) : Prop := v = some (.ref x1) ∧ Fr n0 L ∧ h = h0
set_option maxRecDepth 65536 in
set_option maxHeartbeats 40000000 in
theorem rmX2 (l : Launch) (Z : State) (a0 : Array Value) (hw : ∀ d ∈ tables_1, d.before a0 Z = true) (ws : List Jvm.Cond) (x1 : Addr) (h0 : Heap) (n0 : Nat) (Z0 : n0 ≤ h0.size) (S1 : Sta Z h0 "com/example/querant/querant/exchange/Exchange$Outcome" "CANDIDATES" "Lcom/example/querant/querant/exchange/Exchange$Outcome;" (.ref x1)) :
    MetFree l (⟨"com/example/querant/querant/exchange/OutcomeOfCodePinLaw", "expected", "(I)Lcom/example/querant/querant/exchange/Exchange$Outcome;"⟩ : MethodName) (head1 (Jvm.Cond.code (⟨"com/example/querant/querant/exchange/OutcomeOfCodePinLaw", "expected", "(I)Lcom/example/querant/querant/exchange/Exchange$Outcome;"⟩ : MethodName) method_2_code 1 (some (.object "com/example/querant/querant/exchange/Exchange$Outcome")) :: ws) ({ frames := 0, cells := 0, slots := 0, locals := 0 } : Room)) (fun a U => a = #[(.int (2 : Int32))] ∧ Z.Warmed39 U.vm ∧ U.heap = h0) (fun _ _ _ _ _ => True) (fun _ U o U' => ∃ v L, o = .returned v ∧ QX2 Z x1 h0 n0 v U'.heap L ∧ FrameEnd U o U' L ({ frames := 0, cells := 0, slots := 0, locals := 0 } : Room).cells ({ frames := 0, cells := 0, slots := 0, locals := 0 } : Room).slots) := by
  refine MetFree.of_bodySF (plainFor_of_name pnX2) hisR ?_
  intro p e s m args below meth c s₁ Bd hml0 hP hK
  obtain ⟨rfl, hZ, hh⟩ := hP
  have hx := Bd.exec
  have hby := Bd.bytes
  have hlk := BodyLoose.notSynchronized Bd
  have hret := Bd.returns
  have hml : c.maxLocals = 1 := hml0
  have hown : s.vm.findClass "com/example/querant/querant/exchange/OutcomeOfCodePinLaw" = some m.cls := findClass_of_methodNamed Bd.named
  have hnm := (name_of_methodNamed Bd.named Bd.method).1
  have X0 : Stand p l e ({ frames := 0, cells := 0, slots := 0, locals := 0 } : Room) s m #[(.int (2 : Int32))] below meth c s₁ [] 0 0 := Stand.of_body Bd
  have e0 : s₁.heap = h0 := by rw [← hh, Bd.state]; rfl
  have N0 := Fr.nil n0
  show OFin p e below (KPost s (QX2 Z x1 h0 n0) ({ frames := 0, cells := 0, slots := 0, locals := 0 } : Room).cells ({ frames := 0, cells := 0, slots := 0, locals := 0 } : Room).slots) _
  rw [efX2 m ]
  refine OFin.of (S' := s₁.setTop (mkF m 22 #[.val (.int (2 : Int32))] [])) (fun t ht => ?_) ?_
  · refine XS.iloadN X0.here hx rfl (hb hby dX2_0) rfl ?_
    show Steps p.tables e below (s₁.setTop (mkF m 1 _ [(.int (2 : Int32))])) _
    refine XS.ifYes X0.here hx rfl (pc0 := 1) (pc' := 8) rfl (hb hby dX2_1) rfl ((if0 _ _).trans (feq (by decide : ¬ ((2 : Int32) = (0 : Int32)))).2) (by decide) (by decide) ?_
    show Steps p.tables e below (s₁.setTop (mkF m 8 _ [])) _
    refine XS.iloadN X0.here hx rfl (hb hby dX2_8) rfl ?_
    show Steps p.tables e below (s₁.setTop (mkF m 9 _ [(.int (2 : Int32))])) _
    refine XS.iconst X0.here hx rfl (hb hby dX2_9) ?_
    show Steps p.tables e below (s₁.setTop (mkF m 10 _ [(.int (1 : Int32)), (.int (2 : Int32))])) _
    refine XS.icmpYes X0.here hx rfl (pc0 := 10) (pc' := 17) rfl (hb hby dX2_10) rfl (feq (by decide : ¬ ((2 : Int32) = (1 : Int32)))).2 (by decide) (by decide) ?_
    show Steps p.tables e below (s₁.setTop (mkF m 17 _ [])) _
    refine XS.iloadN X0.here hx rfl (hb hby dX2_17) rfl ?_
    show Steps p.tables e below (s₁.setTop (mkF m 18 _ [(.int (2 : Int32))])) _
    refine XS.iconst X0.here hx rfl (hb hby dX2_18) ?_
    show Steps p.tables e below (s₁.setTop (mkF m 19 _ [(.int (2 : Int32)), (.int (2 : Int32))])) _
    refine XS.icmpNo X0.here hx rfl (hb hby dX2_19) rfl (teq (by decide : (2 : Int32) = (2 : Int32))).2 ?_
    exact ht
  obtain ⟨T1, X1, e1, st1⟩ := getS (host := "") X0 hx hZ hown (hw _ (List.mem_of_getElem? (i := 34) rfl)) Via.refl e0 S1 (g := (mkF m 22 #[.val (.int (2 : Int32))] [])) rfl (hb hby dX2_22)
  refine OFin.of (S' := T1.setTop (mkF m 25 #[.val (.int (2 : Int32))] [(.ref x1)])) (fun t ht => st1 t ht) ?_
  exact OFin.retA X1 hx hlk (t := (.object "com/example/querant/querant/exchange/Exchange$Outcome")) rfl rfl hret (hb hby dX2_25) (by decide) (by decide) (by rw [e1]; exact ⟨rfl, N0, rfl⟩)
theorem dX3_0 : decode method_2_code 0 = .ok (.iload_n 0, 1) := by decide +kernel
theorem dX3_1 : decode method_2_code 1 = .ok (.ifCond .ne 7, 3) := by decide +kernel
theorem dX3_8 : decode method_2_code 8 = .ok (.iload_n 0, 1) := by decide +kernel
theorem dX3_9 : decode method_2_code 9 = .ok (.iconst 1, 1) := by decide +kernel
theorem dX3_10 : decode method_2_code 10 = .ok (.if_icmp .ne 7, 3) := by decide +kernel
theorem dX3_17 : decode method_2_code 17 = .ok (.iload_n 0, 1) := by decide +kernel
theorem dX3_18 : decode method_2_code 18 = .ok (.iconst 2, 1) := by decide +kernel
theorem dX3_19 : decode method_2_code 19 = .ok (.if_icmp .ne 7, 3) := by decide +kernel
theorem dX3_26 : decode method_2_code 26 = .ok (.iload_n 0, 1) := by decide +kernel
theorem dX3_27 : decode method_2_code 27 = .ok (.iconst 3, 1) := by decide +kernel
theorem dX3_28 : decode method_2_code 28 = .ok (.if_icmp .ne 7, 3) := by decide +kernel
theorem dX3_31 : decode method_2_code 31 = .ok (.getstatic 19, 3) := by decide +kernel
theorem dX3_34 : decode method_2_code 34 = .ok (.areturn, 1) := by decide +kernel
theorem pnX3 : plainName "com/example/querant/querant/exchange/OutcomeOfCodePinLaw" = true := by first | (simp [plainName, overriddenIn]; done) | decide +kernel
theorem efX3 (m : MethodId)  : entryFrame m #[(.int (3 : Int32))] 1 = mkF m 0 #[.val (.int (3 : Int32))] [] := by first | (simp [entryFrame, mkF, argsToLocals, Value.category]; done) | rfl
def QX3 (Z : State) (x1 : Addr) (h0 : Heap) (n0 : Nat) (v : Option Value) (h : Heap) (L : List Loc) : Prop := v = some (.ref x1) ∧ Fr n0 L ∧ h = h0
set_option maxRecDepth 65536 in
set_option maxHeartbeats 40000000 in
theorem rmX3 (l : Launch) (Z : State) (a0 : Array Value) (hw : ∀ d ∈ tables_1, d.before a0 Z = true) (ws : List Jvm.Cond) (x1 : Addr) (h0 : Heap) (n0 : Nat) (Z0 : n0 ≤ h0.size) (S1 : Sta Z h0 "com/example/querant/querant/exchange/Exchange$Outcome" "TOO_MANY" "Lcom/example/querant/querant/exchange/Exchange$Outcome;" (.ref x1)) :
    MetFree l (⟨"com/example/querant/querant/exchange/OutcomeOfCodePinLaw", "expected", "(I)Lcom/example/querant/querant/exchange/Exchange$Outcome;"⟩ : MethodName) (head1 (Jvm.Cond.code (⟨"com/example/querant/querant/exchange/OutcomeOfCodePinLaw", "expected", "(I)Lcom/example/querant/querant/exchange/Exchange$Outcome;"⟩ : MethodName) method_2_code 1 (some (.object "com/example/querant/querant/exchange/Exchange$Outcome")) :: ws) ({ frames := 0, cells := 0, slots := 0, locals := 0 } : Room)) (fun a U => a = #[(.int (3 : Int32))] ∧ Z.Warmed39 U.vm ∧ U.heap = h0) (fun _ _ _ _ _ => True) (fun _ U o U' => ∃ v L, o = .returned v ∧ QX3 Z x1 h0 n0 v U'.heap L ∧ FrameEnd U o U' L ({ frames := 0, cells := 0, slots := 0, locals := 0 } : Room).cells ({ frames := 0, cells := 0, slots := 0, locals := 0 } : Room).slots) := by
  refine MetFree.of_bodySF (plainFor_of_name pnX3) hisR ?_
  intro p e s m args below meth c s₁ Bd hml0 hP hK
  obtain ⟨rfl, hZ, hh⟩ := hP
  have hx := Bd.exec
  have hby := Bd.bytes
  have hlk := BodyLoose.notSynchronized Bd
  have hret := Bd.returns
  have hml : c.maxLocals = 1 := hml0
  have hown : s.vm.findClass "com/example/querant/querant/exchange/OutcomeOfCodePinLaw" = some m.cls := findClass_of_methodNamed Bd.named
  have hnm := (name_of_methodNamed Bd.named Bd.method).1
  have X0 : Stand p l e ({ frames := 0, cells := 0, slots := 0, locals := 0 } : Room) s m #[(.int (3 : Int32))] below meth c s₁ [] 0 0 := Stand.of_body Bd
  have e0 : s₁.heap = h0 := by rw [← hh, Bd.state]; rfl
  have N0 := Fr.nil n0
  show OFin p e below (KPost s (QX3 Z x1 h0 n0) ({ frames := 0, cells := 0, slots := 0, locals := 0 } : Room).cells ({ frames := 0, cells := 0, slots := 0, locals := 0 } : Room).slots) _
  rw [efX3 m ]
  refine OFin.of (S' := s₁.setTop (mkF m 31 #[.val (.int (3 : Int32))] [])) (fun t ht => ?_) ?_
  · refine XS.iloadN X0.here hx rfl (hb hby dX3_0) rfl ?_
    show Steps p.tables e below (s₁.setTop (mkF m 1 _ [(.int (3 : Int32))])) _
    refine XS.ifYes X0.here hx rfl (pc0 := 1) (pc' := 8) rfl (hb hby dX3_1) rfl ((if0 _ _).trans (feq (by decide : ¬ ((3 : Int32) = (0 : Int32)))).2) (by decide) (by decide) ?_
    show Steps p.tables e below (s₁.setTop (mkF m 8 _ [])) _
    refine XS.iloadN X0.here hx rfl (hb hby dX3_8) rfl ?_
    show Steps p.tables e below (s₁.setTop (mkF m 9 _ [(.int (3 : Int32))])) _
    refine XS.iconst X0.here hx rfl (hb hby dX3_9) ?_
    show Steps p.tables e below (s₁.setTop (mkF m 10 _ [(.int (1 : Int32)), (.int (3 : Int32))])) _
    refine XS.icmpYes X0.here hx rfl (pc0 := 10) (pc' := 17) rfl (hb hby dX3_10) rfl (feq (by decide : ¬ ((3 : Int32) = (1 : Int32)))).2 (by decide) (by decide) ?_
    show Steps p.tables e below (s₁.setTop (mkF m 17 _ [])) _
    refine XS.iloadN X0.here hx rfl (hb hby dX3_17) rfl ?_
    show Steps p.tables e below (s₁.setTop (mkF m 18 _ [(.int (3 : Int32))])) _
    refine XS.iconst X0.here hx rfl (hb hby dX3_18) ?_
    show Steps p.tables e below (s₁.setTop (mkF m 19 _ [(.int (2 : Int32)), (.int (3 : Int32))])) _
    refine XS.icmpYes X0.here hx rfl (pc0 := 19) (pc' := 26) rfl (hb hby dX3_19) rfl (feq (by decide : ¬ ((3 : Int32) = (2 : Int32)))).2 (by decide) (by decide) ?_
    show Steps p.tables e below (s₁.setTop (mkF m 26 _ [])) _
    refine XS.iloadN X0.here hx rfl (hb hby dX3_26) rfl ?_
    show Steps p.tables e below (s₁.setTop (mkF m 27 _ [(.int (3 : Int32))])) _
    refine XS.iconst X0.here hx rfl (hb hby dX3_27) ?_
    show Steps p.tables e below (s₁.setTop (mkF m 28 _ [(.int (3 : Int32)), (.int (3 : Int32))])) _
    refine XS.icmpNo X0.here hx rfl (hb hby dX3_28) rfl (teq (by decide : (3 : Int32) = (3 : Int32))).2 ?_
    exact ht
  obtain ⟨T1, X1, e1, st1⟩ := getS (host := "") X0 hx hZ hown (hw _ (List.mem_of_getElem? (i := 35) rfl)) Via.refl e0 S1 (g := (mkF m 31 #[.val (.int (3 : Int32))] [])) rfl (hb hby dX3_31)
  refine OFin.of (S' := T1.setTop (mkF m 34 #[.val (.int (3 : Int32))] [(.ref x1)])) (fun t ht => st1 t ht) ?_
  exact OFin.retA X1 hx hlk (t := (.object "com/example/querant/querant/exchange/Exchange$Outcome")) rfl rfl hret (hb hby dX3_34) (by decide) (by decide) (by rw [e1]; exact ⟨rfl, N0, rfl⟩)
theorem dX4_0 : decode method_2_code 0 = .ok (.iload_n 0, 1) := by decide +kernel
theorem dX4_1 : decode method_2_code 1 = .ok (.ifCond .ne 7, 3) := by decide +kernel
theorem dX4_8 : decode method_2_code 8 = .ok (.iload_n 0, 1) := by decide +kernel
theorem dX4_9 : decode method_2_code 9 = .ok (.iconst 1, 1) := by decide +kernel
theorem dX4_10 : decode method_2_code 10 = .ok (.if_icmp .ne 7, 3) := by decide +kernel
theorem dX4_17 : decode method_2_code 17 = .ok (.iload_n 0, 1) := by decide +kernel
theorem dX4_18 : decode method_2_code 18 = .ok (.iconst 2, 1) := by decide +kernel
theorem dX4_19 : decode method_2_code 19 = .ok (.if_icmp .ne 7, 3) := by decide +kernel
theorem dX4_26 : decode method_2_code 26 = .ok (.iload_n 0, 1) := by decide +kernel
theorem dX4_27 : decode method_2_code 27 = .ok (.iconst 3, 1) := by decide +kernel
theorem dX4_28 : decode method_2_code 28 = .ok (.if_icmp .ne 7, 3) := by decide +kernel
theorem dX4_35 : decode method_2_code 35 = .ok (.iload_n 0, 1) := by decide +kernel
theorem dX4_36 : decode method_2_code 36 = .ok (.iconst 4, 1) := by decide +kernel
theorem dX4_37 : decode method_2_code 37 = .ok (.if_icmp .ne 7, 3) := by decide +kernel
theorem dX4_40 : decode method_2_code 40 = .ok (.getstatic 22, 3) := by decide +kernel
theorem dX4_43 : decode method_2_code 43 = .ok (.areturn, 1) := by decide +kernel
theorem pnX4 : plainName "com/example/querant/querant/exchange/OutcomeOfCodePinLaw" = true := by first | (simp [plainName, overriddenIn]; done) | decide +kernel
theorem efX4 (m : MethodId)  : entryFrame m #[(.int (4 : Int32))] 1 = mkF m 0 #[.val (.int (4 : Int32))] [] := by first | (simp [entryFrame, mkF, argsToLocals, Value.category]; done) | rfl
def QX4 (Z : State) (x1 : Addr) (h0 : Heap) (n0 : Nat) (v : Option Value) (h : Heap) (L : List Loc) : Prop := v = some (.ref x1) ∧ Fr n0 L ∧ h = h0
set_option maxRecDepth 65536 in
set_option maxHeartbeats 40000000 in
theorem rmX4 (l : Launch) (Z : State) (a0 : Array Value) (hw : ∀ d ∈ tables_1, d.before a0 Z = true) (ws : List Jvm.Cond) (x1 : Addr) (h0 : Heap) (n0 : Nat) (Z0 : n0 ≤ h0.size) (S1 : Sta Z h0 "com/example/querant/querant/exchange/Exchange$Outcome" "NOT_FOUND" "Lcom/example/querant/querant/exchange/Exchange$Outcome;" (.ref x1)) :
    MetFree l (⟨"com/example/querant/querant/exchange/OutcomeOfCodePinLaw", "expected", "(I)Lcom/example/querant/querant/exchange/Exchange$Outcome;"⟩ : MethodName) (head1 (Jvm.Cond.code (⟨"com/example/querant/querant/exchange/OutcomeOfCodePinLaw", "expected", "(I)Lcom/example/querant/querant/exchange/Exchange$Outcome;"⟩ : MethodName) method_2_code 1 (some (.object "com/example/querant/querant/exchange/Exchange$Outcome")) :: ws) ({ frames := 0, cells := 0, slots := 0, locals := 0 } : Room)) (fun a U => a = #[(.int (4 : Int32))] ∧ Z.Warmed39 U.vm ∧ U.heap = h0) (fun _ _ _ _ _ => True) (fun _ U o U' => ∃ v L, o = .returned v ∧ QX4 Z x1 h0 n0 v U'.heap L ∧ FrameEnd U o U' L ({ frames := 0, cells := 0, slots := 0, locals := 0 } : Room).cells ({ frames := 0, cells := 0, slots := 0, locals := 0 } : Room).slots) := by
  refine MetFree.of_bodySF (plainFor_of_name pnX4) hisR ?_
  intro p e s m args below meth c s₁ Bd hml0 hP hK
  obtain ⟨rfl, hZ, hh⟩ := hP
  have hx := Bd.exec
  have hby := Bd.bytes
  have hlk := BodyLoose.notSynchronized Bd
  have hret := Bd.returns
  have hml : c.maxLocals = 1 := hml0
  have hown : s.vm.findClass "com/example/querant/querant/exchange/OutcomeOfCodePinLaw" = some m.cls := findClass_of_methodNamed Bd.named
  have hnm := (name_of_methodNamed Bd.named Bd.method).1
  have X0 : Stand p l e ({ frames := 0, cells := 0, slots := 0, locals := 0 } : Room) s m #[(.int (4 : Int32))] below meth c s₁ [] 0 0 := Stand.of_body Bd
  have e0 : s₁.heap = h0 := by rw [← hh, Bd.state]; rfl
  have N0 := Fr.nil n0
  show OFin p e below (KPost s (QX4 Z x1 h0 n0) ({ frames := 0, cells := 0, slots := 0, locals := 0 } : Room).cells ({ frames := 0, cells := 0, slots := 0, locals := 0 } : Room).slots) _
  rw [efX4 m ]
  refine OFin.of (S' := s₁.setTop (mkF m 40 #[.val (.int (4 : Int32))] [])) (fun t ht => ?_) ?_
  · refine XS.iloadN X0.here hx rfl (hb hby dX4_0) rfl ?_
    show Steps p.tables e below (s₁.setTop (mkF m 1 _ [(.int (4 : Int32))])) _
    refine XS.ifYes X0.here hx rfl (pc0 := 1) (pc' := 8) rfl (hb hby dX4_1) rfl ((if0 _ _).trans (feq (by decide : ¬ ((4 : Int32) = (0 : Int32)))).2) (by decide) (by decide) ?_
    show Steps p.tables e below (s₁.setTop (mkF m 8 _ [])) _
    refine XS.iloadN X0.here hx rfl (hb hby dX4_8) rfl ?_
    show Steps p.tables e below (s₁.setTop (mkF m 9 _ [(.int (4 : Int32))])) _
    refine XS.iconst X0.here hx rfl (hb hby dX4_9) ?_
    show Steps p.tables e below (s₁.setTop (mkF m 10 _ [(.int (1 : Int32)), (.int (4 : Int32))])) _
    refine XS.icmpYes X0.here hx rfl (pc0 := 10) (pc' := 17) rfl (hb hby dX4_10) rfl (feq (by decide : ¬ ((4 : Int32) = (1 : Int32)))).2 (by decide) (by decide) ?_
    show Steps p.tables e below (s₁.setTop (mkF m 17 _ [])) _
    refine XS.iloadN X0.here hx rfl (hb hby dX4_17) rfl ?_
    show Steps p.tables e below (s₁.setTop (mkF m 18 _ [(.int (4 : Int32))])) _
    refine XS.iconst X0.here hx rfl (hb hby dX4_18) ?_
    show Steps p.tables e below (s₁.setTop (mkF m 19 _ [(.int (2 : Int32)), (.int (4 : Int32))])) _
    refine XS.icmpYes X0.here hx rfl (pc0 := 19) (pc' := 26) rfl (hb hby dX4_19) rfl (feq (by decide : ¬ ((4 : Int32) = (2 : Int32)))).2 (by decide) (by decide) ?_
    show Steps p.tables e below (s₁.setTop (mkF m 26 _ [])) _
    refine XS.iloadN X0.here hx rfl (hb hby dX4_26) rfl ?_
    show Steps p.tables e below (s₁.setTop (mkF m 27 _ [(.int (4 : Int32))])) _
    refine XS.iconst X0.here hx rfl (hb hby dX4_27) ?_
    show Steps p.tables e below (s₁.setTop (mkF m 28 _ [(.int (3 : Int32)), (.int (4 : Int32))])) _
    refine XS.icmpYes X0.here hx rfl (pc0 := 28) (pc' := 35) rfl (hb hby dX4_28) rfl (feq (by decide : ¬ ((4 : Int32) = (3 : Int32)))).2 (by decide) (by decide) ?_
    show Steps p.tables e below (s₁.setTop (mkF m 35 _ [])) _
    refine XS.iloadN X0.here hx rfl (hb hby dX4_35) rfl ?_
    show Steps p.tables e below (s₁.setTop (mkF m 36 _ [(.int (4 : Int32))])) _
    refine XS.iconst X0.here hx rfl (hb hby dX4_36) ?_
    show Steps p.tables e below (s₁.setTop (mkF m 37 _ [(.int (4 : Int32)), (.int (4 : Int32))])) _
    refine XS.icmpNo X0.here hx rfl (hb hby dX4_37) rfl (teq (by decide : (4 : Int32) = (4 : Int32))).2 ?_
    exact ht
  obtain ⟨T1, X1, e1, st1⟩ := getS (host := "") X0 hx hZ hown (hw _ (List.mem_of_getElem? (i := 33) rfl)) Via.refl e0 S1 (g := (mkF m 40 #[.val (.int (4 : Int32))] [])) rfl (hb hby dX4_40)
  refine OFin.of (S' := T1.setTop (mkF m 43 #[.val (.int (4 : Int32))] [(.ref x1)])) (fun t ht => st1 t ht) ?_
  exact OFin.retA X1 hx hlk (t := (.object "com/example/querant/querant/exchange/Exchange$Outcome")) rfl rfl hret (hb hby dX4_43) (by decide) (by decide) (by rw [e1]; exact ⟨rfl, N0, rfl⟩)
theorem dX5_0 : decode method_2_code 0 = .ok (.iload_n 0, 1) := by decide +kernel
theorem dX5_1 : decode method_2_code 1 = .ok (.ifCond .ne 7, 3) := by decide +kernel
theorem dX5_8 : decode method_2_code 8 = .ok (.iload_n 0, 1) := by decide +kernel
theorem dX5_9 : decode method_2_code 9 = .ok (.iconst 1, 1) := by decide +kernel
theorem dX5_10 : decode method_2_code 10 = .ok (.if_icmp .ne 7, 3) := by decide +kernel
theorem dX5_17 : decode method_2_code 17 = .ok (.iload_n 0, 1) := by decide +kernel
theorem dX5_18 : decode method_2_code 18 = .ok (.iconst 2, 1) := by decide +kernel
theorem dX5_19 : decode method_2_code 19 = .ok (.if_icmp .ne 7, 3) := by decide +kernel
theorem dX5_26 : decode method_2_code 26 = .ok (.iload_n 0, 1) := by decide +kernel
theorem dX5_27 : decode method_2_code 27 = .ok (.iconst 3, 1) := by decide +kernel
theorem dX5_28 : decode method_2_code 28 = .ok (.if_icmp .ne 7, 3) := by decide +kernel
theorem dX5_35 : decode method_2_code 35 = .ok (.iload_n 0, 1) := by decide +kernel
theorem dX5_36 : decode method_2_code 36 = .ok (.iconst 4, 1) := by decide +kernel
theorem dX5_37 : decode method_2_code 37 = .ok (.if_icmp .ne 7, 3) := by decide +kernel
theorem dX5_44 : decode method_2_code 44 = .ok (.iload_n 0, 1) := by decide +kernel
theorem dX5_45 : decode method_2_code 45 = .ok (.iconst 5, 1) := by decide +kernel
theorem dX5_46 : decode method_2_code 46 = .ok (.if_icmp .ne 7, 3) := by decide +kernel
theorem dX5_49 : decode method_2_code 49 = .ok (.getstatic 25, 3) := by decide +kernel
theorem dX5_52 : decode method_2_code 52 = .ok (.areturn, 1) := by decide +kernel
theorem pnX5 : plainName "com/example/querant/querant/exchange/OutcomeOfCodePinLaw" = true := by first | (simp [plainName, overriddenIn]; done) | decide +kernel
theorem efX5 (m : MethodId)  : entryFrame m #[(.int (5 : Int32))] 1 = mkF m 0 #[.val (.int (5 : Int32))] [] := by first | (simp [entryFrame, mkF, argsToLocals, Value.category]; done) | rfl
def QX5 (Z : State) (x1 : Addr) (h0 : Heap) (n0 : Nat) (v : Option Value) (h : Heap) (L : List Loc) : Prop := v = some (.ref x1) ∧ Fr n0 L ∧ h = h0
set_option maxRecDepth 65536 in
set_option maxHeartbeats 40000000 in
theorem rmX5 (l : Launch) (Z : State) (a0 : Array Value) (hw : ∀ d ∈ tables_1, d.before a0 Z = true) (ws : List Jvm.Cond) (x1 : Addr) (h0 : Heap) (n0 : Nat) (Z0 : n0 ≤ h0.size) (S1 : Sta Z h0 "com/example/querant/querant/exchange/Exchange$Outcome" "PROTECTED" "Lcom/example/querant/querant/exchange/Exchange$Outcome;" (.ref x1)) :
    MetFree l (⟨"com/example/querant/querant/exchange/OutcomeOfCodePinLaw", "expected", "(I)Lcom/example/querant/querant/exchange/Exchange$Outcome;"⟩ : MethodName) (head1 (Jvm.Cond.code (⟨"com/example/querant/querant/exchange/OutcomeOfCodePinLaw", "expected", "(I)Lcom/example/querant/querant/exchange/Exchange$Outcome;"⟩ : MethodName) method_2_code 1 (some (.object "com/example/querant/querant/exchange/Exchange$Outcome")) :: ws) ({ frames := 0, cells := 0, slots := 0, locals := 0 } : Room)) (fun a U => a = #[(.int (5 : Int32))] ∧ Z.Warmed39 U.vm ∧ U.heap = h0) (fun _ _ _ _ _ => True) (fun _ U o U' => ∃ v L, o = .returned v ∧ QX5 Z x1 h0 n0 v U'.heap L ∧ FrameEnd U o U' L ({ frames := 0, cells := 0, slots := 0, locals := 0 } : Room).cells ({ frames := 0, cells := 0, slots := 0, locals := 0 } : Room).slots) := by
  refine MetFree.of_bodySF (plainFor_of_name pnX5) hisR ?_
  intro p e s m args below meth c s₁ Bd hml0 hP hK
  obtain ⟨rfl, hZ, hh⟩ := hP
  have hx := Bd.exec
  have hby := Bd.bytes
  have hlk := BodyLoose.notSynchronized Bd
  have hret := Bd.returns
  have hml : c.maxLocals = 1 := hml0
  have hown : s.vm.findClass "com/example/querant/querant/exchange/OutcomeOfCodePinLaw" = some m.cls := findClass_of_methodNamed Bd.named
  have hnm := (name_of_methodNamed Bd.named Bd.method).1
  have X0 : Stand p l e ({ frames := 0, cells := 0, slots := 0, locals := 0 } : Room) s m #[(.int (5 : Int32))] below meth c s₁ [] 0 0 := Stand.of_body Bd
  have e0 : s₁.heap = h0 := by rw [← hh, Bd.state]; rfl
  have N0 := Fr.nil n0
  show OFin p e below (KPost s (QX5 Z x1 h0 n0) ({ frames := 0, cells := 0, slots := 0, locals := 0 } : Room).cells ({ frames := 0, cells := 0, slots := 0, locals := 0 } : Room).slots) _
  rw [efX5 m ]
  refine OFin.of (S' := s₁.setTop (mkF m 49 #[.val (.int (5 : Int32))] [])) (fun t ht => ?_) ?_
  · refine XS.iloadN X0.here hx rfl (hb hby dX5_0) rfl ?_
    show Steps p.tables e below (s₁.setTop (mkF m 1 _ [(.int (5 : Int32))])) _
    refine XS.ifYes X0.here hx rfl (pc0 := 1) (pc' := 8) rfl (hb hby dX5_1) rfl ((if0 _ _).trans (feq (by decide : ¬ ((5 : Int32) = (0 : Int32)))).2) (by decide) (by decide) ?_
    show Steps p.tables e below (s₁.setTop (mkF m 8 _ [])) _
    refine XS.iloadN X0.here hx rfl (hb hby dX5_8) rfl ?_
    show Steps p.tables e below (s₁.setTop (mkF m 9 _ [(.int (5 : Int32))])) _
    refine XS.iconst X0.here hx rfl (hb hby dX5_9) ?_
    show Steps p.tables e below (s₁.setTop (mkF m 10 _ [(.int (1 : Int32)), (.int (5 : Int32))])) _
    refine XS.icmpYes X0.here hx rfl (pc0 := 10) (pc' := 17) rfl (hb hby dX5_10) rfl (feq (by decide : ¬ ((5 : Int32) = (1 : Int32)))).2 (by decide) (by decide) ?_
    show Steps p.tables e below (s₁.setTop (mkF m 17 _ [])) _
    refine XS.iloadN X0.here hx rfl (hb hby dX5_17) rfl ?_
    show Steps p.tables e below (s₁.setTop (mkF m 18 _ [(.int (5 : Int32))])) _
    refine XS.iconst X0.here hx rfl (hb hby dX5_18) ?_
    show Steps p.tables e below (s₁.setTop (mkF m 19 _ [(.int (2 : Int32)), (.int (5 : Int32))])) _
    refine XS.icmpYes X0.here hx rfl (pc0 := 19) (pc' := 26) rfl (hb hby dX5_19) rfl (feq (by decide : ¬ ((5 : Int32) = (2 : Int32)))).2 (by decide) (by decide) ?_
    show Steps p.tables e below (s₁.setTop (mkF m 26 _ [])) _
    refine XS.iloadN X0.here hx rfl (hb hby dX5_26) rfl ?_
    show Steps p.tables e below (s₁.setTop (mkF m 27 _ [(.int (5 : Int32))])) _
    refine XS.iconst X0.here hx rfl (hb hby dX5_27) ?_
    show Steps p.tables e below (s₁.setTop (mkF m 28 _ [(.int (3 : Int32)), (.int (5 : Int32))])) _
    refine XS.icmpYes X0.here hx rfl (pc0 := 28) (pc' := 35) rfl (hb hby dX5_28) rfl (feq (by decide : ¬ ((5 : Int32) = (3 : Int32)))).2 (by decide) (by decide) ?_
    show Steps p.tables e below (s₁.setTop (mkF m 35 _ [])) _
    refine XS.iloadN X0.here hx rfl (hb hby dX5_35) rfl ?_
    show Steps p.tables e below (s₁.setTop (mkF m 36 _ [(.int (5 : Int32))])) _
    refine XS.iconst X0.here hx rfl (hb hby dX5_36) ?_
    show Steps p.tables e below (s₁.setTop (mkF m 37 _ [(.int (4 : Int32)), (.int (5 : Int32))])) _
    refine XS.icmpYes X0.here hx rfl (pc0 := 37) (pc' := 44) rfl (hb hby dX5_37) rfl (feq (by decide : ¬ ((5 : Int32) = (4 : Int32)))).2 (by decide) (by decide) ?_
    show Steps p.tables e below (s₁.setTop (mkF m 44 _ [])) _
    refine XS.iloadN X0.here hx rfl (hb hby dX5_44) rfl ?_
    show Steps p.tables e below (s₁.setTop (mkF m 45 _ [(.int (5 : Int32))])) _
    refine XS.iconst X0.here hx rfl (hb hby dX5_45) ?_
    show Steps p.tables e below (s₁.setTop (mkF m 46 _ [(.int (5 : Int32)), (.int (5 : Int32))])) _
    refine XS.icmpNo X0.here hx rfl (hb hby dX5_46) rfl (teq (by decide : (5 : Int32) = (5 : Int32))).2 ?_
    exact ht
  obtain ⟨T1, X1, e1, st1⟩ := getS (host := "") X0 hx hZ hown (hw _ (List.mem_of_getElem? (i := 37) rfl)) Via.refl e0 S1 (g := (mkF m 49 #[.val (.int (5 : Int32))] [])) rfl (hb hby dX5_49)
  refine OFin.of (S' := T1.setTop (mkF m 52 #[.val (.int (5 : Int32))] [(.ref x1)])) (fun t ht => st1 t ht) ?_
  exact OFin.retA X1 hx hlk (t := (.object "com/example/querant/querant/exchange/Exchange$Outcome")) rfl rfl hret (hb hby dX5_52) (by decide) (by decide) (by rw [e1]; exact ⟨rfl, N0, rfl⟩)
theorem dX6_0 : decode method_2_code 0 = .ok (.iload_n 0, 1) := by decide +kernel
theorem dX6_1 : decode method_2_code 1 = .ok (.ifCond .ne 7, 3) := by decide +kernel
theorem dX6_8 : decode method_2_code 8 = .ok (.iload_n 0, 1) := by decide +kernel
theorem dX6_9 : decode method_2_code 9 = .ok (.iconst 1, 1) := by decide +kernel
theorem dX6_10 : decode method_2_code 10 = .ok (.if_icmp .ne 7, 3) := by decide +kernel
theorem dX6_17 : decode method_2_code 17 = .ok (.iload_n 0, 1) := by decide +kernel
theorem dX6_18 : decode method_2_code 18 = .ok (.iconst 2, 1) := by decide +kernel
theorem dX6_19 : decode method_2_code 19 = .ok (.if_icmp .ne 7, 3) := by decide +kernel
theorem dX6_26 : decode method_2_code 26 = .ok (.iload_n 0, 1) := by decide +kernel
theorem dX6_27 : decode method_2_code 27 = .ok (.iconst 3, 1) := by decide +kernel
theorem dX6_28 : decode method_2_code 28 = .ok (.if_icmp .ne 7, 3) := by decide +kernel
theorem dX6_35 : decode method_2_code 35 = .ok (.iload_n 0, 1) := by decide +kernel
theorem dX6_36 : decode method_2_code 36 = .ok (.iconst 4, 1) := by decide +kernel
theorem dX6_37 : decode method_2_code 37 = .ok (.if_icmp .ne 7, 3) := by decide +kernel
theorem dX6_44 : decode method_2_code 44 = .ok (.iload_n 0, 1) := by decide +kernel
theorem dX6_45 : decode method_2_code 45 = .ok (.iconst 5, 1) := by decide +kernel
theorem dX6_46 : decode method_2_code 46 = .ok (.if_icmp .ne 7, 3) := by decide +kernel
theorem dX6_53 : decode method_2_code 53 = .ok (.iload_n 0, 1) := by decide +kernel
theorem dX6_54 : decode method_2_code 54 = .ok (.bipush 6, 2) := by decide +kernel
theorem dX6_56 : decode method_2_code 56 = .ok (.if_icmp .ne 7, 3) := by decide +kernel
theorem dX6_59 : decode method_2_code 59 = .ok (.getstatic 28, 3) := by decide +kernel
theorem dX6_62 : decode method_2_code 62 = .ok (.areturn, 1) := by decide +kernel
theorem pnX6 : plainName "com/example/querant/querant/exchange/OutcomeOfCodePinLaw" = true := by first | (simp [plainName, overriddenIn]; done) | decide +kernel
theorem efX6 (m : MethodId)  : entryFrame m #[(.int (6 : Int32))] 1 = mkF m 0 #[.val (.int (6 : Int32))] [] := by first | (simp [entryFrame, mkF, argsToLocals, Value.category]; done) | rfl
def QX6 (Z : State) (x1 : Addr) (h0 : Heap) (n0 : Nat) (v : Option Value) (h : Heap) (L : List Loc) : Prop := v = some (.ref x1) ∧ Fr n0 L ∧ h = h0
set_option maxRecDepth 65536 in
set_option maxHeartbeats 40000000 in
theorem rmX6 (l : Launch) (Z : State) (a0 : Array Value) (hw : ∀ d ∈ tables_1, d.before a0 Z = true) (ws : List Jvm.Cond) (x1 : Addr) (h0 : Heap) (n0 : Nat) (Z0 : n0 ≤ h0.size) (S1 : Sta Z h0 "com/example/querant/querant/exchange/Exchange$Outcome" "ERROR" "Lcom/example/querant/querant/exchange/Exchange$Outcome;" (.ref x1)) :
    MetFree l (⟨"com/example/querant/querant/exchange/OutcomeOfCodePinLaw", "expected", "(I)Lcom/example/querant/querant/exchange/Exchange$Outcome;"⟩ : MethodName) (head1 (Jvm.Cond.code (⟨"com/example/querant/querant/exchange/OutcomeOfCodePinLaw", "expected", "(I)Lcom/example/querant/querant/exchange/Exchange$Outcome;"⟩ : MethodName) method_2_code 1 (some (.object "com/example/querant/querant/exchange/Exchange$Outcome")) :: ws) ({ frames := 0, cells := 0, slots := 0, locals := 0 } : Room)) (fun a U => a = #[(.int (6 : Int32))] ∧ Z.Warmed39 U.vm ∧ U.heap = h0) (fun _ _ _ _ _ => True) (fun _ U o U' => ∃ v L, o = .returned v ∧ QX6 Z x1 h0 n0 v U'.heap L ∧ FrameEnd U o U' L ({ frames := 0, cells := 0, slots := 0, locals := 0 } : Room).cells ({ frames := 0, cells := 0, slots := 0, locals := 0 } : Room).slots) := by
  refine MetFree.of_bodySF (plainFor_of_name pnX6) hisR ?_
  intro p e s m args below meth c s₁ Bd hml0 hP hK
  obtain ⟨rfl, hZ, hh⟩ := hP
  have hx := Bd.exec
  have hby := Bd.bytes
  have hlk := BodyLoose.notSynchronized Bd
  have hret := Bd.returns
  have hml : c.maxLocals = 1 := hml0
  have hown : s.vm.findClass "com/example/querant/querant/exchange/OutcomeOfCodePinLaw" = some m.cls := findClass_of_methodNamed Bd.named
  have hnm := (name_of_methodNamed Bd.named Bd.method).1
  have X0 : Stand p l e ({ frames := 0, cells := 0, slots := 0, locals := 0 } : Room) s m #[(.int (6 : Int32))] below meth c s₁ [] 0 0 := Stand.of_body Bd
  have e0 : s₁.heap = h0 := by rw [← hh, Bd.state]; rfl
  have N0 := Fr.nil n0
  show OFin p e below (KPost s (QX6 Z x1 h0 n0) ({ frames := 0, cells := 0, slots := 0, locals := 0 } : Room).cells ({ frames := 0, cells := 0, slots := 0, locals := 0 } : Room).slots) _
  rw [efX6 m ]
  refine OFin.of (S' := s₁.setTop (mkF m 59 #[.val (.int (6 : Int32))] [])) (fun t ht => ?_) ?_
  · refine XS.iloadN X0.here hx rfl (hb hby dX6_0) rfl ?_
    show Steps p.tables e below (s₁.setTop (mkF m 1 _ [(.int (6 : Int32))])) _
    refine XS.ifYes X0.here hx rfl (pc0 := 1) (pc' := 8) rfl (hb hby dX6_1) rfl ((if0 _ _).trans (feq (by decide : ¬ ((6 : Int32) = (0 : Int32)))).2) (by decide) (by decide) ?_
    show Steps p.tables e below (s₁.setTop (mkF m 8 _ [])) _
    refine XS.iloadN X0.here hx rfl (hb hby dX6_8) rfl ?_
    show Steps p.tables e below (s₁.setTop (mkF m 9 _ [(.int (6 : Int32))])) _
    refine XS.iconst X0.here hx rfl (hb hby dX6_9) ?_
    show Steps p.tables e below (s₁.setTop (mkF m 10 _ [(.int (1 : Int32)), (.int (6 : Int32))])) _
    refine XS.icmpYes X0.here hx rfl (pc0 := 10) (pc' := 17) rfl (hb hby dX6_10) rfl (feq (by decide : ¬ ((6 : Int32) = (1 : Int32)))).2 (by decide) (by decide) ?_
    show Steps p.tables e below (s₁.setTop (mkF m 17 _ [])) _
    refine XS.iloadN X0.here hx rfl (hb hby dX6_17) rfl ?_
    show Steps p.tables e below (s₁.setTop (mkF m 18 _ [(.int (6 : Int32))])) _
    refine XS.iconst X0.here hx rfl (hb hby dX6_18) ?_
    show Steps p.tables e below (s₁.setTop (mkF m 19 _ [(.int (2 : Int32)), (.int (6 : Int32))])) _
    refine XS.icmpYes X0.here hx rfl (pc0 := 19) (pc' := 26) rfl (hb hby dX6_19) rfl (feq (by decide : ¬ ((6 : Int32) = (2 : Int32)))).2 (by decide) (by decide) ?_
    show Steps p.tables e below (s₁.setTop (mkF m 26 _ [])) _
    refine XS.iloadN X0.here hx rfl (hb hby dX6_26) rfl ?_
    show Steps p.tables e below (s₁.setTop (mkF m 27 _ [(.int (6 : Int32))])) _
    refine XS.iconst X0.here hx rfl (hb hby dX6_27) ?_
    show Steps p.tables e below (s₁.setTop (mkF m 28 _ [(.int (3 : Int32)), (.int (6 : Int32))])) _
    refine XS.icmpYes X0.here hx rfl (pc0 := 28) (pc' := 35) rfl (hb hby dX6_28) rfl (feq (by decide : ¬ ((6 : Int32) = (3 : Int32)))).2 (by decide) (by decide) ?_
    show Steps p.tables e below (s₁.setTop (mkF m 35 _ [])) _
    refine XS.iloadN X0.here hx rfl (hb hby dX6_35) rfl ?_
    show Steps p.tables e below (s₁.setTop (mkF m 36 _ [(.int (6 : Int32))])) _
    refine XS.iconst X0.here hx rfl (hb hby dX6_36) ?_
    show Steps p.tables e below (s₁.setTop (mkF m 37 _ [(.int (4 : Int32)), (.int (6 : Int32))])) _
    refine XS.icmpYes X0.here hx rfl (pc0 := 37) (pc' := 44) rfl (hb hby dX6_37) rfl (feq (by decide : ¬ ((6 : Int32) = (4 : Int32)))).2 (by decide) (by decide) ?_
    show Steps p.tables e below (s₁.setTop (mkF m 44 _ [])) _
    refine XS.iloadN X0.here hx rfl (hb hby dX6_44) rfl ?_
    show Steps p.tables e below (s₁.setTop (mkF m 45 _ [(.int (6 : Int32))])) _
    refine XS.iconst X0.here hx rfl (hb hby dX6_45) ?_
    show Steps p.tables e below (s₁.setTop (mkF m 46 _ [(.int (5 : Int32)), (.int (6 : Int32))])) _
    refine XS.icmpYes X0.here hx rfl (pc0 := 46) (pc' := 53) rfl (hb hby dX6_46) rfl (feq (by decide : ¬ ((6 : Int32) = (5 : Int32)))).2 (by decide) (by decide) ?_
    show Steps p.tables e below (s₁.setTop (mkF m 53 _ [])) _
    refine XS.iloadN X0.here hx rfl (hb hby dX6_53) rfl ?_
    show Steps p.tables e below (s₁.setTop (mkF m 54 _ [(.int (6 : Int32))])) _
    refine XS.bipush X0.here hx rfl (hb hby dX6_54) ?_
    show Steps p.tables e below (s₁.setTop (mkF m 56 _ [(.int (6 : Int32)), (.int (6 : Int32))])) _
    refine XS.icmpNo X0.here hx rfl (hb hby dX6_56) rfl (teq (by decide : (6 : Int32) = (6 : Int32))).2 ?_
    exact ht
  obtain ⟨T1, X1, e1, st1⟩ := getS (host := "") X0 hx hZ hown (hw _ (List.mem_of_getElem? (i := 38) rfl)) Via.refl e0 S1 (g := (mkF m 59 #[.val (.int (6 : Int32))] [])) rfl (hb hby dX6_59)
  refine OFin.of (S' := T1.setTop (mkF m 62 #[.val (.int (6 : Int32))] [(.ref x1)])) (fun t ht => st1 t ht) ?_
  exact OFin.retA X1 hx hlk (t := (.object "com/example/querant/querant/exchange/Exchange$Outcome")) rfl rfl hret (hb hby dX6_62) (by decide) (by decide) (by rw [e1]; exact ⟨rfl, N0, rfl⟩)
theorem dX7_0 : decode method_2_code 0 = .ok (.iload_n 0, 1) := by decide +kernel
theorem dX7_1 : decode method_2_code 1 = .ok (.ifCond .ne 7, 3) := by decide +kernel
theorem dX7_8 : decode method_2_code 8 = .ok (.iload_n 0, 1) := by decide +kernel
theorem dX7_9 : decode method_2_code 9 = .ok (.iconst 1, 1) := by decide +kernel
theorem dX7_10 : decode method_2_code 10 = .ok (.if_icmp .ne 7, 3) := by decide +kernel
theorem dX7_17 : decode method_2_code 17 = .ok (.iload_n 0, 1) := by decide +kernel
theorem dX7_18 : decode method_2_code 18 = .ok (.iconst 2, 1) := by decide +kernel
theorem dX7_19 : decode method_2_code 19 = .ok (.if_icmp .ne 7, 3) := by decide +kernel
theorem dX7_26 : decode method_2_code 26 = .ok (.iload_n 0, 1) := by decide +kernel
theorem dX7_27 : decode method_2_code 27 = .ok (.iconst 3, 1) := by decide +kernel
theorem dX7_28 : decode method_2_code 28 = .ok (.if_icmp .ne 7, 3) := by decide +kernel
theorem dX7_35 : decode method_2_code 35 = .ok (.iload_n 0, 1) := by decide +kernel
theorem dX7_36 : decode method_2_code 36 = .ok (.iconst 4, 1) := by decide +kernel
theorem dX7_37 : decode method_2_code 37 = .ok (.if_icmp .ne 7, 3) := by decide +kernel
theorem dX7_44 : decode method_2_code 44 = .ok (.iload_n 0, 1) := by decide +kernel
theorem dX7_45 : decode method_2_code 45 = .ok (.iconst 5, 1) := by decide +kernel
theorem dX7_46 : decode method_2_code 46 = .ok (.if_icmp .ne 7, 3) := by decide +kernel
theorem dX7_53 : decode method_2_code 53 = .ok (.iload_n 0, 1) := by decide +kernel
theorem dX7_54 : decode method_2_code 54 = .ok (.bipush 6, 2) := by decide +kernel
theorem dX7_56 : decode method_2_code 56 = .ok (.if_icmp .ne 7, 3) := by decide +kernel
theorem dX7_63 : decode method_2_code 63 = .ok (.aconst_null, 1) := by decide +kernel
theorem dX7_64 : decode method_2_code 64 = .ok (.areturn, 1) := by decide +kernel
theorem pnX7 : plainName "com/example/querant/querant/exchange/OutcomeOfCodePinLaw" = true := by first | (simp [plainName, overriddenIn]; done) | decide +kernel
theorem efX7 (m : MethodId) (p0 : Int32) : entryFrame m #[(.int p0)] 1 = mkF m 0 #[.val (.int p0)] [] := by first | (simp [entryFrame, mkF, argsToLocals, Value.category]; done) | rfl
def QX7 (Z : State) (p0 : Int32) (h0 : Heap) (n0 : Nat) (v : Option Value) (h : Heap) (L : List Loc) : Prop := v = some .null ∧ Fr n0 L ∧ h = h0
set_option maxRecDepth 65536 in
set_option maxHeartbeats 40000000 in
theorem rmX7 (l : Launch) (Z : State) (a0 : Array Value) (hw : ∀ d ∈ tables_1, d.before a0 Z = true) (ws : List Jvm.Cond) (p0 : Int32) (h0 : Heap) (n0 : Nat) (Z0 : n0 ≤ h0.size) (hp : ¬ p0 = (0 : Int32) ∧ ¬ p0 = (1 : Int32) ∧ ¬ p0 = (2 : Int32) ∧ ¬ p0 = (3 : Int32) ∧ ¬ p0 = (4 : Int32) ∧ ¬ p0 = (5 : Int32) ∧ ¬ p0 = (6 : Int32)) :
    MetFree l (⟨"com/example/querant/querant/exchange/OutcomeOfCodePinLaw", "expected", "(I)Lcom/example/querant/querant/exchange/Exchange$Outcome;"⟩ : MethodName) (head1 (Jvm.Cond.code (⟨"com/example/querant/querant/exchange/OutcomeOfCodePinLaw", "expected", "(I)Lcom/example/querant/querant/exchange/Exchange$Outcome;"⟩ : MethodName) method_2_code 1 (some (.object "com/example/querant/querant/exchange/Exchange$Outcome")) :: ws) ({ frames := 0, cells := 0, slots := 0, locals := 0 } : Room)) (fun a U => a = #[(.int p0)] ∧ Z.Warmed39 U.vm ∧ U.heap = h0) (fun _ _ _ _ _ => True) (fun _ U o U' => ∃ v L, o = .returned v ∧ QX7 Z p0 h0 n0 v U'.heap L ∧ FrameEnd U o U' L ({ frames := 0, cells := 0, slots := 0, locals := 0 } : Room).cells ({ frames := 0, cells := 0, slots := 0, locals := 0 } : Room).slots) := by
  refine MetFree.of_bodySF (plainFor_of_name pnX7) hisR ?_
  intro p e s m args below meth c s₁ Bd hml0 hP hK
  obtain ⟨rfl, hZ, hh⟩ := hP
  have hx := Bd.exec
  have hby := Bd.bytes
  have hlk := BodyLoose.notSynchronized Bd
  have hret := Bd.returns
  have hml : c.maxLocals = 1 := hml0
  have hown : s.vm.findClass "com/example/querant/querant/exchange/OutcomeOfCodePinLaw" = some m.cls := findClass_of_methodNamed Bd.named
  have hnm := (name_of_methodNamed Bd.named Bd.method).1
  have X0 : Stand p l e ({ frames := 0, cells := 0, slots := 0, locals := 0 } : Room) s m #[(.int p0)] below meth c s₁ [] 0 0 := Stand.of_body Bd
  have e0 : s₁.heap = h0 := by rw [← hh, Bd.state]; rfl
  have N0 := Fr.nil n0
  show OFin p e below (KPost s (QX7 Z p0 h0 n0) ({ frames := 0, cells := 0, slots := 0, locals := 0 } : Room).cells ({ frames := 0, cells := 0, slots := 0, locals := 0 } : Room).slots) _
  rw [efX7 m p0]
  refine OFin.of (S' := s₁.setTop (mkF m 64 #[.val (.int p0)] [.null])) (fun t ht => ?_) ?_
  · refine XS.iloadN X0.here hx rfl (hb hby dX7_0) rfl ?_
    show Steps p.tables e below (s₁.setTop (mkF m 1 _ [(.int p0)])) _
    refine XS.ifYes X0.here hx rfl (pc0 := 1) (pc' := 8) rfl (hb hby dX7_1) rfl ((if0 _ _).trans (feq (hp.1 : ¬ (p0 = (0 : Int32)))).2) (by decide) (by decide) ?_
    show Steps p.tables e below (s₁.setTop (mkF m 8 _ [])) _
    refine XS.iloadN X0.here hx rfl (hb hby dX7_8) rfl ?_
    show Steps p.tables e below (s₁.setTop (mkF m 9 _ [(.int p0)])) _
    refine XS.iconst X0.here hx rfl (hb hby dX7_9) ?_
    show Steps p.tables e below (s₁.setTop (mkF m 10 _ [(.int (1 : Int32)), (.int p0)])) _
    refine XS.icmpYes X0.here hx rfl (pc0 := 10) (pc' := 17) rfl (hb hby dX7_10) rfl (feq (hp.2.1 : ¬ (p0 = (1 : Int32)))).2 (by decide) (by decide) ?_
    show Steps p.tables e below (s₁.setTop (mkF m 17 _ [])) _
    refine XS.iloadN X0.here hx rfl (hb hby dX7_17) rfl ?_
    show Steps p.tables e below (s₁.setTop (mkF m 18 _ [(.int p0)])) _
    refine XS.iconst X0.here hx rfl (hb hby dX7_18) ?_
    show Steps p.tables e below (s₁.setTop (mkF m 19 _ [(.int (2 : Int32)), (.int p0)])) _
    refine XS.icmpYes X0.here hx rfl (pc0 := 19) (pc' := 26) rfl (hb hby dX7_19) rfl (feq (hp.2.2.1 : ¬ (p0 = (2 : Int32)))).2 (by decide) (by decide) ?_
    show Steps p.tables e below (s₁.setTop (mkF m 26 _ [])) _
    refine XS.iloadN X0.here hx rfl (hb hby dX7_26) rfl ?_
    show Steps p.tables e below (s₁.setTop (mkF m 27 _ [(.int p0)])) _
    refine XS.iconst X0.here hx rfl (hb hby dX7_27) ?_
    show Steps p.tables e below (s₁.setTop (mkF m 28 _ [(.int (3 : Int32)), (.int p0)])) _
    refine XS.icmpYes X0.here hx rfl (pc0 := 28) (pc' := 35) rfl (hb hby dX7_28) rfl (feq (hp.2.2.2.1 : ¬ (p0 = (3 : Int32)))).2 (by decide) (by decide) ?_
    show Steps p.tables e below (s₁.setTop (mkF m 35 _ [])) _
    refine XS.iloadN X0.here hx rfl (hb hby dX7_35) rfl ?_
    show Steps p.tables e below (s₁.setTop (mkF m 36 _ [(.int p0)])) _
    refine XS.iconst X0.here hx rfl (hb hby dX7_36) ?_
    show Steps p.tables e below (s₁.setTop (mkF m 37 _ [(.int (4 : Int32)), (.int p0)])) _
    refine XS.icmpYes X0.here hx rfl (pc0 := 37) (pc' := 44) rfl (hb hby dX7_37) rfl (feq (hp.2.2.2.2.1 : ¬ (p0 = (4 : Int32)))).2 (by decide) (by decide) ?_
    show Steps p.tables e below (s₁.setTop (mkF m 44 _ [])) _
    refine XS.iloadN X0.here hx rfl (hb hby dX7_44) rfl ?_
    show Steps p.tables e below (s₁.setTop (mkF m 45 _ [(.int p0)])) _
    refine XS.iconst X0.here hx rfl (hb hby dX7_45) ?_
    show Steps p.tables e below (s₁.setTop (mkF m 46 _ [(.int (5 : Int32)), (.int p0)])) _
    refine XS.icmpYes X0.here hx rfl (pc0 := 46) (pc' := 53) rfl (hb hby dX7_46) rfl (feq (hp.2.2.2.2.2.1 : ¬ (p0 = (5 : Int32)))).2 (by decide) (by decide) ?_
    show Steps p.tables e below (s₁.setTop (mkF m 53 _ [])) _
    refine XS.iloadN X0.here hx rfl (hb hby dX7_53) rfl ?_
    show Steps p.tables e below (s₁.setTop (mkF m 54 _ [(.int p0)])) _
    refine XS.bipush X0.here hx rfl (hb hby dX7_54) ?_
    show Steps p.tables e below (s₁.setTop (mkF m 56 _ [(.int (6 : Int32)), (.int p0)])) _
    refine XS.icmpYes X0.here hx rfl (pc0 := 56) (pc' := 63) rfl (hb hby dX7_56) rfl (feq (hp.2.2.2.2.2.2 : ¬ (p0 = (6 : Int32)))).2 (by decide) (by decide) ?_
    show Steps p.tables e below (s₁.setTop (mkF m 63 _ [])) _
    refine XS.aconstNull X0.here hx rfl (hb hby dX7_63) ?_
    exact ht
  exact OFin.retA X0 hx hlk (t := (.object "com/example/querant/querant/exchange/Exchange$Outcome")) rfl rfl hret (hb hby dX7_64) (by decide) (by decide) (by rw [e0]; exact ⟨rfl, N0, rfl⟩)
theorem pn0 : plainName "com/example/querant/querant/exchange/OutcomeOfCodePinLaw" = true := by first | (simp [plainName, overriddenIn]; done) | decide +kernel
theorem ef0 (m : MethodId) (p0 : Int32) (p1 : Int32) : entryFrame m #[(.int p0), (.int p1)] maxLocals = mkF m 0 #[.val (.int p0), .val (.int p1), .unset, .unset, .unset] [] := by first | (simp [entryFrame, mkF, argsToLocals, Value.category, maxLocals]; done) | rfl
def Q0 (Z : State) (p0 : Int32) (p1 : Int32) (av : Addr) (k : ClassId) (x0 : Addr) (x1 : Addr) (x2 : Addr) (x3 : Addr) (x4 : Addr) (x5 : Addr) (x6 : Addr) (h0 : Heap) (n0 : Nat) (v : Option Value) (h : Heap) (L : List Loc) : Prop := v = some (.int (1 : Int32)) ∧ Fr n0 L
set_option maxRecDepth 65536 in
set_option maxHeartbeats 40000000 in
theorem rm0 (l : Launch) (Z : State) (a0 : Array Value) (hw : ∀ d ∈ tables_1, d.before a0 Z = true) (ws : List Jvm.Cond) (p0 : Int32) (p1 : Int32) (av : Addr) (k : ClassId) (x0 : Addr) (x1 : Addr) (x2 : Addr) (x3 : Addr) (x4 : Addr) (x5 : Addr) (x6 : Addr) (h0 : Heap) (n0 : Nat) (Z0 : n0 ≤ h0.size) (Sv : Sta Z h0 "com/example/querant/querant/exchange/Exchange$Outcome" "$VALUES" "[Lcom/example/querant/querant/exchange/Exchange$Outcome;" (.ref av)) (Ev : Exa Z h0 av "[Lcom/example/querant/querant/exchange/Exchange$Outcome;") (V1 : Arv Z h0 av k (.object "com/example/querant/querant/exchange/Exchange$Outcome") (7 : Int32) [(.ref x0), (.ref x1), (.ref x2), (.ref x3), (.ref x4), (.ref x5), (.ref x6)] .null) (O0 : Fld Z h0 x0 "com/example/querant/querant/exchange/Exchange$Outcome" "code" "I" (.int (0 : Int32))) (O1 : Fld Z h0 x1 "com/example/querant/querant/exchange/Exchange$Outcome" "code" "I" (.int (1 : Int32))) (O2 : Fld Z h0 x2 "com/example/querant/querant/exchange/Exchange$Outcome" "code" "I" (.int (2 : Int32))) (O3 : Fld Z h0 x3 "com/example/querant/querant/exchange/Exchange$Outcome" "code" "I" (.int (3 : Int32))) (O4 : Fld Z h0 x4 "com/example/querant/querant/exchange/Exchange$Outcome" "code" "I" (.int (4 : Int32))) (O5 : Fld Z h0 x5 "com/example/querant/querant/exchange/Exchange$Outcome" "code" "I" (.int (5 : Int32))) (O6 : Fld Z h0 x6 "com/example/querant/querant/exchange/Exchange$Outcome" "code" "I" (.int (6 : Int32))) (S0 : Sta Z h0 "com/example/querant/querant/exchange/Exchange$Outcome" "NO_QUERY" "Lcom/example/querant/querant/exchange/Exchange$Outcome;" (.ref x0)) (S1 : Sta Z h0 "com/example/querant/querant/exchange/Exchange$Outcome" "EXACT" "Lcom/example/querant/querant/exchange/Exchange$Outcome;" (.ref x1)) (S2 : Sta Z h0 "com/example/querant/querant/exchange/Exchange$Outcome" "CANDIDATES" "Lcom/example/querant/querant/exchange/Exchange$Outcome;" (.ref x2)) (S3 : Sta Z h0 "com/example/querant/querant/exchange/Exchange$Outcome" "TOO_MANY" "Lcom/example/querant/querant/exchange/Exchange$Outcome;" (.ref x3)) (S4 : Sta Z h0 "com/example/querant/querant/exchange/Exchange$Outcome" "NOT_FOUND" "Lcom/example/querant/querant/exchange/Exchange$Outcome;" (.ref x4)) (S5 : Sta Z h0 "com/example/querant/querant/exchange/Exchange$Outcome" "PROTECTED" "Lcom/example/querant/querant/exchange/Exchange$Outcome;" (.ref x5)) (S6 : Sta Z h0 "com/example/querant/querant/exchange/Exchange$Outcome" "ERROR" "Lcom/example/querant/querant/exchange/Exchange$Outcome;" (.ref x6)) :
    MetFree l x (head1 (Jvm.Cond.code x code maxLocals ret :: ws) room_1) (fun a U => a = #[(.int p0), (.int p1)] ∧ Z.Warmed39 U.vm ∧ U.heap = h0) (fun _ _ _ _ _ => True) (fun _ U o U' => ∃ v L, o = .returned v ∧ Q0 Z p0 p1 av k x0 x1 x2 x3 x4 x5 x6 h0 n0 v U'.heap L ∧ FrameEnd U o U' L room_1.cells room_1.slots) := by
  refine MetFree.of_bodySF (plainFor_of_name pn0) hisR ?_
  intro p e s m args below meth c s₁ Bd hml0 hP hK
  obtain ⟨rfl, hZ, hh⟩ := hP
  have hx := Bd.exec
  have hby := Bd.bytes
  have hlk := BodyLoose.notSynchronized Bd
  have hret := Bd.returns
  have hml : c.maxLocals = 5 := hml0
  have hown : s.vm.findClass "com/example/querant/querant/exchange/OutcomeOfCodePinLaw" = some m.cls := findClass_of_methodNamed Bd.named
  have hnm := (name_of_methodNamed Bd.named Bd.method).1
  have X0 : Stand p l e room_1 s m #[(.int p0), (.int p1)] below meth c s₁ [] 0 0 := Stand.of_body Bd
  have e0 : s₁.heap = h0 := by rw [← hh, Bd.state]; rfl
  have N0 := Fr.nil n0
  show OFin p e below (KPost s (Q0 Z p0 p1 av k x0 x1 x2 x3 x4 x5 x6 h0 n0) room_1.cells room_1.slots) _
  rw [ef0 m p0 p1]
  refine OFin.of (S' := s₁.setTop (mkF m 3 #[.val (.int p0), .val (.int p1), .unset, .unset, .unset] [(.int (p1 &&& (1 : Int32)))])) (fun t ht => ?_) ?_
  · refine XS.iloadN X0.here hx rfl (hb hby at_0) rfl ?_
    show Steps p.tables e below (s₁.setTop (mkF m 1 _ [(.int p1)])) _
    refine XS.iconst X0.here hx rfl (hb hby at_1) ?_
    show Steps p.tables e below (s₁.setTop (mkF m 2 _ [(.int (1 : Int32)), (.int p1)])) _
    refine XS.iand X0.here hx rfl (hb hby at_2) rfl ?_
    exact ht
  rcases (own_and1 _ : (p1 &&& (1 : Int32)) = (0 : Int32) ∨ (p1 &&& (1 : Int32)) = (1 : Int32)) with hq1 | hq1
  · rw [hq1]
    refine OFin.of (S' := s₁.setTop (mkF m 26 #[.val (.int p0), .val (.int p1), .val (.int (0 : Int32)), .unset, .unset] [(.int ((p0 &&& (15 : Int32)) - (4 : Int32)))])) (fun t ht => ?_) ?_
    · refine XS.ifYes X0.here hx rfl (pc0 := 3) (pc' := 10) rfl (hb hby at_3) rfl ((if0 _ _).trans (teq (by decide : (0 : Int32) = (0 : Int32))).1) (by decide) (by decide) ?_
      show Steps p.tables e below (s₁.setTop (mkF m 10 _ [])) _
      refine XS.iconst X0.here hx rfl (hb hby at_10) ?_
      show Steps p.tables e below (s₁.setTop (mkF m 11 _ [(.int (0 : Int32))])) _
      refine XS.istoreN X0.here hx rfl (hb hby at_11) rfl (l' := #[.val (.int p0), .val (.int p1), .val (.int (0 : Int32)), .unset, .unset]) rfl ?_
      show Steps p.tables e below (s₁.setTop (mkF m 12 #[.val (.int p0), .val (.int p1), .val (.int (0 : Int32)), .unset, .unset] [])) _
      refine XS.iloadN X0.here hx rfl (hb hby at_12) rfl ?_
      show Steps p.tables e below (s₁.setTop (mkF m 13 _ [(.int (0 : Int32))])) _
      refine XS.ifYes X0.here hx rfl (pc0 := 13) (pc' := 20) rfl (hb hby at_13) rfl ((if0 _ _).trans (teq (by decide : (0 : Int32) = (0 : Int32))).1) (by decide) (by decide) ?_
      show Steps p.tables e below (s₁.setTop (mkF m 20 _ [])) _
      refine XS.iloadN X0.here hx rfl (hb hby at_20) rfl ?_
      show Steps p.tables e below (s₁.setTop (mkF m 21 _ [(.int p0)])) _
      refine XS.bipush X0.here hx rfl (hb hby at_21) ?_
      show Steps p.tables e below (s₁.setTop (mkF m 23 _ [(.int (15 : Int32)), (.int p0)])) _
      refine XS.iand X0.here hx rfl (hb hby at_23) rfl ?_
      show Steps p.tables e below (s₁.setTop (mkF m 24 _ [(.int (p0 &&& (15 : Int32)))])) _
      refine XS.iconst X0.here hx rfl (hb hby at_24) ?_
      show Steps p.tables e below (s₁.setTop (mkF m 25 _ [(.int (4 : Int32)), (.int (p0 &&& (15 : Int32)))])) _
      refine XS.isub X0.here hx rfl (hb hby at_25) rfl ?_
      exact ht
    rcases own_seven ((p0 &&& (15 : Int32)) - (4 : Int32)) with hq2 | hq2 | hq2 | hq2 | hq2 | hq2 | hq2 | hq2
    · rw [hq2]
      refine OFin.of (S' := s₁.setTop (mkF m 28 #[.val (.int p0), .val (.int p1), .val (.int (0 : Int32)), .val (.int (0 : Int32)), .unset] [(.int (0 : Int32))])) (fun t ht => ?_) ?_
      · refine XS.istoreN X0.here hx rfl (hb hby at_26) rfl (l' := #[.val (.int p0), .val (.int p1), .val (.int (0 : Int32)), .val (.int (0 : Int32)), .unset]) rfl ?_
        show Steps p.tables e below (s₁.setTop (mkF m 27 #[.val (.int p0), .val (.int p1), .val (.int (0 : Int32)), .val (.int (0 : Int32)), .unset] [])) _
        refine XS.iloadN X0.here hx rfl (hb hby at_27) rfl ?_
        exact ht
      obtain ⟨_, _, ⟨T3, L3, k3, n3⟩, -, X3, ⟨Lc3, hQ3, l3, y3, z3⟩, st3⟩ := Jvm.LawKit.callS X0 hx (y := (⟨"com/example/querant/querant/exchange/Exchange$Outcome", "ofCode", "(I)Lcom/example/querant/querant/exchange/Exchange$Outcome;"⟩ : MethodName)) hown (mvT hZ (hw _ (List.mem_of_getElem? (i := 0) rfl))) (mvT hZ (hw _ (List.mem_of_getElem? (i := 1) rfl))) (mvT hZ (hw _ (List.mem_of_getElem? (i := 2) rfl))) (mvT hZ (hw _ (List.mem_of_getElem? (i := 3) rfl))) (by decide) (backOf (W := 0) (rmC0 l Z _ hw [] av k x0 x1 x2 x3 x4 x5 x6 h0 n0 Z0 Sv Ev V1 O0 O1 O2 O3 O4 O5 O6) hZ (hw _ (List.mem_of_getElem? (i := 3) rfl)) (hw _ (List.mem_of_getElem? (i := 2) rfl)) (by decide) (by decide)) (g := (mkF m 28 #[.val (.int p0), .val (.int p1), .val (.int (0 : Int32)), .val (.int (0 : Int32)), .unset] [(.int (0 : Int32))])) rfl (by rw [hml]; rfl) (argsL := [(.int (0 : Int32))]) (rest := []) (lenOf pd_1 rfl) rfl (by show 2 * 0 + _ ≤ _; exact Nat.le_of_eq rfl) (hb hby at_28) (fun _ _ => ⟨rfl, e0, (by decide : 0 + 1 ≤ _), (by decide : 0 + 7 ≤ _)⟩)
      dsimp only [Pt.U, Pt.locs, Pt.cells, Pt.slots] at X3 l3 y3 z3 st3 hQ3
      subst l3 y3 z3
      obtain ⟨rfl, Nq3, Kq3⟩ := hQ3
      have N4 := Fr.app N0 Nq3
      have f5 := (own_staKeep Sv Kq3 own_sn0)
      have f6 := (Ev.keep Kq3)
      have f7 := (V1.keep Kq3 nin0)
      have f8 := (O0.keep Kq3 nin0)
      have f9 := (O1.keep Kq3 nin0)
      have f10 := (O2.keep Kq3 nin0)
      have f11 := (O3.keep Kq3 nin0)
      have f12 := (O4.keep Kq3 nin0)
      have f13 := (O5.keep Kq3 nin0)
      have f14 := (O6.keep Kq3 nin0)
      have f15 := (own_staKeep S0 Kq3 own_sn0)
      have f16 := (own_staKeep S1 Kq3 own_sn0)
      have f17 := (own_staKeep S2 Kq3 own_sn0)
      have f18 := (own_staKeep S3 Kq3 own_sn0)
      have f19 := (own_staKeep S4 Kq3 own_sn0)
      have f20 := (own_staKeep S5 Kq3 own_sn0)
      have f21 := (own_staKeep S6 Kq3 own_sn0)
      have Z22 : n0 ≤ T3.heap.size := (Nat.le_trans Z0 Kq3.1)
      refine OFin.of (S' := T3.setTop (mkF m 31 #[.val (.int p0), .val (.int p1), .val (.int (0 : Int32)), .val (.int (0 : Int32)), .unset] [(.ref x0)])) (fun t ht => st3 t ht) ?_
      refine OFin.of (S' := T3.setTop (mkF m 36 #[.val (.int p0), .val (.int p1), .val (.int (0 : Int32)), .val (.int (0 : Int32)), .val (.ref x0)] [(.int (0 : Int32)), (.ref x0)])) (fun t ht => ?_) ?_
      · refine XS.astore X3.here hx rfl (hb hby at_31) rfl rfl (l' := #[.val (.int p0), .val (.int p1), .val (.int (0 : Int32)), .val (.int (0 : Int32)), .val (.ref x0)]) rfl ?_
        show Steps p.tables e below (T3.setTop (mkF m 33 #[.val (.int p0), .val (.int p1), .val (.int (0 : Int32)), .val (.int (0 : Int32)), .val (.ref x0)] [])) _
        refine XS.aload X3.here hx rfl (hb hby at_33) rfl rfl ?_
        show Steps p.tables e below (T3.setTop (mkF m 35 _ [(.ref x0)])) _
        refine XS.iloadN X3.here hx rfl (hb hby at_35) rfl ?_
        exact ht
      obtain ⟨_, _, ⟨T23, L23, k23, n23⟩, -, X23, ⟨Lc23, hQ23, l23, y23, z23⟩, st23⟩ := Jvm.LawKit.callS X3 hx (y := (⟨"com/example/querant/querant/exchange/OutcomeOfCodePinLaw", "expected", "(I)Lcom/example/querant/querant/exchange/Exchange$Outcome;"⟩ : MethodName)) hown (mvT hZ (hw _ (List.mem_of_getElem? (i := 28) rfl))) (mvT hZ (hw _ (List.mem_of_getElem? (i := 29) rfl))) (mvT hZ (hw _ (List.mem_of_getElem? (i := 30) rfl))) (mvT hZ (hw _ (List.mem_of_getElem? (i := 31) rfl))) (by decide) (backOf (W := 1) (rmX0 l Z _ hw [] x0 T3.heap n0 Z22 f15) hZ (hw _ (List.mem_of_getElem? (i := 31) rfl)) (hw _ (List.mem_of_getElem? (i := 30) rfl)) (by decide) (by decide)) (g := (mkF m 36 #[.val (.int p0), .val (.int p1), .val (.int (0 : Int32)), .val (.int (0 : Int32)), .val (.ref x0)] [(.int (0 : Int32)), (.ref x0)])) rfl (by rw [hml]; rfl) (argsL := [(.int (0 : Int32))]) (rest := [(.ref x0)]) (lenOf pd_1 rfl) rfl (by show 2 * 0 + _ ≤ _; exact Nat.le_of_eq rfl) (hb hby at_36) (fun _ _ => ⟨rfl, (rfl : T3.heap = T3.heap), (by decide : 1 + 0 ≤ _), (by decide : 7 + 0 ≤ _)⟩)
      dsimp only [Pt.U, Pt.locs, Pt.cells, Pt.slots] at X23 l23 y23 z23 st23 hQ23
      subst l23 y23 z23
      obtain ⟨rfl, Nq23, hs23⟩ := hQ23
      have N24 := Fr.app N4 Nq23
      refine OFin.of (S' := T23.setTop (mkF m 39 #[.val (.int p0), .val (.int p1), .val (.int (0 : Int32)), .val (.int (0 : Int32)), .val (.ref x0)] [(.ref x0), (.ref x0)])) (fun t ht => st23 t ht) ?_
      refine OFin.of (S' := T23.setTop (mkF m 47 #[.val (.int p0), .val (.int p1), .val (.int (0 : Int32)), .val (.int (0 : Int32)), .val (.ref x0)] [(.int (1 : Int32))])) (fun t ht => ?_) ?_
      · refine acmp X23 hx rfl (cd := .ne) (x := (.ref x0)) (y := (.ref x0)) rfl rfl (pc0 := 39) (pc' := 42) (same := true) rfl (hb hby at_39) rfl (decide_eq_true rfl) (by decide) (by decide) ?_
        show Steps p.tables e below (T23.setTop (mkF m 42 _ [])) _
        refine XS.iconst X23.here hx rfl (hb hby at_42) ?_
        show Steps p.tables e below (T23.setTop (mkF m 43 _ [(.int (1 : Int32))])) _
        refine XS.goto X23.here hx rfl (pc0 := 43) (pc' := 47) rfl (hb hby at_43) (by decide) (by decide) ?_
        exact ht
      exact OFin.retB X23 hx hlk (t := .boolean) (by simp) hret (hb hby at_47) (by decide) (by decide) (by rw [hs23]; exact ⟨rfl, N24⟩)
    · rw [hq2]
      refine OFin.of (S' := s₁.setTop (mkF m 28 #[.val (.int p0), .val (.int p1), .val (.int (0 : Int32)), .val (.int (1 : Int32)), .unset] [(.int (1 : Int32))])) (fun t ht => ?_) ?_
      · refine XS.istoreN X0.here hx rfl (hb hby at_26) rfl (l' := #[.val (.int p0), .val (.int p1), .val (.int (0 : Int32)), .val (.int (1 : Int32)), .unset]) rfl ?_
        show Steps p.tables e below (s₁.setTop (mkF m 27 #[.val (.int p0), .val (.int p1), .val (.int (0 : Int32)), .val (.int (1 : Int32)), .unset] [])) _
        refine XS.iloadN X0.here hx rfl (hb hby at_27) rfl ?_
        exact ht
      obtain ⟨_, _, ⟨T25, L25, k25, n25⟩, -, X25, ⟨Lc25, hQ25, l25, y25, z25⟩, st25⟩ := Jvm.LawKit.callS X0 hx (y := (⟨"com/example/querant/querant/exchange/Exchange$Outcome", "ofCode", "(I)Lcom/example/querant/querant/exchange/Exchange$Outcome;"⟩ : MethodName)) hown (mvT hZ (hw _ (List.mem_of_getElem? (i := 0) rfl))) (mvT hZ (hw _ (List.mem_of_getElem? (i := 1) rfl))) (mvT hZ (hw _ (List.mem_of_getElem? (i := 2) rfl))) (mvT hZ (hw _ (List.mem_of_getElem? (i := 3) rfl))) (by decide) (backOf (W := 0) (rmC1 l Z _ hw [] av k x0 x1 x2 x3 x4 x5 x6 h0 n0 Z0 Sv Ev V1 O0 O1 O2 O3 O4 O5 O6) hZ (hw _ (List.mem_of_getElem? (i := 3) rfl)) (hw _ (List.mem_of_getElem? (i := 2) rfl)) (by decide) (by decide)) (g := (mkF m 28 #[.val (.int p0), .val (.int p1), .val (.int (0 : Int32)), .val (.int (1 : Int32)), .unset] [(.int (1 : Int32))])) rfl (by rw [hml]; rfl) (argsL := [(.int (1 : Int32))]) (rest := []) (lenOf pd_1 rfl) rfl (by show 2 * 0 + _ ≤ _; exact Nat.le_of_eq rfl) (hb hby at_28) (fun _ _ => ⟨rfl, e0, (by decide : 0 + 1 ≤ _), (by decide : 0 + 7 ≤ _)⟩)
      dsimp only [Pt.U, Pt.locs, Pt.cells, Pt.slots] at X25 l25 y25 z25 st25 hQ25
      subst l25 y25 z25
      obtain ⟨rfl, Nq25, Kq25⟩ := hQ25
      have N26 := Fr.app N0 Nq25
      have f27 := (own_staKeep Sv Kq25 own_sn0)
      have f28 := (Ev.keep Kq25)
      have f29 := (V1.keep Kq25 nin0)
      have f30 := (O0.keep Kq25 nin0)
      have f31 := (O1.keep Kq25 nin0)
      have f32 := (O2.keep Kq25 nin0)
      have f33 := (O3.keep Kq25 nin0)
      have f34 := (O4.keep Kq25 nin0)
      have f35 := (O5.keep Kq25 nin0)
      have f36 := (O6.keep Kq25 nin0)
      have f37 := (own_staKeep S0 Kq25 own_sn0)
      have f38 := (own_staKeep S1 Kq25 own_sn0)
      have f39 := (own_staKeep S2 Kq25 own_sn0)
      have f40 := (own_staKeep S3 Kq25 own_sn0)
      have f41 := (own_staKeep S4 Kq25 own_sn0)
      have f42 := (own_staKeep S5 Kq25 own_sn0)
      have f43 := (own_staKeep S6 Kq25 own_sn0)
      have Z44 : n0 ≤ T25.heap.size := (Nat.le_trans Z0 Kq25.1)
      refine OFin.of (S' := T25.setTop (mkF m 31 #[.val (.int p0), .val (.int p1), .val (.int (0 : Int32)), .val (.int (1 : Int32)), .unset] [(.ref x1)])) (fun t ht => st25 t ht) ?_
      refine OFin.of (S' := T25.setTop (mkF m 36 #[.val (.int p0), .val (.int p1), .val (.int (0 : Int32)), .val (.int (1 : Int32)), .val (.ref x1)] [(.int (1 : Int32)), (.ref x1)])) (fun t ht => ?_) ?_
      · refine XS.astore X25.here hx rfl (hb hby at_31) rfl rfl (l' := #[.val (.int p0), .val (.int p1), .val (.int (0 : Int32)), .val (.int (1 : Int32)), .val (.ref x1)]) rfl ?_
        show Steps p.tables e below (T25.setTop (mkF m 33 #[.val (.int p0), .val (.int p1), .val (.int (0 : Int32)), .val (.int (1 : Int32)), .val (.ref x1)] [])) _
        refine XS.aload X25.here hx rfl (hb hby at_33) rfl rfl ?_
        show Steps p.tables e below (T25.setTop (mkF m 35 _ [(.ref x1)])) _
        refine XS.iloadN X25.here hx rfl (hb hby at_35) rfl ?_
        exact ht
      obtain ⟨_, _, ⟨T45, L45, k45, n45⟩, -, X45, ⟨Lc45, hQ45, l45, y45, z45⟩, st45⟩ := Jvm.LawKit.callS X25 hx (y := (⟨"com/example/querant/querant/exchange/OutcomeOfCodePinLaw", "expected", "(I)Lcom/example/querant/querant/exchange/Exchange$Outcome;"⟩ : MethodName)) hown (mvT hZ (hw _ (List.mem_of_getElem? (i := 28) rfl))) (mvT hZ (hw _ (List.mem_of_getElem? (i := 29) rfl))) (mvT hZ (hw _ (List.mem_of_getElem? (i := 30) rfl))) (mvT hZ (hw _ (List.mem_of_getElem? (i := 31) rfl))) (by decide) (backOf (W := 1) (rmX1 l Z _ hw [] x1 T25.heap n0 Z44 f38) hZ (hw _ (List.mem_of_getElem? (i := 31) rfl)) (hw _ (List.mem_of_getElem? (i := 30) rfl)) (by decide) (by decide)) (g := (mkF m 36 #[.val (.int p0), .val (.int p1), .val (.int (0 : Int32)), .val (.int (1 : Int32)), .val (.ref x1)] [(.int (1 : Int32)), (.ref x1)])) rfl (by rw [hml]; rfl) (argsL := [(.int (1 : Int32))]) (rest := [(.ref x1)]) (lenOf pd_1 rfl) rfl (by show 2 * 0 + _ ≤ _; exact Nat.le_of_eq rfl) (hb hby at_36) (fun _ _ => ⟨rfl, (rfl : T25.heap = T25.heap), (by decide : 1 + 0 ≤ _), (by decide : 7 + 0 ≤ _)⟩)
      dsimp only [Pt.U, Pt.locs, Pt.cells, Pt.slots] at X45 l45 y45 z45 st45 hQ45
      subst l45 y45 z45
      obtain ⟨rfl, Nq45, hs45⟩ := hQ45
      have N46 := Fr.app N26 Nq45
      refine OFin.of (S' := T45.setTop (mkF m 39 #[.val (.int p0), .val (.int p1), .val (.int (0 : Int32)), .val (.int (1 : Int32)), .val (.ref x1)] [(.ref x1), (.ref x1)])) (fun t ht => st45 t ht) ?_
      refine OFin.of (S' := T45.setTop (mkF m 47 #[.val (.int p0), .val (.int p1), .val (.int (0 : Int32)), .val (.int (1 : Int32)), .val (.ref x1)] [(.int (1 : Int32))])) (fun t ht => ?_) ?_
      · refine acmp X45 hx rfl (cd := .ne) (x := (.ref x1)) (y := (.ref x1)) rfl rfl (pc0 := 39) (pc' := 42) (same := true) rfl (hb hby at_39) rfl (decide_eq_true rfl) (by decide) (by decide) ?_
        show Steps p.tables e below (T45.setTop (mkF m 42 _ [])) _
        refine XS.iconst X45.here hx rfl (hb hby at_42) ?_
        show Steps p.tables e below (T45.setTop (mkF m 43 _ [(.int (1 : Int32))])) _
        refine XS.goto X45.here hx rfl (pc0 := 43) (pc' := 47) rfl (hb hby at_43) (by decide) (by decide) ?_
        exact ht
      exact OFin.retB X45 hx hlk (t := .boolean) (by simp) hret (hb hby at_47) (by decide) (by decide) (by rw [hs45]; exact ⟨rfl, N46⟩)
    · rw [hq2]
      refine OFin.of (S' := s₁.setTop (mkF m 28 #[.val (.int p0), .val (.int p1), .val (.int (0 : Int32)), .val (.int (2 : Int32)), .unset] [(.int (2 : Int32))])) (fun t ht => ?_) ?_
      · refine XS.istoreN X0.here hx rfl (hb hby at_26) rfl (l' := #[.val (.int p0), .val (.int p1), .val (.int (0 : Int32)), .val (.int (2 : Int32)), .unset]) rfl ?_
        show Steps p.tables e below (s₁.setTop (mkF m 27 #[.val (.int p0), .val (.int p1), .val (.int (0 : Int32)), .val (.int (2 : Int32)), .unset] [])) _
        refine XS.iloadN X0.here hx rfl (hb hby at_27) rfl ?_
        exact ht
      obtain ⟨_, _, ⟨T47, L47, k47, n47⟩, -, X47, ⟨Lc47, hQ47, l47, y47, z47⟩, st47⟩ := Jvm.LawKit.callS X0 hx (y := (⟨"com/example/querant/querant/exchange/Exchange$Outcome", "ofCode", "(I)Lcom/example/querant/querant/exchange/Exchange$Outcome;"⟩ : MethodName)) hown (mvT hZ (hw _ (List.mem_of_getElem? (i := 0) rfl))) (mvT hZ (hw _ (List.mem_of_getElem? (i := 1) rfl))) (mvT hZ (hw _ (List.mem_of_getElem? (i := 2) rfl))) (mvT hZ (hw _ (List.mem_of_getElem? (i := 3) rfl))) (by decide) (backOf (W := 0) (rmC2 l Z _ hw [] av k x0 x1 x2 x3 x4 x5 x6 h0 n0 Z0 Sv Ev V1 O0 O1 O2 O3 O4 O5 O6) hZ (hw _ (List.mem_of_getElem? (i := 3) rfl)) (hw _ (List.mem_of_getElem? (i := 2) rfl)) (by decide) (by decide)) (g := (mkF m 28 #[.val (.int p0), .val (.int p1), .val (.int (0 : Int32)), .val (.int (2 : Int32)), .unset] [(.int (2 : Int32))])) rfl (by rw [hml]; rfl) (argsL := [(.int (2 : Int32))]) (rest := []) (lenOf pd_1 rfl) rfl (by show 2 * 0 + _ ≤ _; exact Nat.le_of_eq rfl) (hb hby at_28) (fun _ _ => ⟨rfl, e0, (by decide : 0 + 1 ≤ _), (by decide : 0 + 7 ≤ _)⟩)
      dsimp only [Pt.U, Pt.locs, Pt.cells, Pt.slots] at X47 l47 y47 z47 st47 hQ47
      subst l47 y47 z47
      obtain ⟨rfl, Nq47, Kq47⟩ := hQ47
      have N48 := Fr.app N0 Nq47
      have f49 := (own_staKeep Sv Kq47 own_sn0)
      have f50 := (Ev.keep Kq47)
      have f51 := (V1.keep Kq47 nin0)
      have f52 := (O0.keep Kq47 nin0)
      have f53 := (O1.keep Kq47 nin0)
      have f54 := (O2.keep Kq47 nin0)
      have f55 := (O3.keep Kq47 nin0)
      have f56 := (O4.keep Kq47 nin0)
      have f57 := (O5.keep Kq47 nin0)
      have f58 := (O6.keep Kq47 nin0)
      have f59 := (own_staKeep S0 Kq47 own_sn0)
      have f60 := (own_staKeep S1 Kq47 own_sn0)
      have f61 := (own_staKeep S2 Kq47 own_sn0)
      have f62 := (own_staKeep S3 Kq47 own_sn0)
      have f63 := (own_staKeep S4 Kq47 own_sn0)
      have f64 := (own_staKeep S5 Kq47 own_sn0)
      have f65 := (own_staKeep S6 Kq47 own_sn0)
      have Z66 : n0 ≤ T47.heap.size := (Nat.le_trans Z0 Kq47.1)
      refine OFin.of (S' := T47.setTop (mkF m 31 #[.val (.int p0), .val (.int p1), .val (.int (0 : Int32)), .val (.int (2 : Int32)), .unset] [(.ref x2)])) (fun t ht => st47 t ht) ?_
      refine OFin.of (S' := T47.setTop (mkF m 36 #[.val (.int p0), .val (.int p1), .val (.int (0 : Int32)), .val (.int (2 : Int32)), .val (.ref x2)] [(.int (2 : Int32)), (.ref x2)])) (fun t ht => ?_) ?_
      · refine XS.astore X47.here hx rfl (hb hby at_31) rfl rfl (l' := #[.val (.int p0), .val (.int p1), .val (.int (0 : Int32)), .val (.int (2 : Int32)), .val (.ref x2)]) rfl ?_
        show Steps p.tables e below (T47.setTop (mkF m 33 #[.val (.int p0), .val (.int p1), .val (.int (0 : Int32)), .val (.int (2 : Int32)), .val (.ref x2)] [])) _
        refine XS.aload X47.here hx rfl (hb hby at_33) rfl rfl ?_
        show Steps p.tables e below (T47.setTop (mkF m 35 _ [(.ref x2)])) _
        refine XS.iloadN X47.here hx rfl (hb hby at_35) rfl ?_
        exact ht
      obtain ⟨_, _, ⟨T67, L67, k67, n67⟩, -, X67, ⟨Lc67, hQ67, l67, y67, z67⟩, st67⟩ := Jvm.LawKit.callS X47 hx (y := (⟨"com/example/querant/querant/exchange/OutcomeOfCodePinLaw", "expected", "(I)Lcom/example/querant/querant/exchange/Exchange$Outcome;"⟩ : MethodName)) hown (mvT hZ (hw _ (List.mem_of_getElem? (i := 28) rfl))) (mvT hZ (hw _ (List.mem_of_getElem? (i := 29) rfl))) (mvT hZ (hw _ (List.mem_of_getElem? (i := 30) rfl))) (mvT hZ (hw _ (List.mem_of_getElem? (i := 31) rfl))) (by decide) (backOf (W := 1) (rmX2 l Z _ hw [] x2 T47.heap n0 Z66 f61) hZ (hw _ (List.mem_of_getElem? (i := 31) rfl)) (hw _ (List.mem_of_getElem? (i := 30) rfl)) (by decide) (by decide)) (g := (mkF m 36 #[.val (.int p0), .val (.int p1), .val (.int (0 : Int32)), .val (.int (2 : Int32)), .val (.ref x2)] [(.int (2 : Int32)), (.ref x2)])) rfl (by rw [hml]; rfl) (argsL := [(.int (2 : Int32))]) (rest := [(.ref x2)]) (lenOf pd_1 rfl) rfl (by show 2 * 0 + _ ≤ _; exact Nat.le_of_eq rfl) (hb hby at_36) (fun _ _ => ⟨rfl, (rfl : T47.heap = T47.heap), (by decide : 1 + 0 ≤ _), (by decide : 7 + 0 ≤ _)⟩)
      dsimp only [Pt.U, Pt.locs, Pt.cells, Pt.slots] at X67 l67 y67 z67 st67 hQ67
      subst l67 y67 z67
      obtain ⟨rfl, Nq67, hs67⟩ := hQ67
      have N68 := Fr.app N48 Nq67
      refine OFin.of (S' := T67.setTop (mkF m 39 #[.val (.int p0), .val (.int p1), .val (.int (0 : Int32)), .val (.int (2 : Int32)), .val (.ref x2)] [(.ref x2), (.ref x2)])) (fun t ht => st67 t ht) ?_
      refine OFin.of (S' := T67.setTop (mkF m 47 #[.val (.int p0), .val (.int p1), .val (.int (0 : Int32)), .val (.int (2 : Int32)), .val (.ref x2)] [(.int (1 : Int32))])) (fun t ht => ?_) ?_
      · refine acmp X67 hx rfl (cd := .ne) (x := (.ref x2)) (y := (.ref x2)) rfl rfl (pc0 := 39) (pc' := 42) (same := true) rfl (hb hby at_39) rfl (decide_eq_true rfl) (by decide) (by decide) ?_
        show Steps p.tables e below (T67.setTop (mkF m 42 _ [])) _
        refine XS.iconst X67.here hx rfl (hb hby at_42) ?_
        show Steps p.tables e below (T67.setTop (mkF m 43 _ [(.int (1 : Int32))])) _
        refine XS.goto X67.here hx rfl (pc0 := 43) (pc' := 47) rfl (hb hby at_43) (by decide) (by decide) ?_
        exact ht
      exact OFin.retB X67 hx hlk (t := .boolean) (by simp) hret (hb hby at_47) (by decide) (by decide) (by rw [hs67]; exact ⟨rfl, N68⟩)
    · rw [hq2]
      refine OFin.of (S' := s₁.setTop (mkF m 28 #[.val (.int p0), .val (.int p1), .val (.int (0 : Int32)), .val (.int (3 : Int32)), .unset] [(.int (3 : Int32))])) (fun t ht => ?_) ?_
      · refine XS.istoreN X0.here hx rfl (hb hby at_26) rfl (l' := #[.val (.int p0), .val (.int p1), .val (.int (0 : Int32)), .val (.int (3 : Int32)), .unset]) rfl ?_
        show Steps p.tables e below (s₁.setTop (mkF m 27 #[.val (.int p0), .val (.int p1), .val (.int (0 : Int32)), .val (.int (3 : Int32)), .unset] [])) _
        refine XS.iloadN X0.here hx rfl (hb hby at_27) rfl ?_
        exact ht
      obtain ⟨_, _, ⟨T69, L69, k69, n69⟩, -, X69, ⟨Lc69, hQ69, l69, y69, z69⟩, st69⟩ := Jvm.LawKit.callS X0 hx (y := (⟨"com/example/querant/querant/exchange/Exchange$Outcome", "ofCode", "(I)Lcom/example/querant/querant/exchange/Exchange$Outcome;"⟩ : MethodName)) hown (mvT hZ (hw _ (List.mem_of_getElem? (i := 0) rfl))) (mvT hZ (hw _ (List.mem_of_getElem? (i := 1) rfl))) (mvT hZ (hw _ (List.mem_of_getElem? (i := 2) rfl))) (mvT hZ (hw _ (List.mem_of_getElem? (i := 3) rfl))) (by decide) (backOf (W := 0) (rmC3 l Z _ hw [] av k x0 x1 x2 x3 x4 x5 x6 h0 n0 Z0 Sv Ev V1 O0 O1 O2 O3 O4 O5 O6) hZ (hw _ (List.mem_of_getElem? (i := 3) rfl)) (hw _ (List.mem_of_getElem? (i := 2) rfl)) (by decide) (by decide)) (g := (mkF m 28 #[.val (.int p0), .val (.int p1), .val (.int (0 : Int32)), .val (.int (3 : Int32)), .unset] [(.int (3 : Int32))])) rfl (by rw [hml]; rfl) (argsL := [(.int (3 : Int32))]) (rest := []) (lenOf pd_1 rfl) rfl (by show 2 * 0 + _ ≤ _; exact Nat.le_of_eq rfl) (hb hby at_28) (fun _ _ => ⟨rfl, e0, (by decide : 0 + 1 ≤ _), (by decide : 0 + 7 ≤ _)⟩)
      dsimp only [Pt.U, Pt.locs, Pt.cells, Pt.slots] at X69 l69 y69 z69 st69 hQ69
      subst l69 y69 z69
      obtain ⟨rfl, Nq69, Kq69⟩ := hQ69
      have N70 := Fr.app N0 Nq69
      have f71 := (own_staKeep Sv Kq69 own_sn0)
      have f72 := (Ev.keep Kq69)
      have f73 := (V1.keep Kq69 nin0)
      have f74 := (O0.keep Kq69 nin0)
      have f75 := (O1.keep Kq69 nin0)
      have f76 := (O2.keep Kq69 nin0)
      have f77 := (O3.keep Kq69 nin0)
      have f78 := (O4.keep Kq69 nin0)
      have f79 := (O5.keep Kq69 nin0)
      have f80 := (O6.keep Kq69 nin0)
      have f81 := (own_staKeep S0 Kq69 own_sn0)
      have f82 := (own_staKeep S1 Kq69 own_sn0)
      have f83 := (own_staKeep S2 Kq69 own_sn0)
      have f84 := (own_staKeep S3 Kq69 own_sn0)
      have f85 := (own_staKeep S4 Kq69 own_sn0)
      have f86 := (own_staKeep S5 Kq69 own_sn0)
      have f87 := (own_staKeep S6 Kq69 own_sn0)
      have Z88 : n0 ≤ T69.heap.size := (Nat.le_trans Z0 Kq69.1)
      refine OFin.of (S' := T69.setTop (mkF m 31 #[.val (.int p0), .val (.int p1), .val (.int (0 : Int32)), .val (.int (3 : Int32)), .unset] [(.ref x3)])) (fun t ht => st69 t ht) ?_
      refine OFin.of (S' := T69.setTop (mkF m 36 #[.val (.int p0), .val (.int p1), .val (.int (0 : Int32)), .val (.int (3 : Int32)), .val (.ref x3)] [(.int (3 : Int32)), (.ref x3)])) (fun t ht => ?_) ?_
      · refine XS.astore X69.here hx rfl (hb hby at_31) rfl rfl (l' := #[.val (.int p0), .val (.int p1), .val (.int (0 : Int32)), .val (.int (3 : Int32)), .val (.ref x3)]) rfl ?_
        show Steps p.tables e below (T69.setTop (mkF m 33 #[.val (.int p0), .val (.int p1), .val (.int (0 : Int32)), .val (.int (3 : Int32)), .val (.ref x3)] [])) _
        refine XS.aload X69.here hx rfl (hb hby at_33) rfl rfl ?_
        show Steps p.tables e below (T69.setTop (mkF m 35 _ [(.ref x3)])) _
        refine XS.iloadN X69.here hx rfl (hb hby at_35) rfl ?_
        exact ht
      obtain ⟨_, _, ⟨T89, L89, k89, n89⟩, -, X89, ⟨Lc89, hQ89, l89, y89, z89⟩, st89⟩ := Jvm.LawKit.callS X69 hx (y := (⟨"com/example/querant/querant/exchange/OutcomeOfCodePinLaw", "expected", "(I)Lcom/example/querant/querant/exchange/Exchange$Outcome;"⟩ : MethodName)) hown (mvT hZ (hw _ (List.mem_of_getElem? (i := 28) rfl))) (mvT hZ (hw _ (List.mem_of_getElem? (i := 29) rfl))) (mvT hZ (hw _ (List.mem_of_getElem? (i := 30) rfl))) (mvT hZ (hw _ (List.mem_of_getElem? (i := 31) rfl))) (by decide) (backOf (W := 1) (rmX3 l Z _ hw [] x3 T69.heap n0 Z88 f84) hZ (hw _ (List.mem_of_getElem? (i := 31) rfl)) (hw _ (List.mem_of_getElem? (i := 30) rfl)) (by decide) (by decide)) (g := (mkF m 36 #[.val (.int p0), .val (.int p1), .val (.int (0 : Int32)), .val (.int (3 : Int32)), .val (.ref x3)] [(.int (3 : Int32)), (.ref x3)])) rfl (by rw [hml]; rfl) (argsL := [(.int (3 : Int32))]) (rest := [(.ref x3)]) (lenOf pd_1 rfl) rfl (by show 2 * 0 + _ ≤ _; exact Nat.le_of_eq rfl) (hb hby at_36) (fun _ _ => ⟨rfl, (rfl : T69.heap = T69.heap), (by decide : 1 + 0 ≤ _), (by decide : 7 + 0 ≤ _)⟩)
      dsimp only [Pt.U, Pt.locs, Pt.cells, Pt.slots] at X89 l89 y89 z89 st89 hQ89
      subst l89 y89 z89
      obtain ⟨rfl, Nq89, hs89⟩ := hQ89
      have N90 := Fr.app N70 Nq89
      refine OFin.of (S' := T89.setTop (mkF m 39 #[.val (.int p0), .val (.int p1), .val (.int (0 : Int32)), .val (.int (3 : Int32)), .val (.ref x3)] [(.ref x3), (.ref x3)])) (fun t ht => st89 t ht) ?_
      refine OFin.of (S' := T89.setTop (mkF m 47 #[.val (.int p0), .val (.int p1), .val (.int (0 : Int32)), .val (.int (3 : Int32)), .val (.ref x3)] [(.int (1 : Int32))])) (fun t ht => ?_) ?_
      · refine acmp X89 hx rfl (cd := .ne) (x := (.ref x3)) (y := (.ref x3)) rfl rfl (pc0 := 39) (pc' := 42) (same := true) rfl (hb hby at_39) rfl (decide_eq_true rfl) (by decide) (by decide) ?_
        show Steps p.tables e below (T89.setTop (mkF m 42 _ [])) _
        refine XS.iconst X89.here hx rfl (hb hby at_42) ?_
        show Steps p.tables e below (T89.setTop (mkF m 43 _ [(.int (1 : Int32))])) _
        refine XS.goto X89.here hx rfl (pc0 := 43) (pc' := 47) rfl (hb hby at_43) (by decide) (by decide) ?_
        exact ht
      exact OFin.retB X89 hx hlk (t := .boolean) (by simp) hret (hb hby at_47) (by decide) (by decide) (by rw [hs89]; exact ⟨rfl, N90⟩)
    · rw [hq2]
      refine OFin.of (S' := s₁.setTop (mkF m 28 #[.val (.int p0), .val (.int p1), .val (.int (0 : Int32)), .val (.int (4 : Int32)), .unset] [(.int (4 : Int32))])) (fun t ht => ?_) ?_
      · refine XS.istoreN X0.here hx rfl (hb hby at_26) rfl (l' := #[.val (.int p0), .val (.int p1), .val (.int (0 : Int32)), .val (.int (4 : Int32)), .unset]) rfl ?_
        show Steps p.tables e below (s₁.setTop (mkF m 27 #[.val (.int p0), .val (.int p1), .val (.int (0 : Int32)), .val (.int (4 : Int32)), .unset] [])) _
        refine XS.iloadN X0.here hx rfl (hb hby at_27) rfl ?_
        exact ht
      obtain ⟨_, _, ⟨T91, L91, k91, n91⟩, -, X91, ⟨Lc91, hQ91, l91, y91, z91⟩, st91⟩ := Jvm.LawKit.callS X0 hx (y := (⟨"com/example/querant/querant/exchange/Exchange$Outcome", "ofCode", "(I)Lcom/example/querant/querant/exchange/Exchange$Outcome;"⟩ : MethodName)) hown (mvT hZ (hw _ (List.mem_of_getElem? (i := 0) rfl))) (mvT hZ (hw _ (List.mem_of_getElem? (i := 1) rfl))) (mvT hZ (hw _ (List.mem_of_getElem? (i := 2) rfl))) (mvT hZ (hw _ (List.mem_of_getElem? (i := 3) rfl))) (by decide) (backOf (W := 0) (rmC4 l Z _ hw [] av k x0 x1 x2 x3 x4 x5 x6 h0 n0 Z0 Sv Ev V1 O0 O1 O2 O3 O4 O5 O6) hZ (hw _ (List.mem_of_getElem? (i := 3) rfl)) (hw _ (List.mem_of_getElem? (i := 2) rfl)) (by decide) (by decide)) (g := (mkF m 28 #[.val (.int p0), .val (.int p1), .val (.int (0 : Int32)), .val (.int (4 : Int32)), .unset] [(.int (4 : Int32))])) rfl (by rw [hml]; rfl) (argsL := [(.int (4 : Int32))]) (rest := []) (lenOf pd_1 rfl) rfl (by show 2 * 0 + _ ≤ _; exact Nat.le_of_eq rfl) (hb hby at_28) (fun _ _ => ⟨rfl, e0, (by decide : 0 + 1 ≤ _), (by decide : 0 + 7 ≤ _)⟩)
      dsimp only [Pt.U, Pt.locs, Pt.cells, Pt.slots] at X91 l91 y91 z91 st91 hQ91
      subst l91 y91 z91
      obtain ⟨rfl, Nq91, Kq91⟩ := hQ91
      have N92 := Fr.app N0 Nq91
      have f93 := (own_staKeep Sv Kq91 own_sn0)
      have f94 := (Ev.keep Kq91)
      have f95 := (V1.keep Kq91 nin0)
      have f96 := (O0.keep Kq91 nin0)
      have f97 := (O1.keep Kq91 nin0)
      have f98 := (O2.keep Kq91 nin0)
      have f99 := (O3.keep Kq91 nin0)
      have f100 := (O4.keep Kq91 nin0)
      have f101 := (O5.keep Kq91 nin0)
      have f102 := (O6.keep Kq91 nin0)
      have f103 := (own_staKeep S0 Kq91 own_sn0)
      have f104 := (own_staKeep S1 Kq91 own_sn0)
      have f105 := (own_staKeep S2 Kq91 own_sn0)
      have f106 := (own_staKeep S3 Kq91 own_sn0)
      have f107 := (own_staKeep S4 Kq91 own_sn0)
      have f108 := (own_staKeep S5 Kq91 own_sn0)
      have f109 := (own_staKeep S6 Kq91 own_sn0)
      have Z110 : n0 ≤ T91.heap.size := (Nat.le_trans Z0 Kq91.1)
      refine OFin.of (S' := T91.setTop (mkF m 31 #[.val (.int p0), .val (.int p1), .val (.int (0 : Int32)), .val (.int (4 : Int32)), .unset] [(.ref x4)])) (fun t ht => st91 t ht) ?_
      refine OFin.of (S' := T91.setTop (mkF m 36 #[.val (.int p0), .val (.int p1), .val (.int (0 : Int32)), .val (.int (4 : Int32)), .val (.ref x4)] [(.int (4 : Int32)), (.ref x4)])) (fun t ht => ?_) ?_
      · refine XS.astore X91.here hx rfl (hb hby at_31) rfl rfl (l' := #[.val (.int p0), .val (.int p1), .val (.int (0 : Int32)), .val (.int (4 : Int32)), .val (.ref x4)]) rfl ?_
        show Steps p.tables e below (T91.setTop (mkF m 33 #[.val (.int p0), .val (.int p1), .val (.int (0 : Int32)), .val (.int (4 : Int32)), .val (.ref x4)] [])) _
        refine XS.aload X91.here hx rfl (hb hby at_33) rfl rfl ?_
        show Steps p.tables e below (T91.setTop (mkF m 35 _ [(.ref x4)])) _
        refine XS.iloadN X91.here hx rfl (hb hby at_35) rfl ?_
        exact ht
      obtain ⟨_, _, ⟨T111, L111, k111, n111⟩, -, X111, ⟨Lc111, hQ111, l111, y111, z111⟩, st111⟩ := Jvm.LawKit.callS X91 hx (y := (⟨"com/example/querant/querant/exchange/OutcomeOfCodePinLaw", "expected", "(I)Lcom/example/querant/querant/exchange/Exchange$Outcome;"⟩ : MethodName)) hown (mvT hZ (hw _ (List.mem_of_getElem? (i := 28) rfl))) (mvT hZ (hw _ (List.mem_of_getElem? (i := 29) rfl))) (mvT hZ (hw _ (List.mem_of_getElem? (i := 30) rfl))) (mvT hZ (hw _ (List.mem_of_getElem? (i := 31) rfl))) (by decide) (backOf (W := 1) (rmX4 l Z _ hw [] x4 T91.heap n0 Z110 f107) hZ (hw _ (List.mem_of_getElem? (i := 31) rfl)) (hw _ (List.mem_of_getElem? (i := 30) rfl)) (by decide) (by decide)) (g := (mkF m 36 #[.val (.int p0), .val (.int p1), .val (.int (0 : Int32)), .val (.int (4 : Int32)), .val (.ref x4)] [(.int (4 : Int32)), (.ref x4)])) rfl (by rw [hml]; rfl) (argsL := [(.int (4 : Int32))]) (rest := [(.ref x4)]) (lenOf pd_1 rfl) rfl (by show 2 * 0 + _ ≤ _; exact Nat.le_of_eq rfl) (hb hby at_36) (fun _ _ => ⟨rfl, (rfl : T91.heap = T91.heap), (by decide : 1 + 0 ≤ _), (by decide : 7 + 0 ≤ _)⟩)
      dsimp only [Pt.U, Pt.locs, Pt.cells, Pt.slots] at X111 l111 y111 z111 st111 hQ111
      subst l111 y111 z111
      obtain ⟨rfl, Nq111, hs111⟩ := hQ111
      have N112 := Fr.app N92 Nq111
      refine OFin.of (S' := T111.setTop (mkF m 39 #[.val (.int p0), .val (.int p1), .val (.int (0 : Int32)), .val (.int (4 : Int32)), .val (.ref x4)] [(.ref x4), (.ref x4)])) (fun t ht => st111 t ht) ?_
      refine OFin.of (S' := T111.setTop (mkF m 47 #[.val (.int p0), .val (.int p1), .val (.int (0 : Int32)), .val (.int (4 : Int32)), .val (.ref x4)] [(.int (1 : Int32))])) (fun t ht => ?_) ?_
      · refine acmp X111 hx rfl (cd := .ne) (x := (.ref x4)) (y := (.ref x4)) rfl rfl (pc0 := 39) (pc' := 42) (same := true) rfl (hb hby at_39) rfl (decide_eq_true rfl) (by decide) (by decide) ?_
        show Steps p.tables e below (T111.setTop (mkF m 42 _ [])) _
        refine XS.iconst X111.here hx rfl (hb hby at_42) ?_
        show Steps p.tables e below (T111.setTop (mkF m 43 _ [(.int (1 : Int32))])) _
        refine XS.goto X111.here hx rfl (pc0 := 43) (pc' := 47) rfl (hb hby at_43) (by decide) (by decide) ?_
        exact ht
      exact OFin.retB X111 hx hlk (t := .boolean) (by simp) hret (hb hby at_47) (by decide) (by decide) (by rw [hs111]; exact ⟨rfl, N112⟩)
    · rw [hq2]
      refine OFin.of (S' := s₁.setTop (mkF m 28 #[.val (.int p0), .val (.int p1), .val (.int (0 : Int32)), .val (.int (5 : Int32)), .unset] [(.int (5 : Int32))])) (fun t ht => ?_) ?_
      · refine XS.istoreN X0.here hx rfl (hb hby at_26) rfl (l' := #[.val (.int p0), .val (.int p1), .val (.int (0 : Int32)), .val (.int (5 : Int32)), .unset]) rfl ?_
        show Steps p.tables e below (s₁.setTop (mkF m 27 #[.val (.int p0), .val (.int p1), .val (.int (0 : Int32)), .val (.int (5 : Int32)), .unset] [])) _
        refine XS.iloadN X0.here hx rfl (hb hby at_27) rfl ?_
        exact ht
      obtain ⟨_, _, ⟨T113, L113, k113, n113⟩, -, X113, ⟨Lc113, hQ113, l113, y113, z113⟩, st113⟩ := Jvm.LawKit.callS X0 hx (y := (⟨"com/example/querant/querant/exchange/Exchange$Outcome", "ofCode", "(I)Lcom/example/querant/querant/exchange/Exchange$Outcome;"⟩ : MethodName)) hown (mvT hZ (hw _ (List.mem_of_getElem? (i := 0) rfl))) (mvT hZ (hw _ (List.mem_of_getElem? (i := 1) rfl))) (mvT hZ (hw _ (List.mem_of_getElem? (i := 2) rfl))) (mvT hZ (hw _ (List.mem_of_getElem? (i := 3) rfl))) (by decide) (backOf (W := 0) (rmC5 l Z _ hw [] av k x0 x1 x2 x3 x4 x5 x6 h0 n0 Z0 Sv Ev V1 O0 O1 O2 O3 O4 O5 O6) hZ (hw _ (List.mem_of_getElem? (i := 3) rfl)) (hw _ (List.mem_of_getElem? (i := 2) rfl)) (by decide) (by decide)) (g := (mkF m 28 #[.val (.int p0), .val (.int p1), .val (.int (0 : Int32)), .val (.int (5 : Int32)), .unset] [(.int (5 : Int32))])) rfl (by rw [hml]; rfl) (argsL := [(.int (5 : Int32))]) (rest := []) (lenOf pd_1 rfl) rfl (by show 2 * 0 + _ ≤ _; exact Nat.le_of_eq rfl) (hb hby at_28) (fun _ _ => ⟨rfl, e0, (by decide : 0 + 1 ≤ _), (by decide : 0 + 7 ≤ _)⟩)
      dsimp only [Pt.U, Pt.locs, Pt.cells, Pt.slots] at X113 l113 y113 z113 st113 hQ113
      subst l113 y113 z113
      obtain ⟨rfl, Nq113, Kq113⟩ := hQ113
      have N114 := Fr.app N0 Nq113
      have f115 := (own_staKeep Sv Kq113 own_sn0)
      have f116 := (Ev.keep Kq113)
      have f117 := (V1.keep Kq113 nin0)
      have f118 := (O0.keep Kq113 nin0)
      have f119 := (O1.keep Kq113 nin0)
      have f120 := (O2.keep Kq113 nin0)
      have f121 := (O3.keep Kq113 nin0)
      have f122 := (O4.keep Kq113 nin0)
      have f123 := (O5.keep Kq113 nin0)
      have f124 := (O6.keep Kq113 nin0)
      have f125 := (own_staKeep S0 Kq113 own_sn0)
      have f126 := (own_staKeep S1 Kq113 own_sn0)
      have f127 := (own_staKeep S2 Kq113 own_sn0)
      have f128 := (own_staKeep S3 Kq113 own_sn0)
      have f129 := (own_staKeep S4 Kq113 own_sn0)
      have f130 := (own_staKeep S5 Kq113 own_sn0)
      have f131 := (own_staKeep S6 Kq113 own_sn0)
      have Z132 : n0 ≤ T113.heap.size := (Nat.le_trans Z0 Kq113.1)
      refine OFin.of (S' := T113.setTop (mkF m 31 #[.val (.int p0), .val (.int p1), .val (.int (0 : Int32)), .val (.int (5 : Int32)), .unset] [(.ref x5)])) (fun t ht => st113 t ht) ?_
      refine OFin.of (S' := T113.setTop (mkF m 36 #[.val (.int p0), .val (.int p1), .val (.int (0 : Int32)), .val (.int (5 : Int32)), .val (.ref x5)] [(.int (5 : Int32)), (.ref x5)])) (fun t ht => ?_) ?_
      · refine XS.astore X113.here hx rfl (hb hby at_31) rfl rfl (l' := #[.val (.int p0), .val (.int p1), .val (.int (0 : Int32)), .val (.int (5 : Int32)), .val (.ref x5)]) rfl ?_
        show Steps p.tables e below (T113.setTop (mkF m 33 #[.val (.int p0), .val (.int p1), .val (.int (0 : Int32)), .val (.int (5 : Int32)), .val (.ref x5)] [])) _
        refine XS.aload X113.here hx rfl (hb hby at_33) rfl rfl ?_
        show Steps p.tables e below (T113.setTop (mkF m 35 _ [(.ref x5)])) _
        refine XS.iloadN X113.here hx rfl (hb hby at_35) rfl ?_
        exact ht
      obtain ⟨_, _, ⟨T133, L133, k133, n133⟩, -, X133, ⟨Lc133, hQ133, l133, y133, z133⟩, st133⟩ := Jvm.LawKit.callS X113 hx (y := (⟨"com/example/querant/querant/exchange/OutcomeOfCodePinLaw", "expected", "(I)Lcom/example/querant/querant/exchange/Exchange$Outcome;"⟩ : MethodName)) hown (mvT hZ (hw _ (List.mem_of_getElem? (i := 28) rfl))) (mvT hZ (hw _ (List.mem_of_getElem? (i := 29) rfl))) (mvT hZ (hw _ (List.mem_of_getElem? (i := 30) rfl))) (mvT hZ (hw _ (List.mem_of_getElem? (i := 31) rfl))) (by decide) (backOf (W := 1) (rmX5 l Z _ hw [] x5 T113.heap n0 Z132 f130) hZ (hw _ (List.mem_of_getElem? (i := 31) rfl)) (hw _ (List.mem_of_getElem? (i := 30) rfl)) (by decide) (by decide)) (g := (mkF m 36 #[.val (.int p0), .val (.int p1), .val (.int (0 : Int32)), .val (.int (5 : Int32)), .val (.ref x5)] [(.int (5 : Int32)), (.ref x5)])) rfl (by rw [hml]; rfl) (argsL := [(.int (5 : Int32))]) (rest := [(.ref x5)]) (lenOf pd_1 rfl) rfl (by show 2 * 0 + _ ≤ _; exact Nat.le_of_eq rfl) (hb hby at_36) (fun _ _ => ⟨rfl, (rfl : T113.heap = T113.heap), (by decide : 1 + 0 ≤ _), (by decide : 7 + 0 ≤ _)⟩)
      dsimp only [Pt.U, Pt.locs, Pt.cells, Pt.slots] at X133 l133 y133 z133 st133 hQ133
      subst l133 y133 z133
      obtain ⟨rfl, Nq133, hs133⟩ := hQ133
      have N134 := Fr.app N114 Nq133
      refine OFin.of (S' := T133.setTop (mkF m 39 #[.val (.int p0), .val (.int p1), .val (.int (0 : Int32)), .val (.int (5 : Int32)), .val (.ref x5)] [(.ref x5), (.ref x5)])) (fun t ht => st133 t ht) ?_
      refine OFin.of (S' := T133.setTop (mkF m 47 #[.val (.int p0), .val (.int p1), .val (.int (0 : Int32)), .val (.int (5 : Int32)), .val (.ref x5)] [(.int (1 : Int32))])) (fun t ht => ?_) ?_
      · refine acmp X133 hx rfl (cd := .ne) (x := (.ref x5)) (y := (.ref x5)) rfl rfl (pc0 := 39) (pc' := 42) (same := true) rfl (hb hby at_39) rfl (decide_eq_true rfl) (by decide) (by decide) ?_
        show Steps p.tables e below (T133.setTop (mkF m 42 _ [])) _
        refine XS.iconst X133.here hx rfl (hb hby at_42) ?_
        show Steps p.tables e below (T133.setTop (mkF m 43 _ [(.int (1 : Int32))])) _
        refine XS.goto X133.here hx rfl (pc0 := 43) (pc' := 47) rfl (hb hby at_43) (by decide) (by decide) ?_
        exact ht
      exact OFin.retB X133 hx hlk (t := .boolean) (by simp) hret (hb hby at_47) (by decide) (by decide) (by rw [hs133]; exact ⟨rfl, N134⟩)
    · rw [hq2]
      refine OFin.of (S' := s₁.setTop (mkF m 28 #[.val (.int p0), .val (.int p1), .val (.int (0 : Int32)), .val (.int (6 : Int32)), .unset] [(.int (6 : Int32))])) (fun t ht => ?_) ?_
      · refine XS.istoreN X0.here hx rfl (hb hby at_26) rfl (l' := #[.val (.int p0), .val (.int p1), .val (.int (0 : Int32)), .val (.int (6 : Int32)), .unset]) rfl ?_
        show Steps p.tables e below (s₁.setTop (mkF m 27 #[.val (.int p0), .val (.int p1), .val (.int (0 : Int32)), .val (.int (6 : Int32)), .unset] [])) _
        refine XS.iloadN X0.here hx rfl (hb hby at_27) rfl ?_
        exact ht
      obtain ⟨_, _, ⟨T135, L135, k135, n135⟩, -, X135, ⟨Lc135, hQ135, l135, y135, z135⟩, st135⟩ := Jvm.LawKit.callS X0 hx (y := (⟨"com/example/querant/querant/exchange/Exchange$Outcome", "ofCode", "(I)Lcom/example/querant/querant/exchange/Exchange$Outcome;"⟩ : MethodName)) hown (mvT hZ (hw _ (List.mem_of_getElem? (i := 0) rfl))) (mvT hZ (hw _ (List.mem_of_getElem? (i := 1) rfl))) (mvT hZ (hw _ (List.mem_of_getElem? (i := 2) rfl))) (mvT hZ (hw _ (List.mem_of_getElem? (i := 3) rfl))) (by decide) (backOf (W := 0) (rmC6 l Z _ hw [] av k x0 x1 x2 x3 x4 x5 x6 h0 n0 Z0 Sv Ev V1 O0 O1 O2 O3 O4 O5 O6) hZ (hw _ (List.mem_of_getElem? (i := 3) rfl)) (hw _ (List.mem_of_getElem? (i := 2) rfl)) (by decide) (by decide)) (g := (mkF m 28 #[.val (.int p0), .val (.int p1), .val (.int (0 : Int32)), .val (.int (6 : Int32)), .unset] [(.int (6 : Int32))])) rfl (by rw [hml]; rfl) (argsL := [(.int (6 : Int32))]) (rest := []) (lenOf pd_1 rfl) rfl (by show 2 * 0 + _ ≤ _; exact Nat.le_of_eq rfl) (hb hby at_28) (fun _ _ => ⟨rfl, e0, (by decide : 0 + 1 ≤ _), (by decide : 0 + 7 ≤ _)⟩)
      dsimp only [Pt.U, Pt.locs, Pt.cells, Pt.slots] at X135 l135 y135 z135 st135 hQ135
      subst l135 y135 z135
      obtain ⟨rfl, Nq135, Kq135⟩ := hQ135
      have N136 := Fr.app N0 Nq135
      have f137 := (own_staKeep Sv Kq135 own_sn0)
      have f138 := (Ev.keep Kq135)
      have f139 := (V1.keep Kq135 nin0)
      have f140 := (O0.keep Kq135 nin0)
      have f141 := (O1.keep Kq135 nin0)
      have f142 := (O2.keep Kq135 nin0)
      have f143 := (O3.keep Kq135 nin0)
      have f144 := (O4.keep Kq135 nin0)
      have f145 := (O5.keep Kq135 nin0)
      have f146 := (O6.keep Kq135 nin0)
      have f147 := (own_staKeep S0 Kq135 own_sn0)
      have f148 := (own_staKeep S1 Kq135 own_sn0)
      have f149 := (own_staKeep S2 Kq135 own_sn0)
      have f150 := (own_staKeep S3 Kq135 own_sn0)
      have f151 := (own_staKeep S4 Kq135 own_sn0)
      have f152 := (own_staKeep S5 Kq135 own_sn0)
      have f153 := (own_staKeep S6 Kq135 own_sn0)
      have Z154 : n0 ≤ T135.heap.size := (Nat.le_trans Z0 Kq135.1)
      refine OFin.of (S' := T135.setTop (mkF m 31 #[.val (.int p0), .val (.int p1), .val (.int (0 : Int32)), .val (.int (6 : Int32)), .unset] [(.ref x6)])) (fun t ht => st135 t ht) ?_
      refine OFin.of (S' := T135.setTop (mkF m 36 #[.val (.int p0), .val (.int p1), .val (.int (0 : Int32)), .val (.int (6 : Int32)), .val (.ref x6)] [(.int (6 : Int32)), (.ref x6)])) (fun t ht => ?_) ?_
      · refine XS.astore X135.here hx rfl (hb hby at_31) rfl rfl (l' := #[.val (.int p0), .val (.int p1), .val (.int (0 : Int32)), .val (.int (6 : Int32)), .val (.ref x6)]) rfl ?_
        show Steps p.tables e below (T135.setTop (mkF m 33 #[.val (.int p0), .val (.int p1), .val (.int (0 : Int32)), .val (.int (6 : Int32)), .val (.ref x6)] [])) _
        refine XS.aload X135.here hx rfl (hb hby at_33) rfl rfl ?_
        show Steps p.tables e below (T135.setTop (mkF m 35 _ [(.ref x6)])) _
        refine XS.iloadN X135.here hx rfl (hb hby at_35) rfl ?_
        exact ht
      obtain ⟨_, _, ⟨T155, L155, k155, n155⟩, -, X155, ⟨Lc155, hQ155, l155, y155, z155⟩, st155⟩ := Jvm.LawKit.callS X135 hx (y := (⟨"com/example/querant/querant/exchange/OutcomeOfCodePinLaw", "expected", "(I)Lcom/example/querant/querant/exchange/Exchange$Outcome;"⟩ : MethodName)) hown (mvT hZ (hw _ (List.mem_of_getElem? (i := 28) rfl))) (mvT hZ (hw _ (List.mem_of_getElem? (i := 29) rfl))) (mvT hZ (hw _ (List.mem_of_getElem? (i := 30) rfl))) (mvT hZ (hw _ (List.mem_of_getElem? (i := 31) rfl))) (by decide) (backOf (W := 1) (rmX6 l Z _ hw [] x6 T135.heap n0 Z154 f153) hZ (hw _ (List.mem_of_getElem? (i := 31) rfl)) (hw _ (List.mem_of_getElem? (i := 30) rfl)) (by decide) (by decide)) (g := (mkF m 36 #[.val (.int p0), .val (.int p1), .val (.int (0 : Int32)), .val (.int (6 : Int32)), .val (.ref x6)] [(.int (6 : Int32)), (.ref x6)])) rfl (by rw [hml]; rfl) (argsL := [(.int (6 : Int32))]) (rest := [(.ref x6)]) (lenOf pd_1 rfl) rfl (by show 2 * 0 + _ ≤ _; exact Nat.le_of_eq rfl) (hb hby at_36) (fun _ _ => ⟨rfl, (rfl : T135.heap = T135.heap), (by decide : 1 + 0 ≤ _), (by decide : 7 + 0 ≤ _)⟩)
      dsimp only [Pt.U, Pt.locs, Pt.cells, Pt.slots] at X155 l155 y155 z155 st155 hQ155
      subst l155 y155 z155
      obtain ⟨rfl, Nq155, hs155⟩ := hQ155
      have N156 := Fr.app N136 Nq155
      refine OFin.of (S' := T155.setTop (mkF m 39 #[.val (.int p0), .val (.int p1), .val (.int (0 : Int32)), .val (.int (6 : Int32)), .val (.ref x6)] [(.ref x6), (.ref x6)])) (fun t ht => st155 t ht) ?_
      refine OFin.of (S' := T155.setTop (mkF m 47 #[.val (.int p0), .val (.int p1), .val (.int (0 : Int32)), .val (.int (6 : Int32)), .val (.ref x6)] [(.int (1 : Int32))])) (fun t ht => ?_) ?_
      · refine acmp X155 hx rfl (cd := .ne) (x := (.ref x6)) (y := (.ref x6)) rfl rfl (pc0 := 39) (pc' := 42) (same := true) rfl (hb hby at_39) rfl (decide_eq_true rfl) (by decide) (by decide) ?_
        show Steps p.tables e below (T155.setTop (mkF m 42 _ [])) _
        refine XS.iconst X155.here hx rfl (hb hby at_42) ?_
        show Steps p.tables e below (T155.setTop (mkF m 43 _ [(.int (1 : Int32))])) _
        refine XS.goto X155.here hx rfl (pc0 := 43) (pc' := 47) rfl (hb hby at_43) (by decide) (by decide) ?_
        exact ht
      exact OFin.retB X155 hx hlk (t := .boolean) (by simp) hret (hb hby at_47) (by decide) (by decide) (by rw [hs155]; exact ⟨rfl, N156⟩)
    · have hphq2 := hq2
      refine OFin.of (S' := s₁.setTop (mkF m 28 #[.val (.int p0), .val (.int p1), .val (.int (0 : Int32)), .val (.int ((p0 &&& (15 : Int32)) - (4 : Int32))), .unset] [(.int ((p0 &&& (15 : Int32)) - (4 : Int32)))])) (fun t ht => ?_) ?_
      · refine XS.istoreN X0.here hx rfl (hb hby at_26) rfl (l' := #[.val (.int p0), .val (.int p1), .val (.int (0 : Int32)), .val (.int ((p0 &&& (15 : Int32)) - (4 : Int32))), .unset]) rfl ?_
        show Steps p.tables e below (s₁.setTop (mkF m 27 #[.val (.int p0), .val (.int p1), .val (.int (0 : Int32)), .val (.int ((p0 &&& (15 : Int32)) - (4 : Int32))), .unset] [])) _
        refine XS.iloadN X0.here hx rfl (hb hby at_27) rfl ?_
        exact ht
      obtain ⟨_, _, ⟨T157, L157, k157, n157⟩, -, X157, ⟨Lc157, hQ157, l157, y157, z157⟩, st157⟩ := Jvm.LawKit.callS X0 hx (y := (⟨"com/example/querant/querant/exchange/Exchange$Outcome", "ofCode", "(I)Lcom/example/querant/querant/exchange/Exchange$Outcome;"⟩ : MethodName)) hown (mvT hZ (hw _ (List.mem_of_getElem? (i := 0) rfl))) (mvT hZ (hw _ (List.mem_of_getElem? (i := 1) rfl))) (mvT hZ (hw _ (List.mem_of_getElem? (i := 2) rfl))) (mvT hZ (hw _ (List.mem_of_getElem? (i := 3) rfl))) (by decide) (backOf (W := 0) (rmC7 l Z _ hw [] ((p0 &&& (15 : Int32)) - (4 : Int32)) av k x0 x1 x2 x3 x4 x5 x6 h0 n0 Z0 Sv Ev V1 O0 O1 O2 O3 O4 O5 O6 hq2) hZ (hw _ (List.mem_of_getElem? (i := 3) rfl)) (hw _ (List.mem_of_getElem? (i := 2) rfl)) (by decide) (by decide)) (g := (mkF m 28 #[.val (.int p0), .val (.int p1), .val (.int (0 : Int32)), .val (.int ((p0 &&& (15 : Int32)) - (4 : Int32))), .unset] [(.int ((p0 &&& (15 : Int32)) - (4 : Int32)))])) rfl (by rw [hml]; rfl) (argsL := [(.int ((p0 &&& (15 : Int32)) - (4 : Int32)))]) (rest := []) (lenOf pd_1 rfl) rfl (by show 2 * 0 + _ ≤ _; exact Nat.le_of_eq rfl) (hb hby at_28) (fun _ _ => ⟨rfl, e0, (by decide : 0 + 1 ≤ _), (by decide : 0 + 7 ≤ _)⟩)
      dsimp only [Pt.U, Pt.locs, Pt.cells, Pt.slots] at X157 l157 y157 z157 st157 hQ157
      subst l157 y157 z157
      obtain ⟨rfl, Nq157, Kq157⟩ := hQ157
      have N158 := Fr.app N0 Nq157
      have f159 := (own_staKeep Sv Kq157 own_sn0)
      have f160 := (Ev.keep Kq157)
      have f161 := (V1.keep Kq157 nin0)
      have f162 := (O0.keep Kq157 nin0)
      have f163 := (O1.keep Kq157 nin0)
      have f164 := (O2.keep Kq157 nin0)
      have f165 := (O3.keep Kq157 nin0)
      have f166 := (O4.keep Kq157 nin0)
      have f167 := (O5.keep Kq157 nin0)
      have f168 := (O6.keep Kq157 nin0)
      have f169 := (own_staKeep S0 Kq157 own_sn0)
      have f170 := (own_staKeep S1 Kq157 own_sn0)
      have f171 := (own_staKeep S2 Kq157 own_sn0)
      have f172 := (own_staKeep S3 Kq157 own_sn0)
      have f173 := (own_staKeep S4 Kq157 own_sn0)
      have f174 := (own_staKeep S5 Kq157 own_sn0)
      have f175 := (own_staKeep S6 Kq157 own_sn0)
      have Z176 : n0 ≤ T157.heap.size := (Nat.le_trans Z0 Kq157.1)
      refine OFin.of (S' := T157.setTop (mkF m 31 #[.val (.int p0), .val (.int p1), .val (.int (0 : Int32)), .val (.int ((p0 &&& (15 : Int32)) - (4 : Int32))), .unset] [.null])) (fun t ht => st157 t ht) ?_
      refine OFin.of (S' := T157.setTop (mkF m 36 #[.val (.int p0), .val (.int p1), .val (.int (0 : Int32)), .val (.int ((p0 &&& (15 : Int32)) - (4 : Int32))), .val .null] [(.int ((p0 &&& (15 : Int32)) - (4 : Int32))), .null])) (fun t ht => ?_) ?_
      · refine XS.astore X157.here hx rfl (hb hby at_31) rfl rfl (l' := #[.val (.int p0), .val (.int p1), .val (.int (0 : Int32)), .val (.int ((p0 &&& (15 : Int32)) - (4 : Int32))), .val .null]) rfl ?_
        show Steps p.tables e below (T157.setTop (mkF m 33 #[.val (.int p0), .val (.int p1), .val (.int (0 : Int32)), .val (.int ((p0 &&& (15 : Int32)) - (4 : Int32))), .val .null] [])) _
        refine XS.aload X157.here hx rfl (hb hby at_33) rfl rfl ?_
        show Steps p.tables e below (T157.setTop (mkF m 35 _ [.null])) _
        refine XS.iloadN X157.here hx rfl (hb hby at_35) rfl ?_
        exact ht
      obtain ⟨_, _, ⟨T177, L177, k177, n177⟩, -, X177, ⟨Lc177, hQ177, l177, y177, z177⟩, st177⟩ := Jvm.LawKit.callS X157 hx (y := (⟨"com/example/querant/querant/exchange/OutcomeOfCodePinLaw", "expected", "(I)Lcom/example/querant/querant/exchange/Exchange$Outcome;"⟩ : MethodName)) hown (mvT hZ (hw _ (List.mem_of_getElem? (i := 28) rfl))) (mvT hZ (hw _ (List.mem_of_getElem? (i := 29) rfl))) (mvT hZ (hw _ (List.mem_of_getElem? (i := 30) rfl))) (mvT hZ (hw _ (List.mem_of_getElem? (i := 31) rfl))) (by decide) (backOf (W := 1) (rmX7 l Z _ hw [] ((p0 &&& (15 : Int32)) - (4 : Int32)) T157.heap n0 Z176 hq2) hZ (hw _ (List.mem_of_getElem? (i := 31) rfl)) (hw _ (List.mem_of_getElem? (i := 30) rfl)) (by decide) (by decide)) (g := (mkF m 36 #[.val (.int p0), .val (.int p1), .val (.int (0 : Int32)), .val (.int ((p0 &&& (15 : Int32)) - (4 : Int32))), .val .null] [(.int ((p0 &&& (15 : Int32)) - (4 : Int32))), .null])) rfl (by rw [hml]; rfl) (argsL := [(.int ((p0 &&& (15 : Int32)) - (4 : Int32)))]) (rest := [.null]) (lenOf pd_1 rfl) rfl (by show 2 * 0 + _ ≤ _; exact Nat.le_of_eq rfl) (hb hby at_36) (fun _ _ => ⟨rfl, (rfl : T157.heap = T157.heap), (by decide : 1 + 0 ≤ _), (by decide : 7 + 0 ≤ _)⟩)
      dsimp only [Pt.U, Pt.locs, Pt.cells, Pt.slots] at X177 l177 y177 z177 st177 hQ177
      subst l177 y177 z177
      obtain ⟨rfl, Nq177, hs177⟩ := hQ177
      have N178 := Fr.app N158 Nq177
      refine OFin.of (S' := T177.setTop (mkF m 39 #[.val (.int p0), .val (.int p1), .val (.int (0 : Int32)), .val (.int ((p0 &&& (15 : Int32)) - (4 : Int32))), .val .null] [.null, .null])) (fun t ht => st177 t ht) ?_
      refine OFin.of (S' := T177.setTop (mkF m 47 #[.val (.int p0), .val (.int p1), .val (.int (0 : Int32)), .val (.int ((p0 &&& (15 : Int32)) - (4 : Int32))), .val .null] [(.int (1 : Int32))])) (fun t ht => ?_) ?_
      · refine acmp X177 hx rfl (cd := .ne) (x := .null) (y := .null) rfl rfl (pc0 := 39) (pc' := 42) (same := true) rfl (hb hby at_39) rfl (decide_eq_true rfl) (by decide) (by decide) ?_
        show Steps p.tables e below (T177.setTop (mkF m 42 _ [])) _
        refine XS.iconst X177.here hx rfl (hb hby at_42) ?_
        show Steps p.tables e below (T177.setTop (mkF m 43 _ [(.int (1 : Int32))])) _
        refine XS.goto X177.here hx rfl (pc0 := 43) (pc' := 47) rfl (hb hby at_43) (by decide) (by decide) ?_
        exact ht
      exact OFin.retB X177 hx hlk (t := .boolean) (by simp) hret (hb hby at_47) (by decide) (by decide) (by rw [hs177]; exact ⟨rfl, N178⟩)
  · rw [hq1]
    refine OFin.of (S' := s₁.setTop (mkF m 26 #[.val (.int p0), .val (.int p1), .val (.int (1 : Int32)), .unset, .unset] [(.int p0)])) (fun t ht => ?_) ?_
    · refine XS.ifNo X0.here hx rfl (hb hby at_3) rfl ((if0 _ _).trans (feq (by decide : ¬ ((1 : Int32) = (0 : Int32)))).1) ?_
      show Steps p.tables e below (s₁.setTop (mkF m 6 _ [])) _
      refine XS.iconst X0.here hx rfl (hb hby at_6) ?_
      show Steps p.tables e below (s₁.setTop (mkF m 7 _ [(.int (1 : Int32))])) _
      refine XS.goto X0.here hx rfl (pc0 := 7) (pc' := 11) rfl (hb hby at_7) (by decide) (by decide) ?_
      show Steps p.tables e below (s₁.setTop (mkF m 11 _ [(.int (1 : Int32))])) _
      refine XS.istoreN X0.here hx rfl (hb hby at_11) rfl (l' := #[.val (.int p0), .val (.int p1), .val (.int (1 : Int32)), .unset, .unset]) rfl ?_
      show Steps p.tables e below (s₁.setTop (mkF m 12 #[.val (.int p0), .val (.int p1), .val (.int (1 : Int32)), .unset, .unset] [])) _
      refine XS.iloadN X0.here hx rfl (hb hby at_12) rfl ?_
      show Steps p.tables e below (s₁.setTop (mkF m 13 _ [(.int (1 : Int32))])) _
      refine XS.ifNo X0.here hx rfl (hb hby at_13) rfl ((if0 _ _).trans (feq (by decide : ¬ ((1 : Int32) = (0 : Int32)))).1) ?_
      show Steps p.tables e below (s₁.setTop (mkF m 16 _ [])) _
      refine XS.iloadN X0.here hx rfl (hb hby at_16) rfl ?_
      show Steps p.tables e below (s₁.setTop (mkF m 17 _ [(.int p0)])) _
      refine XS.goto X0.here hx rfl (pc0 := 17) (pc' := 26) rfl (hb hby at_17) (by decide) (by decide) ?_
      exact ht
    rcases own_seven p0 with hq179 | hq179 | hq179 | hq179 | hq179 | hq179 | hq179 | hq179
    · rw [show (.int p0 :: [] : List Value) = [.int (0 : Int32)] by rw [hq179]]
      refine OFin.of (S' := s₁.setTop (mkF m 28 #[.val (.int p0), .val (.int p1), .val (.int (1 : Int32)), .val (.int (0 : Int32)), .unset] [(.int (0 : Int32))])) (fun t ht => ?_) ?_
      · refine XS.istoreN X0.here hx rfl (hb hby at_26) rfl (l' := #[.val (.int p0), .val (.int p1), .val (.int (1 : Int32)), .val (.int (0 : Int32)), .unset]) rfl ?_
        show Steps p.tables e below (s₁.setTop (mkF m 27 #[.val (.int p0), .val (.int p1), .val (.int (1 : Int32)), .val (.int (0 : Int32)), .unset] [])) _
        refine XS.iloadN X0.here hx rfl (hb hby at_27) rfl ?_
        exact ht
      obtain ⟨_, _, ⟨T180, L180, k180, n180⟩, -, X180, ⟨Lc180, hQ180, l180, y180, z180⟩, st180⟩ := Jvm.LawKit.callS X0 hx (y := (⟨"com/example/querant/querant/exchange/Exchange$Outcome", "ofCode", "(I)Lcom/example/querant/querant/exchange/Exchange$Outcome;"⟩ : MethodName)) hown (mvT hZ (hw _ (List.mem_of_getElem? (i := 0) rfl))) (mvT hZ (hw _ (List.mem_of_getElem? (i := 1) rfl))) (mvT hZ (hw _ (List.mem_of_getElem? (i := 2) rfl))) (mvT hZ (hw _ (List.mem_of_getElem? (i := 3) rfl))) (by decide) (backOf (W := 0) (rmC0 l Z _ hw [] av k x0 x1 x2 x3 x4 x5 x6 h0 n0 Z0 Sv Ev V1 O0 O1 O2 O3 O4 O5 O6) hZ (hw _ (List.mem_of_getElem? (i := 3) rfl)) (hw _ (List.mem_of_getElem? (i := 2) rfl)) (by decide) (by decide)) (g := (mkF m 28 #[.val (.int p0), .val (.int p1), .val (.int (1 : Int32)), .val (.int (0 : Int32)), .unset] [(.int (0 : Int32))])) rfl (by rw [hml]; rfl) (argsL := [(.int (0 : Int32))]) (rest := []) (lenOf pd_1 rfl) rfl (by show 2 * 0 + _ ≤ _; exact Nat.le_of_eq rfl) (hb hby at_28) (fun _ _ => ⟨rfl, e0, (by decide : 0 + 1 ≤ _), (by decide : 0 + 7 ≤ _)⟩)
      dsimp only [Pt.U, Pt.locs, Pt.cells, Pt.slots] at X180 l180 y180 z180 st180 hQ180
      subst l180 y180 z180
      obtain ⟨rfl, Nq180, Kq180⟩ := hQ180
      have N181 := Fr.app N0 Nq180
      have f182 := (own_staKeep Sv Kq180 own_sn0)
      have f183 := (Ev.keep Kq180)
      have f184 := (V1.keep Kq180 nin0)
      have f185 := (O0.keep Kq180 nin0)
      have f186 := (O1.keep Kq180 nin0)
      have f187 := (O2.keep Kq180 nin0)
      have f188 := (O3.keep Kq180 nin0)
      have f189 := (O4.keep Kq180 nin0)
      have f190 := (O5.keep Kq180 nin0)
      have f191 := (O6.keep Kq180 nin0)
      have f192 := (own_staKeep S0 Kq180 own_sn0)
      have f193 := (own_staKeep S1 Kq180 own_sn0)
      have f194 := (own_staKeep S2 Kq180 own_sn0)
      have f195 := (own_staKeep S3 Kq180 own_sn0)
      have f196 := (own_staKeep S4 Kq180 own_sn0)
      have f197 := (own_staKeep S5 Kq180 own_sn0)
      have f198 := (own_staKeep S6 Kq180 own_sn0)
      have Z199 : n0 ≤ T180.heap.size := (Nat.le_trans Z0 Kq180.1)
      refine OFin.of (S' := T180.setTop (mkF m 31 #[.val (.int p0), .val (.int p1), .val (.int (1 : Int32)), .val (.int (0 : Int32)), .unset] [(.ref x0)])) (fun t ht => st180 t ht) ?_
      refine OFin.of (S' := T180.setTop (mkF m 36 #[.val (.int p0), .val (.int p1), .val (.int (1 : Int32)), .val (.int (0 : Int32)), .val (.ref x0)] [(.int (0 : Int32)), (.ref x0)])) (fun t ht => ?_) ?_
      · refine XS.astore X180.here hx rfl (hb hby at_31) rfl rfl (l' := #[.val (.int p0), .val (.int p1), .val (.int (1 : Int32)), .val (.int (0 : Int32)), .val (.ref x0)]) rfl ?_
        show Steps p.tables e below (T180.setTop (mkF m 33 #[.val (.int p0), .val (.int p1), .val (.int (1 : Int32)), .val (.int (0 : Int32)), .val (.ref x0)] [])) _
        refine XS.aload X180.here hx rfl (hb hby at_33) rfl rfl ?_
        show Steps p.tables e below (T180.setTop (mkF m 35 _ [(.ref x0)])) _
        refine XS.iloadN X180.here hx rfl (hb hby at_35) rfl ?_
        exact ht
      obtain ⟨_, _, ⟨T200, L200, k200, n200⟩, -, X200, ⟨Lc200, hQ200, l200, y200, z200⟩, st200⟩ := Jvm.LawKit.callS X180 hx (y := (⟨"com/example/querant/querant/exchange/OutcomeOfCodePinLaw", "expected", "(I)Lcom/example/querant/querant/exchange/Exchange$Outcome;"⟩ : MethodName)) hown (mvT hZ (hw _ (List.mem_of_getElem? (i := 28) rfl))) (mvT hZ (hw _ (List.mem_of_getElem? (i := 29) rfl))) (mvT hZ (hw _ (List.mem_of_getElem? (i := 30) rfl))) (mvT hZ (hw _ (List.mem_of_getElem? (i := 31) rfl))) (by decide) (backOf (W := 1) (rmX0 l Z _ hw [] x0 T180.heap n0 Z199 f192) hZ (hw _ (List.mem_of_getElem? (i := 31) rfl)) (hw _ (List.mem_of_getElem? (i := 30) rfl)) (by decide) (by decide)) (g := (mkF m 36 #[.val (.int p0), .val (.int p1), .val (.int (1 : Int32)), .val (.int (0 : Int32)), .val (.ref x0)] [(.int (0 : Int32)), (.ref x0)])) rfl (by rw [hml]; rfl) (argsL := [(.int (0 : Int32))]) (rest := [(.ref x0)]) (lenOf pd_1 rfl) rfl (by show 2 * 0 + _ ≤ _; exact Nat.le_of_eq rfl) (hb hby at_36) (fun _ _ => ⟨rfl, (rfl : T180.heap = T180.heap), (by decide : 1 + 0 ≤ _), (by decide : 7 + 0 ≤ _)⟩)
      dsimp only [Pt.U, Pt.locs, Pt.cells, Pt.slots] at X200 l200 y200 z200 st200 hQ200
      subst l200 y200 z200
      obtain ⟨rfl, Nq200, hs200⟩ := hQ200
      have N201 := Fr.app N181 Nq200
      refine OFin.of (S' := T200.setTop (mkF m 39 #[.val (.int p0), .val (.int p1), .val (.int (1 : Int32)), .val (.int (0 : Int32)), .val (.ref x0)] [(.ref x0), (.ref x0)])) (fun t ht => st200 t ht) ?_
      refine OFin.of (S' := T200.setTop (mkF m 47 #[.val (.int p0), .val (.int p1), .val (.int (1 : Int32)), .val (.int (0 : Int32)), .val (.ref x0)] [(.int (1 : Int32))])) (fun t ht => ?_) ?_
      · refine acmp X200 hx rfl (cd := .ne) (x := (.ref x0)) (y := (.ref x0)) rfl rfl (pc0 := 39) (pc' := 42) (same := true) rfl (hb hby at_39) rfl (decide_eq_true rfl) (by decide) (by decide) ?_
        show Steps p.tables e below (T200.setTop (mkF m 42 _ [])) _
        refine XS.iconst X200.here hx rfl (hb hby at_42) ?_
        show Steps p.tables e below (T200.setTop (mkF m 43 _ [(.int (1 : Int32))])) _
        refine XS.goto X200.here hx rfl (pc0 := 43) (pc' := 47) rfl (hb hby at_43) (by decide) (by decide) ?_
        exact ht
      exact OFin.retB X200 hx hlk (t := .boolean) (by simp) hret (hb hby at_47) (by decide) (by decide) (by rw [hs200]; exact ⟨rfl, N201⟩)
    · rw [show (.int p0 :: [] : List Value) = [.int (1 : Int32)] by rw [hq179]]
      refine OFin.of (S' := s₁.setTop (mkF m 28 #[.val (.int p0), .val (.int p1), .val (.int (1 : Int32)), .val (.int (1 : Int32)), .unset] [(.int (1 : Int32))])) (fun t ht => ?_) ?_
      · refine XS.istoreN X0.here hx rfl (hb hby at_26) rfl (l' := #[.val (.int p0), .val (.int p1), .val (.int (1 : Int32)), .val (.int (1 : Int32)), .unset]) rfl ?_
        show Steps p.tables e below (s₁.setTop (mkF m 27 #[.val (.int p0), .val (.int p1), .val (.int (1 : Int32)), .val (.int (1 : Int32)), .unset] [])) _
        refine XS.iloadN X0.here hx rfl (hb hby at_27) rfl ?_
        exact ht
      obtain ⟨_, _, ⟨T202, L202, k202, n202⟩, -, X202, ⟨Lc202, hQ202, l202, y202, z202⟩, st202⟩ := Jvm.LawKit.callS X0 hx (y := (⟨"com/example/querant/querant/exchange/Exchange$Outcome", "ofCode", "(I)Lcom/example/querant/querant/exchange/Exchange$Outcome;"⟩ : MethodName)) hown (mvT hZ (hw _ (List.mem_of_getElem? (i := 0) rfl))) (mvT hZ (hw _ (List.mem_of_getElem? (i := 1) rfl))) (mvT hZ (hw _ (List.mem_of_getElem? (i := 2) rfl))) (mvT hZ (hw _ (List.mem_of_getElem? (i := 3) rfl))) (by decide) (backOf (W := 0) (rmC1 l Z _ hw [] av k x0 x1 x2 x3 x4 x5 x6 h0 n0 Z0 Sv Ev V1 O0 O1 O2 O3 O4 O5 O6) hZ (hw _ (List.mem_of_getElem? (i := 3) rfl)) (hw _ (List.mem_of_getElem? (i := 2) rfl)) (by decide) (by decide)) (g := (mkF m 28 #[.val (.int p0), .val (.int p1), .val (.int (1 : Int32)), .val (.int (1 : Int32)), .unset] [(.int (1 : Int32))])) rfl (by rw [hml]; rfl) (argsL := [(.int (1 : Int32))]) (rest := []) (lenOf pd_1 rfl) rfl (by show 2 * 0 + _ ≤ _; exact Nat.le_of_eq rfl) (hb hby at_28) (fun _ _ => ⟨rfl, e0, (by decide : 0 + 1 ≤ _), (by decide : 0 + 7 ≤ _)⟩)
      dsimp only [Pt.U, Pt.locs, Pt.cells, Pt.slots] at X202 l202 y202 z202 st202 hQ202
      subst l202 y202 z202
      obtain ⟨rfl, Nq202, Kq202⟩ := hQ202
      have N203 := Fr.app N0 Nq202
      have f204 := (own_staKeep Sv Kq202 own_sn0)
      have f205 := (Ev.keep Kq202)
      have f206 := (V1.keep Kq202 nin0)
      have f207 := (O0.keep Kq202 nin0)
      have f208 := (O1.keep Kq202 nin0)
      have f209 := (O2.keep Kq202 nin0)
      have f210 := (O3.keep Kq202 nin0)
      have f211 := (O4.keep Kq202 nin0)
      have f212 := (O5.keep Kq202 nin0)
      have f213 := (O6.keep Kq202 nin0)
      have f214 := (own_staKeep S0 Kq202 own_sn0)
      have f215 := (own_staKeep S1 Kq202 own_sn0)
      have f216 := (own_staKeep S2 Kq202 own_sn0)
      have f217 := (own_staKeep S3 Kq202 own_sn0)
      have f218 := (own_staKeep S4 Kq202 own_sn0)
      have f219 := (own_staKeep S5 Kq202 own_sn0)
      have f220 := (own_staKeep S6 Kq202 own_sn0)
      have Z221 : n0 ≤ T202.heap.size := (Nat.le_trans Z0 Kq202.1)
      refine OFin.of (S' := T202.setTop (mkF m 31 #[.val (.int p0), .val (.int p1), .val (.int (1 : Int32)), .val (.int (1 : Int32)), .unset] [(.ref x1)])) (fun t ht => st202 t ht) ?_
      refine OFin.of (S' := T202.setTop (mkF m 36 #[.val (.int p0), .val (.int p1), .val (.int (1 : Int32)), .val (.int (1 : Int32)), .val (.ref x1)] [(.int (1 : Int32)), (.ref x1)])) (fun t ht => ?_) ?_
      · refine XS.astore X202.here hx rfl (hb hby at_31) rfl rfl (l' := #[.val (.int p0), .val (.int p1), .val (.int (1 : Int32)), .val (.int (1 : Int32)), .val (.ref x1)]) rfl ?_
        show Steps p.tables e below (T202.setTop (mkF m 33 #[.val (.int p0), .val (.int p1), .val (.int (1 : Int32)), .val (.int (1 : Int32)), .val (.ref x1)] [])) _
        refine XS.aload X202.here hx rfl (hb hby at_33) rfl rfl ?_
        show Steps p.tables e below (T202.setTop (mkF m 35 _ [(.ref x1)])) _
        refine XS.iloadN X202.here hx rfl (hb hby at_35) rfl ?_
        exact ht
      obtain ⟨_, _, ⟨T222, L222, k222, n222⟩, -, X222, ⟨Lc222, hQ222, l222, y222, z222⟩, st222⟩ := Jvm.LawKit.callS X202 hx (y := (⟨"com/example/querant/querant/exchange/OutcomeOfCodePinLaw", "expected", "(I)Lcom/example/querant/querant/exchange/Exchange$Outcome;"⟩ : MethodName)) hown (mvT hZ (hw _ (List.mem_of_getElem? (i := 28) rfl))) (mvT hZ (hw _ (List.mem_of_getElem? (i := 29) rfl))) (mvT hZ (hw _ (List.mem_of_getElem? (i := 30) rfl))) (mvT hZ (hw _ (List.mem_of_getElem? (i := 31) rfl))) (by decide) (backOf (W := 1) (rmX1 l Z _ hw [] x1 T202.heap n0 Z221 f215) hZ (hw _ (List.mem_of_getElem? (i := 31) rfl)) (hw _ (List.mem_of_getElem? (i := 30) rfl)) (by decide) (by decide)) (g := (mkF m 36 #[.val (.int p0), .val (.int p1), .val (.int (1 : Int32)), .val (.int (1 : Int32)), .val (.ref x1)] [(.int (1 : Int32)), (.ref x1)])) rfl (by rw [hml]; rfl) (argsL := [(.int (1 : Int32))]) (rest := [(.ref x1)]) (lenOf pd_1 rfl) rfl (by show 2 * 0 + _ ≤ _; exact Nat.le_of_eq rfl) (hb hby at_36) (fun _ _ => ⟨rfl, (rfl : T202.heap = T202.heap), (by decide : 1 + 0 ≤ _), (by decide : 7 + 0 ≤ _)⟩)
      dsimp only [Pt.U, Pt.locs, Pt.cells, Pt.slots] at X222 l222 y222 z222 st222 hQ222
      subst l222 y222 z222
      obtain ⟨rfl, Nq222, hs222⟩ := hQ222
      have N223 := Fr.app N203 Nq222
      refine OFin.of (S' := T222.setTop (mkF m 39 #[.val (.int p0), .val (.int p1), .val (.int (1 : Int32)), .val (.int (1 : Int32)), .val (.ref x1)] [(.ref x1), (.ref x1)])) (fun t ht => st222 t ht) ?_
      refine OFin.of (S' := T222.setTop (mkF m 47 #[.val (.int p0), .val (.int p1), .val (.int (1 : Int32)), .val (.int (1 : Int32)), .val (.ref x1)] [(.int (1 : Int32))])) (fun t ht => ?_) ?_
      · refine acmp X222 hx rfl (cd := .ne) (x := (.ref x1)) (y := (.ref x1)) rfl rfl (pc0 := 39) (pc' := 42) (same := true) rfl (hb hby at_39) rfl (decide_eq_true rfl) (by decide) (by decide) ?_
        show Steps p.tables e below (T222.setTop (mkF m 42 _ [])) _
        refine XS.iconst X222.here hx rfl (hb hby at_42) ?_
        show Steps p.tables e below (T222.setTop (mkF m 43 _ [(.int (1 : Int32))])) _
        refine XS.goto X222.here hx rfl (pc0 := 43) (pc' := 47) rfl (hb hby at_43) (by decide) (by decide) ?_
        exact ht
      exact OFin.retB X222 hx hlk (t := .boolean) (by simp) hret (hb hby at_47) (by decide) (by decide) (by rw [hs222]; exact ⟨rfl, N223⟩)
    · rw [show (.int p0 :: [] : List Value) = [.int (2 : Int32)] by rw [hq179]]
      refine OFin.of (S' := s₁.setTop (mkF m 28 #[.val (.int p0), .val (.int p1), .val (.int (1 : Int32)), .val (.int (2 : Int32)), .unset] [(.int (2 : Int32))])) (fun t ht => ?_) ?_
      · refine XS.istoreN X0.here hx rfl (hb hby at_26) rfl (l' := #[.val (.int p0), .val (.int p1), .val (.int (1 : Int32)), .val (.int (2 : Int32)), .unset]) rfl ?_
        show Steps p.tables e below (s₁.setTop (mkF m 27 #[.val (.int p0), .val (.int p1), .val (.int (1 : Int32)), .val (.int (2 : Int32)), .unset] [])) _
        refine XS.iloadN X0.here hx rfl (hb hby at_27) rfl ?_
        exact ht
      obtain ⟨_, _, ⟨T224, L224, k224, n224⟩, -, X224, ⟨Lc224, hQ224, l224, y224, z224⟩, st224⟩ := Jvm.LawKit.callS X0 hx (y := (⟨"com/example/querant/querant/exchange/Exchange$Outcome", "ofCode", "(I)Lcom/example/querant/querant/exchange/Exchange$Outcome;"⟩ : MethodName)) hown (mvT hZ (hw _ (List.mem_of_getElem? (i := 0) rfl))) (mvT hZ (hw _ (List.mem_of_getElem? (i := 1) rfl))) (mvT hZ (hw _ (List.mem_of_getElem? (i := 2) rfl))) (mvT hZ (hw _ (List.mem_of_getElem? (i := 3) rfl))) (by decide) (backOf (W := 0) (rmC2 l Z _ hw [] av k x0 x1 x2 x3 x4 x5 x6 h0 n0 Z0 Sv Ev V1 O0 O1 O2 O3 O4 O5 O6) hZ (hw _ (List.mem_of_getElem? (i := 3) rfl)) (hw _ (List.mem_of_getElem? (i := 2) rfl)) (by decide) (by decide)) (g := (mkF m 28 #[.val (.int p0), .val (.int p1), .val (.int (1 : Int32)), .val (.int (2 : Int32)), .unset] [(.int (2 : Int32))])) rfl (by rw [hml]; rfl) (argsL := [(.int (2 : Int32))]) (rest := []) (lenOf pd_1 rfl) rfl (by show 2 * 0 + _ ≤ _; exact Nat.le_of_eq rfl) (hb hby at_28) (fun _ _ => ⟨rfl, e0, (by decide : 0 + 1 ≤ _), (by decide : 0 + 7 ≤ _)⟩)
      dsimp only [Pt.U, Pt.locs, Pt.cells, Pt.slots] at X224 l224 y224 z224 st224 hQ224
      subst l224 y224 z224
      obtain ⟨rfl, Nq224, Kq224⟩ := hQ224
      have N225 := Fr.app N0 Nq224
      have f226 := (own_staKeep Sv Kq224 own_sn0)
      have f227 := (Ev.keep Kq224)
      have f228 := (V1.keep Kq224 nin0)
      have f229 := (O0.keep Kq224 nin0)
      have f230 := (O1.keep Kq224 nin0)
      have f231 := (O2.keep Kq224 nin0)
      have f232 := (O3.keep Kq224 nin0)
      have f233 := (O4.keep Kq224 nin0)
      have f234 := (O5.keep Kq224 nin0)
      have f235 := (O6.keep Kq224 nin0)
      have f236 := (own_staKeep S0 Kq224 own_sn0)
      have f237 := (own_staKeep S1 Kq224 own_sn0)
      have f238 := (own_staKeep S2 Kq224 own_sn0)
      have f239 := (own_staKeep S3 Kq224 own_sn0)
      have f240 := (own_staKeep S4 Kq224 own_sn0)
      have f241 := (own_staKeep S5 Kq224 own_sn0)
      have f242 := (own_staKeep S6 Kq224 own_sn0)
      have Z243 : n0 ≤ T224.heap.size := (Nat.le_trans Z0 Kq224.1)
      refine OFin.of (S' := T224.setTop (mkF m 31 #[.val (.int p0), .val (.int p1), .val (.int (1 : Int32)), .val (.int (2 : Int32)), .unset] [(.ref x2)])) (fun t ht => st224 t ht) ?_
      refine OFin.of (S' := T224.setTop (mkF m 36 #[.val (.int p0), .val (.int p1), .val (.int (1 : Int32)), .val (.int (2 : Int32)), .val (.ref x2)] [(.int (2 : Int32)), (.ref x2)])) (fun t ht => ?_) ?_
      · refine XS.astore X224.here hx rfl (hb hby at_31) rfl rfl (l' := #[.val (.int p0), .val (.int p1), .val (.int (1 : Int32)), .val (.int (2 : Int32)), .val (.ref x2)]) rfl ?_
        show Steps p.tables e below (T224.setTop (mkF m 33 #[.val (.int p0), .val (.int p1), .val (.int (1 : Int32)), .val (.int (2 : Int32)), .val (.ref x2)] [])) _
        refine XS.aload X224.here hx rfl (hb hby at_33) rfl rfl ?_
        show Steps p.tables e below (T224.setTop (mkF m 35 _ [(.ref x2)])) _
        refine XS.iloadN X224.here hx rfl (hb hby at_35) rfl ?_
        exact ht
      obtain ⟨_, _, ⟨T244, L244, k244, n244⟩, -, X244, ⟨Lc244, hQ244, l244, y244, z244⟩, st244⟩ := Jvm.LawKit.callS X224 hx (y := (⟨"com/example/querant/querant/exchange/OutcomeOfCodePinLaw", "expected", "(I)Lcom/example/querant/querant/exchange/Exchange$Outcome;"⟩ : MethodName)) hown (mvT hZ (hw _ (List.mem_of_getElem? (i := 28) rfl))) (mvT hZ (hw _ (List.mem_of_getElem? (i := 29) rfl))) (mvT hZ (hw _ (List.mem_of_getElem? (i := 30) rfl))) (mvT hZ (hw _ (List.mem_of_getElem? (i := 31) rfl))) (by decide) (backOf (W := 1) (rmX2 l Z _ hw [] x2 T224.heap n0 Z243 f238) hZ (hw _ (List.mem_of_getElem? (i := 31) rfl)) (hw _ (List.mem_of_getElem? (i := 30) rfl)) (by decide) (by decide)) (g := (mkF m 36 #[.val (.int p0), .val (.int p1), .val (.int (1 : Int32)), .val (.int (2 : Int32)), .val (.ref x2)] [(.int (2 : Int32)), (.ref x2)])) rfl (by rw [hml]; rfl) (argsL := [(.int (2 : Int32))]) (rest := [(.ref x2)]) (lenOf pd_1 rfl) rfl (by show 2 * 0 + _ ≤ _; exact Nat.le_of_eq rfl) (hb hby at_36) (fun _ _ => ⟨rfl, (rfl : T224.heap = T224.heap), (by decide : 1 + 0 ≤ _), (by decide : 7 + 0 ≤ _)⟩)
      dsimp only [Pt.U, Pt.locs, Pt.cells, Pt.slots] at X244 l244 y244 z244 st244 hQ244
      subst l244 y244 z244
      obtain ⟨rfl, Nq244, hs244⟩ := hQ244
      have N245 := Fr.app N225 Nq244
      refine OFin.of (S' := T244.setTop (mkF m 39 #[.val (.int p0), .val (.int p1), .val (.int (1 : Int32)), .val (.int (2 : Int32)), .val (.ref x2)] [(.ref x2), (.ref x2)])) (fun t ht => st244 t ht) ?_
      refine OFin.of (S' := T244.setTop (mkF m 47 #[.val (.int p0), .val (.int p1), .val (.int (1 : Int32)), .val (.int (2 : Int32)), .val (.ref x2)] [(.int (1 : Int32))])) (fun t ht => ?_) ?_
      · refine acmp X244 hx rfl (cd := .ne) (x := (.ref x2)) (y := (.ref x2)) rfl rfl (pc0 := 39) (pc' := 42) (same := true) rfl (hb hby at_39) rfl (decide_eq_true rfl) (by decide) (by decide) ?_
        show Steps p.tables e below (T244.setTop (mkF m 42 _ [])) _
        refine XS.iconst X244.here hx rfl (hb hby at_42) ?_
        show Steps p.tables e below (T244.setTop (mkF m 43 _ [(.int (1 : Int32))])) _
        refine XS.goto X244.here hx rfl (pc0 := 43) (pc' := 47) rfl (hb hby at_43) (by decide) (by decide) ?_
        exact ht
      exact OFin.retB X244 hx hlk (t := .boolean) (by simp) hret (hb hby at_47) (by decide) (by decide) (by rw [hs244]; exact ⟨rfl, N245⟩)
    · rw [show (.int p0 :: [] : List Value) = [.int (3 : Int32)] by rw [hq179]]
      refine OFin.of (S' := s₁.setTop (mkF m 28 #[.val (.int p0), .val (.int p1), .val (.int (1 : Int32)), .val (.int (3 : Int32)), .unset] [(.int (3 : Int32))])) (fun t ht => ?_) ?_
      · refine XS.istoreN X0.here hx rfl (hb hby at_26) rfl (l' := #[.val (.int p0), .val (.int p1), .val (.int (1 : Int32)), .val (.int (3 : Int32)), .unset]) rfl ?_
        show Steps p.tables e below (s₁.setTop (mkF m 27 #[.val (.int p0), .val (.int p1), .val (.int (1 : Int32)), .val (.int (3 : Int32)), .unset] [])) _
        refine XS.iloadN X0.here hx rfl (hb hby at_27) rfl ?_
        exact ht
      obtain ⟨_, _, ⟨T246, L246, k246, n246⟩, -, X246, ⟨Lc246, hQ246, l246, y246, z246⟩, st246⟩ := Jvm.LawKit.callS X0 hx (y := (⟨"com/example/querant/querant/exchange/Exchange$Outcome", "ofCode", "(I)Lcom/example/querant/querant/exchange/Exchange$Outcome;"⟩ : MethodName)) hown (mvT hZ (hw _ (List.mem_of_getElem? (i := 0) rfl))) (mvT hZ (hw _ (List.mem_of_getElem? (i := 1) rfl))) (mvT hZ (hw _ (List.mem_of_getElem? (i := 2) rfl))) (mvT hZ (hw _ (List.mem_of_getElem? (i := 3) rfl))) (by decide) (backOf (W := 0) (rmC3 l Z _ hw [] av k x0 x1 x2 x3 x4 x5 x6 h0 n0 Z0 Sv Ev V1 O0 O1 O2 O3 O4 O5 O6) hZ (hw _ (List.mem_of_getElem? (i := 3) rfl)) (hw _ (List.mem_of_getElem? (i := 2) rfl)) (by decide) (by decide)) (g := (mkF m 28 #[.val (.int p0), .val (.int p1), .val (.int (1 : Int32)), .val (.int (3 : Int32)), .unset] [(.int (3 : Int32))])) rfl (by rw [hml]; rfl) (argsL := [(.int (3 : Int32))]) (rest := []) (lenOf pd_1 rfl) rfl (by show 2 * 0 + _ ≤ _; exact Nat.le_of_eq rfl) (hb hby at_28) (fun _ _ => ⟨rfl, e0, (by decide : 0 + 1 ≤ _), (by decide : 0 + 7 ≤ _)⟩)
      dsimp only [Pt.U, Pt.locs, Pt.cells, Pt.slots] at X246 l246 y246 z246 st246 hQ246
      subst l246 y246 z246
      obtain ⟨rfl, Nq246, Kq246⟩ := hQ246
      have N247 := Fr.app N0 Nq246
      have f248 := (own_staKeep Sv Kq246 own_sn0)
      have f249 := (Ev.keep Kq246)
      have f250 := (V1.keep Kq246 nin0)
      have f251 := (O0.keep Kq246 nin0)
      have f252 := (O1.keep Kq246 nin0)
      have f253 := (O2.keep Kq246 nin0)
      have f254 := (O3.keep Kq246 nin0)
      have f255 := (O4.keep Kq246 nin0)
      have f256 := (O5.keep Kq246 nin0)
      have f257 := (O6.keep Kq246 nin0)
      have f258 := (own_staKeep S0 Kq246 own_sn0)
      have f259 := (own_staKeep S1 Kq246 own_sn0)
      have f260 := (own_staKeep S2 Kq246 own_sn0)
      have f261 := (own_staKeep S3 Kq246 own_sn0)
      have f262 := (own_staKeep S4 Kq246 own_sn0)
      have f263 := (own_staKeep S5 Kq246 own_sn0)
      have f264 := (own_staKeep S6 Kq246 own_sn0)
      have Z265 : n0 ≤ T246.heap.size := (Nat.le_trans Z0 Kq246.1)
      refine OFin.of (S' := T246.setTop (mkF m 31 #[.val (.int p0), .val (.int p1), .val (.int (1 : Int32)), .val (.int (3 : Int32)), .unset] [(.ref x3)])) (fun t ht => st246 t ht) ?_
      refine OFin.of (S' := T246.setTop (mkF m 36 #[.val (.int p0), .val (.int p1), .val (.int (1 : Int32)), .val (.int (3 : Int32)), .val (.ref x3)] [(.int (3 : Int32)), (.ref x3)])) (fun t ht => ?_) ?_
      · refine XS.astore X246.here hx rfl (hb hby at_31) rfl rfl (l' := #[.val (.int p0), .val (.int p1), .val (.int (1 : Int32)), .val (.int (3 : Int32)), .val (.ref x3)]) rfl ?_
        show Steps p.tables e below (T246.setTop (mkF m 33 #[.val (.int p0), .val (.int p1), .val (.int (1 : Int32)), .val (.int (3 : Int32)), .val (.ref x3)] [])) _
        refine XS.aload X246.here hx rfl (hb hby at_33) rfl rfl ?_
        show Steps p.tables e below (T246.setTop (mkF m 35 _ [(.ref x3)])) _
        refine XS.iloadN X246.here hx rfl (hb hby at_35) rfl ?_
        exact ht
      obtain ⟨_, _, ⟨T266, L266, k266, n266⟩, -, X266, ⟨Lc266, hQ266, l266, y266, z266⟩, st266⟩ := Jvm.LawKit.callS X246 hx (y := (⟨"com/example/querant/querant/exchange/OutcomeOfCodePinLaw", "expected", "(I)Lcom/example/querant/querant/exchange/Exchange$Outcome;"⟩ : MethodName)) hown (mvT hZ (hw _ (List.mem_of_getElem? (i := 28) rfl))) (mvT hZ (hw _ (List.mem_of_getElem? (i := 29) rfl))) (mvT hZ (hw _ (List.mem_of_getElem? (i := 30) rfl))) (mvT hZ (hw _ (List.mem_of_getElem? (i := 31) rfl))) (by decide) (backOf (W := 1) (rmX3 l Z _ hw [] x3 T246.heap n0 Z265 f261) hZ (hw _ (List.mem_of_getElem? (i := 31) rfl)) (hw _ (List.mem_of_getElem? (i := 30) rfl)) (by decide) (by decide)) (g := (mkF m 36 #[.val (.int p0), .val (.int p1), .val (.int (1 : Int32)), .val (.int (3 : Int32)), .val (.ref x3)] [(.int (3 : Int32)), (.ref x3)])) rfl (by rw [hml]; rfl) (argsL := [(.int (3 : Int32))]) (rest := [(.ref x3)]) (lenOf pd_1 rfl) rfl (by show 2 * 0 + _ ≤ _; exact Nat.le_of_eq rfl) (hb hby at_36) (fun _ _ => ⟨rfl, (rfl : T246.heap = T246.heap), (by decide : 1 + 0 ≤ _), (by decide : 7 + 0 ≤ _)⟩)
      dsimp only [Pt.U, Pt.locs, Pt.cells, Pt.slots] at X266 l266 y266 z266 st266 hQ266
      subst l266 y266 z266
      obtain ⟨rfl, Nq266, hs266⟩ := hQ266
      have N267 := Fr.app N247 Nq266
      refine OFin.of (S' := T266.setTop (mkF m 39 #[.val (.int p0), .val (.int p1), .val (.int (1 : Int32)), .val (.int (3 : Int32)), .val (.ref x3)] [(.ref x3), (.ref x3)])) (fun t ht => st266 t ht) ?_
      refine OFin.of (S' := T266.setTop (mkF m 47 #[.val (.int p0), .val (.int p1), .val (.int (1 : Int32)), .val (.int (3 : Int32)), .val (.ref x3)] [(.int (1 : Int32))])) (fun t ht => ?_) ?_
      · refine acmp X266 hx rfl (cd := .ne) (x := (.ref x3)) (y := (.ref x3)) rfl rfl (pc0 := 39) (pc' := 42) (same := true) rfl (hb hby at_39) rfl (decide_eq_true rfl) (by decide) (by decide) ?_
        show Steps p.tables e below (T266.setTop (mkF m 42 _ [])) _
        refine XS.iconst X266.here hx rfl (hb hby at_42) ?_
        show Steps p.tables e below (T266.setTop (mkF m 43 _ [(.int (1 : Int32))])) _
        refine XS.goto X266.here hx rfl (pc0 := 43) (pc' := 47) rfl (hb hby at_43) (by decide) (by decide) ?_
        exact ht
      exact OFin.retB X266 hx hlk (t := .boolean) (by simp) hret (hb hby at_47) (by decide) (by decide) (by rw [hs266]; exact ⟨rfl, N267⟩)
    · rw [show (.int p0 :: [] : List Value) = [.int (4 : Int32)] by rw [hq179]]
      refine OFin.of (S' := s₁.setTop (mkF m 28 #[.val (.int p0), .val (.int p1), .val (.int (1 : Int32)), .val (.int (4 : Int32)), .unset] [(.int (4 : Int32))])) (fun t ht => ?_) ?_
      · refine XS.istoreN X0.here hx rfl (hb hby at_26) rfl (l' := #[.val (.int p0), .val (.int p1), .val (.int (1 : Int32)), .val (.int (4 : Int32)), .unset]) rfl ?_
        show Steps p.tables e below (s₁.setTop (mkF m 27 #[.val (.int p0), .val (.int p1), .val (.int (1 : Int32)), .val (.int (4 : Int32)), .unset] [])) _
        refine XS.iloadN X0.here hx rfl (hb hby at_27) rfl ?_
        exact ht
      obtain ⟨_, _, ⟨T268, L268, k268, n268⟩, -, X268, ⟨Lc268, hQ268, l268, y268, z268⟩, st268⟩ := Jvm.LawKit.callS X0 hx (y := (⟨"com/example/querant/querant/exchange/Exchange$Outcome", "ofCode", "(I)Lcom/example/querant/querant/exchange/Exchange$Outcome;"⟩ : MethodName)) hown (mvT hZ (hw _ (List.mem_of_getElem? (i := 0) rfl))) (mvT hZ (hw _ (List.mem_of_getElem? (i := 1) rfl))) (mvT hZ (hw _ (List.mem_of_getElem? (i := 2) rfl))) (mvT hZ (hw _ (List.mem_of_getElem? (i := 3) rfl))) (by decide) (backOf (W := 0) (rmC4 l Z _ hw [] av k x0 x1 x2 x3 x4 x5 x6 h0 n0 Z0 Sv Ev V1 O0 O1 O2 O3 O4 O5 O6) hZ (hw _ (List.mem_of_getElem? (i := 3) rfl)) (hw _ (List.mem_of_getElem? (i := 2) rfl)) (by decide) (by decide)) (g := (mkF m 28 #[.val (.int p0), .val (.int p1), .val (.int (1 : Int32)), .val (.int (4 : Int32)), .unset] [(.int (4 : Int32))])) rfl (by rw [hml]; rfl) (argsL := [(.int (4 : Int32))]) (rest := []) (lenOf pd_1 rfl) rfl (by show 2 * 0 + _ ≤ _; exact Nat.le_of_eq rfl) (hb hby at_28) (fun _ _ => ⟨rfl, e0, (by decide : 0 + 1 ≤ _), (by decide : 0 + 7 ≤ _)⟩)
      dsimp only [Pt.U, Pt.locs, Pt.cells, Pt.slots] at X268 l268 y268 z268 st268 hQ268
      subst l268 y268 z268
      obtain ⟨rfl, Nq268, Kq268⟩ := hQ268
      have N269 := Fr.app N0 Nq268
      have f270 := (own_staKeep Sv Kq268 own_sn0)
      have f271 := (Ev.keep Kq268)
      have f272 := (V1.keep Kq268 nin0)
      have f273 := (O0.keep Kq268 nin0)
      have f274 := (O1.keep Kq268 nin0)
      have f275 := (O2.keep Kq268 nin0)
      have f276 := (O3.keep Kq268 nin0)
      have f277 := (O4.keep Kq268 nin0)
      have f278 := (O5.keep Kq268 nin0)
      have f279 := (O6.keep Kq268 nin0)
      have f280 := (own_staKeep S0 Kq268 own_sn0)
      have f281 := (own_staKeep S1 Kq268 own_sn0)
      have f282 := (own_staKeep S2 Kq268 own_sn0)
      have f283 := (own_staKeep S3 Kq268 own_sn0)
      have f284 := (own_staKeep S4 Kq268 own_sn0)
      have f285 := (own_staKeep S5 Kq268 own_sn0)
      have f286 := (own_staKeep S6 Kq268 own_sn0)
      have Z287 : n0 ≤ T268.heap.size := (Nat.le_trans Z0 Kq268.1)
      refine OFin.of (S' := T268.setTop (mkF m 31 #[.val (.int p0), .val (.int p1), .val (.int (1 : Int32)), .val (.int (4 : Int32)), .unset] [(.ref x4)])) (fun t ht => st268 t ht) ?_
      refine OFin.of (S' := T268.setTop (mkF m 36 #[.val (.int p0), .val (.int p1), .val (.int (1 : Int32)), .val (.int (4 : Int32)), .val (.ref x4)] [(.int (4 : Int32)), (.ref x4)])) (fun t ht => ?_) ?_
      · refine XS.astore X268.here hx rfl (hb hby at_31) rfl rfl (l' := #[.val (.int p0), .val (.int p1), .val (.int (1 : Int32)), .val (.int (4 : Int32)), .val (.ref x4)]) rfl ?_
        show Steps p.tables e below (T268.setTop (mkF m 33 #[.val (.int p0), .val (.int p1), .val (.int (1 : Int32)), .val (.int (4 : Int32)), .val (.ref x4)] [])) _
        refine XS.aload X268.here hx rfl (hb hby at_33) rfl rfl ?_
        show Steps p.tables e below (T268.setTop (mkF m 35 _ [(.ref x4)])) _
        refine XS.iloadN X268.here hx rfl (hb hby at_35) rfl ?_
        exact ht
      obtain ⟨_, _, ⟨T288, L288, k288, n288⟩, -, X288, ⟨Lc288, hQ288, l288, y288, z288⟩, st288⟩ := Jvm.LawKit.callS X268 hx (y := (⟨"com/example/querant/querant/exchange/OutcomeOfCodePinLaw", "expected", "(I)Lcom/example/querant/querant/exchange/Exchange$Outcome;"⟩ : MethodName)) hown (mvT hZ (hw _ (List.mem_of_getElem? (i := 28) rfl))) (mvT hZ (hw _ (List.mem_of_getElem? (i := 29) rfl))) (mvT hZ (hw _ (List.mem_of_getElem? (i := 30) rfl))) (mvT hZ (hw _ (List.mem_of_getElem? (i := 31) rfl))) (by decide) (backOf (W := 1) (rmX4 l Z _ hw [] x4 T268.heap n0 Z287 f284) hZ (hw _ (List.mem_of_getElem? (i := 31) rfl)) (hw _ (List.mem_of_getElem? (i := 30) rfl)) (by decide) (by decide)) (g := (mkF m 36 #[.val (.int p0), .val (.int p1), .val (.int (1 : Int32)), .val (.int (4 : Int32)), .val (.ref x4)] [(.int (4 : Int32)), (.ref x4)])) rfl (by rw [hml]; rfl) (argsL := [(.int (4 : Int32))]) (rest := [(.ref x4)]) (lenOf pd_1 rfl) rfl (by show 2 * 0 + _ ≤ _; exact Nat.le_of_eq rfl) (hb hby at_36) (fun _ _ => ⟨rfl, (rfl : T268.heap = T268.heap), (by decide : 1 + 0 ≤ _), (by decide : 7 + 0 ≤ _)⟩)
      dsimp only [Pt.U, Pt.locs, Pt.cells, Pt.slots] at X288 l288 y288 z288 st288 hQ288
      subst l288 y288 z288
      obtain ⟨rfl, Nq288, hs288⟩ := hQ288
      have N289 := Fr.app N269 Nq288
      refine OFin.of (S' := T288.setTop (mkF m 39 #[.val (.int p0), .val (.int p1), .val (.int (1 : Int32)), .val (.int (4 : Int32)), .val (.ref x4)] [(.ref x4), (.ref x4)])) (fun t ht => st288 t ht) ?_
      refine OFin.of (S' := T288.setTop (mkF m 47 #[.val (.int p0), .val (.int p1), .val (.int (1 : Int32)), .val (.int (4 : Int32)), .val (.ref x4)] [(.int (1 : Int32))])) (fun t ht => ?_) ?_
      · refine acmp X288 hx rfl (cd := .ne) (x := (.ref x4)) (y := (.ref x4)) rfl rfl (pc0 := 39) (pc' := 42) (same := true) rfl (hb hby at_39) rfl (decide_eq_true rfl) (by decide) (by decide) ?_
        show Steps p.tables e below (T288.setTop (mkF m 42 _ [])) _
        refine XS.iconst X288.here hx rfl (hb hby at_42) ?_
        show Steps p.tables e below (T288.setTop (mkF m 43 _ [(.int (1 : Int32))])) _
        refine XS.goto X288.here hx rfl (pc0 := 43) (pc' := 47) rfl (hb hby at_43) (by decide) (by decide) ?_
        exact ht
      exact OFin.retB X288 hx hlk (t := .boolean) (by simp) hret (hb hby at_47) (by decide) (by decide) (by rw [hs288]; exact ⟨rfl, N289⟩)
    · rw [show (.int p0 :: [] : List Value) = [.int (5 : Int32)] by rw [hq179]]
      refine OFin.of (S' := s₁.setTop (mkF m 28 #[.val (.int p0), .val (.int p1), .val (.int (1 : Int32)), .val (.int (5 : Int32)), .unset] [(.int (5 : Int32))])) (fun t ht => ?_) ?_
      · refine XS.istoreN X0.here hx rfl (hb hby at_26) rfl (l' := #[.val (.int p0), .val (.int p1), .val (.int (1 : Int32)), .val (.int (5 : Int32)), .unset]) rfl ?_
        show Steps p.tables e below (s₁.setTop (mkF m 27 #[.val (.int p0), .val (.int p1), .val (.int (1 : Int32)), .val (.int (5 : Int32)), .unset] [])) _
        refine XS.iloadN X0.here hx rfl (hb hby at_27) rfl ?_
        exact ht
      obtain ⟨_, _, ⟨T290, L290, k290, n290⟩, -, X290, ⟨Lc290, hQ290, l290, y290, z290⟩, st290⟩ := Jvm.LawKit.callS X0 hx (y := (⟨"com/example/querant/querant/exchange/Exchange$Outcome", "ofCode", "(I)Lcom/example/querant/querant/exchange/Exchange$Outcome;"⟩ : MethodName)) hown (mvT hZ (hw _ (List.mem_of_getElem? (i := 0) rfl))) (mvT hZ (hw _ (List.mem_of_getElem? (i := 1) rfl))) (mvT hZ (hw _ (List.mem_of_getElem? (i := 2) rfl))) (mvT hZ (hw _ (List.mem_of_getElem? (i := 3) rfl))) (by decide) (backOf (W := 0) (rmC5 l Z _ hw [] av k x0 x1 x2 x3 x4 x5 x6 h0 n0 Z0 Sv Ev V1 O0 O1 O2 O3 O4 O5 O6) hZ (hw _ (List.mem_of_getElem? (i := 3) rfl)) (hw _ (List.mem_of_getElem? (i := 2) rfl)) (by decide) (by decide)) (g := (mkF m 28 #[.val (.int p0), .val (.int p1), .val (.int (1 : Int32)), .val (.int (5 : Int32)), .unset] [(.int (5 : Int32))])) rfl (by rw [hml]; rfl) (argsL := [(.int (5 : Int32))]) (rest := []) (lenOf pd_1 rfl) rfl (by show 2 * 0 + _ ≤ _; exact Nat.le_of_eq rfl) (hb hby at_28) (fun _ _ => ⟨rfl, e0, (by decide : 0 + 1 ≤ _), (by decide : 0 + 7 ≤ _)⟩)
      dsimp only [Pt.U, Pt.locs, Pt.cells, Pt.slots] at X290 l290 y290 z290 st290 hQ290
      subst l290 y290 z290
      obtain ⟨rfl, Nq290, Kq290⟩ := hQ290
      have N291 := Fr.app N0 Nq290
      have f292 := (own_staKeep Sv Kq290 own_sn0)
      have f293 := (Ev.keep Kq290)
      have f294 := (V1.keep Kq290 nin0)
      have f295 := (O0.keep Kq290 nin0)
      have f296 := (O1.keep Kq290 nin0)
      have f297 := (O2.keep Kq290 nin0)
      have f298 := (O3.keep Kq290 nin0)
      have f299 := (O4.keep Kq290 nin0)
      have f300 := (O5.keep Kq290 nin0)
      have f301 := (O6.keep Kq290 nin0)
      have f302 := (own_staKeep S0 Kq290 own_sn0)
      have f303 := (own_staKeep S1 Kq290 own_sn0)
      have f304 := (own_staKeep S2 Kq290 own_sn0)
      have f305 := (own_staKeep S3 Kq290 own_sn0)
      have f306 := (own_staKeep S4 Kq290 own_sn0)
      have f307 := (own_staKeep S5 Kq290 own_sn0)
      have f308 := (own_staKeep S6 Kq290 own_sn0)
      have Z309 : n0 ≤ T290.heap.size := (Nat.le_trans Z0 Kq290.1)
      refine OFin.of (S' := T290.setTop (mkF m 31 #[.val (.int p0), .val (.int p1), .val (.int (1 : Int32)), .val (.int (5 : Int32)), .unset] [(.ref x5)])) (fun t ht => st290 t ht) ?_
      refine OFin.of (S' := T290.setTop (mkF m 36 #[.val (.int p0), .val (.int p1), .val (.int (1 : Int32)), .val (.int (5 : Int32)), .val (.ref x5)] [(.int (5 : Int32)), (.ref x5)])) (fun t ht => ?_) ?_
      · refine XS.astore X290.here hx rfl (hb hby at_31) rfl rfl (l' := #[.val (.int p0), .val (.int p1), .val (.int (1 : Int32)), .val (.int (5 : Int32)), .val (.ref x5)]) rfl ?_
        show Steps p.tables e below (T290.setTop (mkF m 33 #[.val (.int p0), .val (.int p1), .val (.int (1 : Int32)), .val (.int (5 : Int32)), .val (.ref x5)] [])) _
        refine XS.aload X290.here hx rfl (hb hby at_33) rfl rfl ?_
        show Steps p.tables e below (T290.setTop (mkF m 35 _ [(.ref x5)])) _
        refine XS.iloadN X290.here hx rfl (hb hby at_35) rfl ?_
        exact ht
      obtain ⟨_, _, ⟨T310, L310, k310, n310⟩, -, X310, ⟨Lc310, hQ310, l310, y310, z310⟩, st310⟩ := Jvm.LawKit.callS X290 hx (y := (⟨"com/example/querant/querant/exchange/OutcomeOfCodePinLaw", "expected", "(I)Lcom/example/querant/querant/exchange/Exchange$Outcome;"⟩ : MethodName)) hown (mvT hZ (hw _ (List.mem_of_getElem? (i := 28) rfl))) (mvT hZ (hw _ (List.mem_of_getElem? (i := 29) rfl))) (mvT hZ (hw _ (List.mem_of_getElem? (i := 30) rfl))) (mvT hZ (hw _ (List.mem_of_getElem? (i := 31) rfl))) (by decide) (backOf (W := 1) (rmX5 l Z _ hw [] x5 T290.heap n0 Z309 f307) hZ (hw _ (List.mem_of_getElem? (i := 31) rfl)) (hw _ (List.mem_of_getElem? (i := 30) rfl)) (by decide) (by decide)) (g := (mkF m 36 #[.val (.int p0), .val (.int p1), .val (.int (1 : Int32)), .val (.int (5 : Int32)), .val (.ref x5)] [(.int (5 : Int32)), (.ref x5)])) rfl (by rw [hml]; rfl) (argsL := [(.int (5 : Int32))]) (rest := [(.ref x5)]) (lenOf pd_1 rfl) rfl (by show 2 * 0 + _ ≤ _; exact Nat.le_of_eq rfl) (hb hby at_36) (fun _ _ => ⟨rfl, (rfl : T290.heap = T290.heap), (by decide : 1 + 0 ≤ _), (by decide : 7 + 0 ≤ _)⟩)
      dsimp only [Pt.U, Pt.locs, Pt.cells, Pt.slots] at X310 l310 y310 z310 st310 hQ310
      subst l310 y310 z310
      obtain ⟨rfl, Nq310, hs310⟩ := hQ310
      have N311 := Fr.app N291 Nq310
      refine OFin.of (S' := T310.setTop (mkF m 39 #[.val (.int p0), .val (.int p1), .val (.int (1 : Int32)), .val (.int (5 : Int32)), .val (.ref x5)] [(.ref x5), (.ref x5)])) (fun t ht => st310 t ht) ?_
      refine OFin.of (S' := T310.setTop (mkF m 47 #[.val (.int p0), .val (.int p1), .val (.int (1 : Int32)), .val (.int (5 : Int32)), .val (.ref x5)] [(.int (1 : Int32))])) (fun t ht => ?_) ?_
      · refine acmp X310 hx rfl (cd := .ne) (x := (.ref x5)) (y := (.ref x5)) rfl rfl (pc0 := 39) (pc' := 42) (same := true) rfl (hb hby at_39) rfl (decide_eq_true rfl) (by decide) (by decide) ?_
        show Steps p.tables e below (T310.setTop (mkF m 42 _ [])) _
        refine XS.iconst X310.here hx rfl (hb hby at_42) ?_
        show Steps p.tables e below (T310.setTop (mkF m 43 _ [(.int (1 : Int32))])) _
        refine XS.goto X310.here hx rfl (pc0 := 43) (pc' := 47) rfl (hb hby at_43) (by decide) (by decide) ?_
        exact ht
      exact OFin.retB X310 hx hlk (t := .boolean) (by simp) hret (hb hby at_47) (by decide) (by decide) (by rw [hs310]; exact ⟨rfl, N311⟩)
    · rw [show (.int p0 :: [] : List Value) = [.int (6 : Int32)] by rw [hq179]]
      refine OFin.of (S' := s₁.setTop (mkF m 28 #[.val (.int p0), .val (.int p1), .val (.int (1 : Int32)), .val (.int (6 : Int32)), .unset] [(.int (6 : Int32))])) (fun t ht => ?_) ?_
      · refine XS.istoreN X0.here hx rfl (hb hby at_26) rfl (l' := #[.val (.int p0), .val (.int p1), .val (.int (1 : Int32)), .val (.int (6 : Int32)), .unset]) rfl ?_
        show Steps p.tables e below (s₁.setTop (mkF m 27 #[.val (.int p0), .val (.int p1), .val (.int (1 : Int32)), .val (.int (6 : Int32)), .unset] [])) _
        refine XS.iloadN X0.here hx rfl (hb hby at_27) rfl ?_
        exact ht
      obtain ⟨_, _, ⟨T312, L312, k312, n312⟩, -, X312, ⟨Lc312, hQ312, l312, y312, z312⟩, st312⟩ := Jvm.LawKit.callS X0 hx (y := (⟨"com/example/querant/querant/exchange/Exchange$Outcome", "ofCode", "(I)Lcom/example/querant/querant/exchange/Exchange$Outcome;"⟩ : MethodName)) hown (mvT hZ (hw _ (List.mem_of_getElem? (i := 0) rfl))) (mvT hZ (hw _ (List.mem_of_getElem? (i := 1) rfl))) (mvT hZ (hw _ (List.mem_of_getElem? (i := 2) rfl))) (mvT hZ (hw _ (List.mem_of_getElem? (i := 3) rfl))) (by decide) (backOf (W := 0) (rmC6 l Z _ hw [] av k x0 x1 x2 x3 x4 x5 x6 h0 n0 Z0 Sv Ev V1 O0 O1 O2 O3 O4 O5 O6) hZ (hw _ (List.mem_of_getElem? (i := 3) rfl)) (hw _ (List.mem_of_getElem? (i := 2) rfl)) (by decide) (by decide)) (g := (mkF m 28 #[.val (.int p0), .val (.int p1), .val (.int (1 : Int32)), .val (.int (6 : Int32)), .unset] [(.int (6 : Int32))])) rfl (by rw [hml]; rfl) (argsL := [(.int (6 : Int32))]) (rest := []) (lenOf pd_1 rfl) rfl (by show 2 * 0 + _ ≤ _; exact Nat.le_of_eq rfl) (hb hby at_28) (fun _ _ => ⟨rfl, e0, (by decide : 0 + 1 ≤ _), (by decide : 0 + 7 ≤ _)⟩)
      dsimp only [Pt.U, Pt.locs, Pt.cells, Pt.slots] at X312 l312 y312 z312 st312 hQ312
      subst l312 y312 z312
      obtain ⟨rfl, Nq312, Kq312⟩ := hQ312
      have N313 := Fr.app N0 Nq312
      have f314 := (own_staKeep Sv Kq312 own_sn0)
      have f315 := (Ev.keep Kq312)
      have f316 := (V1.keep Kq312 nin0)
      have f317 := (O0.keep Kq312 nin0)
      have f318 := (O1.keep Kq312 nin0)
      have f319 := (O2.keep Kq312 nin0)
      have f320 := (O3.keep Kq312 nin0)
      have f321 := (O4.keep Kq312 nin0)
      have f322 := (O5.keep Kq312 nin0)
      have f323 := (O6.keep Kq312 nin0)
      have f324 := (own_staKeep S0 Kq312 own_sn0)
      have f325 := (own_staKeep S1 Kq312 own_sn0)
      have f326 := (own_staKeep S2 Kq312 own_sn0)
      have f327 := (own_staKeep S3 Kq312 own_sn0)
      have f328 := (own_staKeep S4 Kq312 own_sn0)
      have f329 := (own_staKeep S5 Kq312 own_sn0)
      have f330 := (own_staKeep S6 Kq312 own_sn0)
      have Z331 : n0 ≤ T312.heap.size := (Nat.le_trans Z0 Kq312.1)
      refine OFin.of (S' := T312.setTop (mkF m 31 #[.val (.int p0), .val (.int p1), .val (.int (1 : Int32)), .val (.int (6 : Int32)), .unset] [(.ref x6)])) (fun t ht => st312 t ht) ?_
      refine OFin.of (S' := T312.setTop (mkF m 36 #[.val (.int p0), .val (.int p1), .val (.int (1 : Int32)), .val (.int (6 : Int32)), .val (.ref x6)] [(.int (6 : Int32)), (.ref x6)])) (fun t ht => ?_) ?_
      · refine XS.astore X312.here hx rfl (hb hby at_31) rfl rfl (l' := #[.val (.int p0), .val (.int p1), .val (.int (1 : Int32)), .val (.int (6 : Int32)), .val (.ref x6)]) rfl ?_
        show Steps p.tables e below (T312.setTop (mkF m 33 #[.val (.int p0), .val (.int p1), .val (.int (1 : Int32)), .val (.int (6 : Int32)), .val (.ref x6)] [])) _
        refine XS.aload X312.here hx rfl (hb hby at_33) rfl rfl ?_
        show Steps p.tables e below (T312.setTop (mkF m 35 _ [(.ref x6)])) _
        refine XS.iloadN X312.here hx rfl (hb hby at_35) rfl ?_
        exact ht
      obtain ⟨_, _, ⟨T332, L332, k332, n332⟩, -, X332, ⟨Lc332, hQ332, l332, y332, z332⟩, st332⟩ := Jvm.LawKit.callS X312 hx (y := (⟨"com/example/querant/querant/exchange/OutcomeOfCodePinLaw", "expected", "(I)Lcom/example/querant/querant/exchange/Exchange$Outcome;"⟩ : MethodName)) hown (mvT hZ (hw _ (List.mem_of_getElem? (i := 28) rfl))) (mvT hZ (hw _ (List.mem_of_getElem? (i := 29) rfl))) (mvT hZ (hw _ (List.mem_of_getElem? (i := 30) rfl))) (mvT hZ (hw _ (List.mem_of_getElem? (i := 31) rfl))) (by decide) (backOf (W := 1) (rmX6 l Z _ hw [] x6 T312.heap n0 Z331 f330) hZ (hw _ (List.mem_of_getElem? (i := 31) rfl)) (hw _ (List.mem_of_getElem? (i := 30) rfl)) (by decide) (by decide)) (g := (mkF m 36 #[.val (.int p0), .val (.int p1), .val (.int (1 : Int32)), .val (.int (6 : Int32)), .val (.ref x6)] [(.int (6 : Int32)), (.ref x6)])) rfl (by rw [hml]; rfl) (argsL := [(.int (6 : Int32))]) (rest := [(.ref x6)]) (lenOf pd_1 rfl) rfl (by show 2 * 0 + _ ≤ _; exact Nat.le_of_eq rfl) (hb hby at_36) (fun _ _ => ⟨rfl, (rfl : T312.heap = T312.heap), (by decide : 1 + 0 ≤ _), (by decide : 7 + 0 ≤ _)⟩)
      dsimp only [Pt.U, Pt.locs, Pt.cells, Pt.slots] at X332 l332 y332 z332 st332 hQ332
      subst l332 y332 z332
      obtain ⟨rfl, Nq332, hs332⟩ := hQ332
      have N333 := Fr.app N313 Nq332
      refine OFin.of (S' := T332.setTop (mkF m 39 #[.val (.int p0), .val (.int p1), .val (.int (1 : Int32)), .val (.int (6 : Int32)), .val (.ref x6)] [(.ref x6), (.ref x6)])) (fun t ht => st332 t ht) ?_
      refine OFin.of (S' := T332.setTop (mkF m 47 #[.val (.int p0), .val (.int p1), .val (.int (1 : Int32)), .val (.int (6 : Int32)), .val (.ref x6)] [(.int (1 : Int32))])) (fun t ht => ?_) ?_
      · refine acmp X332 hx rfl (cd := .ne) (x := (.ref x6)) (y := (.ref x6)) rfl rfl (pc0 := 39) (pc' := 42) (same := true) rfl (hb hby at_39) rfl (decide_eq_true rfl) (by decide) (by decide) ?_
        show Steps p.tables e below (T332.setTop (mkF m 42 _ [])) _
        refine XS.iconst X332.here hx rfl (hb hby at_42) ?_
        show Steps p.tables e below (T332.setTop (mkF m 43 _ [(.int (1 : Int32))])) _
        refine XS.goto X332.here hx rfl (pc0 := 43) (pc' := 47) rfl (hb hby at_43) (by decide) (by decide) ?_
        exact ht
      exact OFin.retB X332 hx hlk (t := .boolean) (by simp) hret (hb hby at_47) (by decide) (by decide) (by rw [hs332]; exact ⟨rfl, N333⟩)
    · have hphq179 := hq179
      refine OFin.of (S' := s₁.setTop (mkF m 28 #[.val (.int p0), .val (.int p1), .val (.int (1 : Int32)), .val (.int p0), .unset] [(.int p0)])) (fun t ht => ?_) ?_
      · refine XS.istoreN X0.here hx rfl (hb hby at_26) rfl (l' := #[.val (.int p0), .val (.int p1), .val (.int (1 : Int32)), .val (.int p0), .unset]) rfl ?_
        show Steps p.tables e below (s₁.setTop (mkF m 27 #[.val (.int p0), .val (.int p1), .val (.int (1 : Int32)), .val (.int p0), .unset] [])) _
        refine XS.iloadN X0.here hx rfl (hb hby at_27) rfl ?_
        exact ht
      obtain ⟨_, _, ⟨T334, L334, k334, n334⟩, -, X334, ⟨Lc334, hQ334, l334, y334, z334⟩, st334⟩ := Jvm.LawKit.callS X0 hx (y := (⟨"com/example/querant/querant/exchange/Exchange$Outcome", "ofCode", "(I)Lcom/example/querant/querant/exchange/Exchange$Outcome;"⟩ : MethodName)) hown (mvT hZ (hw _ (List.mem_of_getElem? (i := 0) rfl))) (mvT hZ (hw _ (List.mem_of_getElem? (i := 1) rfl))) (mvT hZ (hw _ (List.mem_of_getElem? (i := 2) rfl))) (mvT hZ (hw _ (List.mem_of_getElem? (i := 3) rfl))) (by decide) (backOf (W := 0) (rmC7 l Z _ hw [] p0 av k x0 x1 x2 x3 x4 x5 x6 h0 n0 Z0 Sv Ev V1 O0 O1 O2 O3 O4 O5 O6 hq179) hZ (hw _ (List.mem_of_getElem? (i := 3) rfl)) (hw _ (List.mem_of_getElem? (i := 2) rfl)) (by decide) (by decide)) (g := (mkF m 28 #[.val (.int p0), .val (.int p1), .val (.int (1 : Int32)), .val (.int p0), .unset] [(.int p0)])) rfl (by rw [hml]; rfl) (argsL := [(.int p0)]) (rest := []) (lenOf pd_1 rfl) rfl (by show 2 * 0 + _ ≤ _; exact Nat.le_of_eq rfl) (hb hby at_28) (fun _ _ => ⟨rfl, e0, (by decide : 0 + 1 ≤ _), (by decide : 0 + 7 ≤ _)⟩)
      dsimp only [Pt.U, Pt.locs, Pt.cells, Pt.slots] at X334 l334 y334 z334 st334 hQ334
      subst l334 y334 z334
      obtain ⟨rfl, Nq334, Kq334⟩ := hQ334
      have N335 := Fr.app N0 Nq334
      have f336 := (own_staKeep Sv Kq334 own_sn0)
      have f337 := (Ev.keep Kq334)
      have f338 := (V1.keep Kq334 nin0)
      have f339 := (O0.keep Kq334 nin0)
      have f340 := (O1.keep Kq334 nin0)
      have f341 := (O2.keep Kq334 nin0)
      have f342 := (O3.keep Kq334 nin0)
      have f343 := (O4.keep Kq334 nin0)
      have f344 := (O5.keep Kq334 nin0)
      have f345 := (O6.keep Kq334 nin0)
      have f346 := (own_staKeep S0 Kq334 own_sn0)
      have f347 := (own_staKeep S1 Kq334 own_sn0)
      have f348 := (own_staKeep S2 Kq334 own_sn0)
      have f349 := (own_staKeep S3 Kq334 own_sn0)
      have f350 := (own_staKeep S4 Kq334 own_sn0)
      have f351 := (own_staKeep S5 Kq334 own_sn0)
      have f352 := (own_staKeep S6 Kq334 own_sn0)
      have Z353 : n0 ≤ T334.heap.size := (Nat.le_trans Z0 Kq334.1)
      refine OFin.of (S' := T334.setTop (mkF m 31 #[.val (.int p0), .val (.int p1), .val (.int (1 : Int32)), .val (.int p0), .unset] [.null])) (fun t ht => st334 t ht) ?_
      refine OFin.of (S' := T334.setTop (mkF m 36 #[.val (.int p0), .val (.int p1), .val (.int (1 : Int32)), .val (.int p0), .val .null] [(.int p0), .null])) (fun t ht => ?_) ?_
      · refine XS.astore X334.here hx rfl (hb hby at_31) rfl rfl (l' := #[.val (.int p0), .val (.int p1), .val (.int (1 : Int32)), .val (.int p0), .val .null]) rfl ?_
        show Steps p.tables e below (T334.setTop (mkF m 33 #[.val (.int p0), .val (.int p1), .val (.int (1 : Int32)), .val (.int p0), .val .null] [])) _
        refine XS.aload X334.here hx rfl (hb hby at_33) rfl rfl ?_
        show Steps p.tables e below (T334.setTop (mkF m 35 _ [.null])) _
        refine XS.iloadN X334.here hx rfl (hb hby at_35) rfl ?_
        exact ht
      obtain ⟨_, _, ⟨T354, L354, k354, n354⟩, -, X354, ⟨Lc354, hQ354, l354, y354, z354⟩, st354⟩ := Jvm.LawKit.callS X334 hx (y := (⟨"com/example/querant/querant/exchange/OutcomeOfCodePinLaw", "expected", "(I)Lcom/example/querant/querant/exchange/Exchange$Outcome;"⟩ : MethodName)) hown (mvT hZ (hw _ (List.mem_of_getElem? (i := 28) rfl))) (mvT hZ (hw _ (List.mem_of_getElem? (i := 29) rfl))) (mvT hZ (hw _ (List.mem_of_getElem? (i := 30) rfl))) (mvT hZ (hw _ (List.mem_of_getElem? (i := 31) rfl))) (by decide) (backOf (W := 1) (rmX7 l Z _ hw [] p0 T334.heap n0 Z353 hq179) hZ (hw _ (List.mem_of_getElem? (i := 31) rfl)) (hw _ (List.mem_of_getElem? (i := 30) rfl)) (by decide) (by decide)) (g := (mkF m 36 #[.val (.int p0), .val (.int p1), .val (.int (1 : Int32)), .val (.int p0), .val .null] [(.int p0), .null])) rfl (by rw [hml]; rfl) (argsL := [(.int p0)]) (rest := [.null]) (lenOf pd_1 rfl) rfl (by show 2 * 0 + _ ≤ _; exact Nat.le_of_eq rfl) (hb hby at_36) (fun _ _ => ⟨rfl, (rfl : T334.heap = T334.heap), (by decide : 1 + 0 ≤ _), (by decide : 7 + 0 ≤ _)⟩)
      dsimp only [Pt.U, Pt.locs, Pt.cells, Pt.slots] at X354 l354 y354 z354 st354 hQ354
      subst l354 y354 z354
      obtain ⟨rfl, Nq354, hs354⟩ := hQ354
      have N355 := Fr.app N335 Nq354
      refine OFin.of (S' := T354.setTop (mkF m 39 #[.val (.int p0), .val (.int p1), .val (.int (1 : Int32)), .val (.int p0), .val .null] [.null, .null])) (fun t ht => st354 t ht) ?_
      refine OFin.of (S' := T354.setTop (mkF m 47 #[.val (.int p0), .val (.int p1), .val (.int (1 : Int32)), .val (.int p0), .val .null] [(.int (1 : Int32))])) (fun t ht => ?_) ?_
      · refine acmp X354 hx rfl (cd := .ne) (x := .null) (y := .null) rfl rfl (pc0 := 39) (pc' := 42) (same := true) rfl (hb hby at_39) rfl (decide_eq_true rfl) (by decide) (by decide) ?_
        show Steps p.tables e below (T354.setTop (mkF m 42 _ [])) _
        refine XS.iconst X354.here hx rfl (hb hby at_42) ?_
        show Steps p.tables e below (T354.setTop (mkF m 43 _ [(.int (1 : Int32))])) _
        refine XS.goto X354.here hx rfl (pc0 := 43) (pc' := 47) rfl (hb hby at_43) (by decide) (by decide) ?_
        exact ht
      exact OFin.retB X354 hx hlk (t := .boolean) (by simp) hret (hb hby at_47) (by decide) (by decide) (by rw [hs354]; exact ⟨rfl, N355⟩)
set_option maxRecDepth 65536 in
set_option maxHeartbeats 40000000 in
theorem comes_1 {Post : Tables → Env → Array Value → State → Outcome → State → Prop} (hpost : ∀ tb e args s v u, (limb_1_1.after args s (.returned v) u = true ∧ limb_1_2.after args s (.returned v) u = true ∧ True) → FrameEnd s (.returned v) u (Jvm.fieldLocs frame_1_writes args s ++ Jvm.arrayLocs frame_1_arrays args s ++ Jvm.staticLocs frame_1_statics s) 16 128 → Post tb e args s (.returned v) u) :
    ArmFor flags0 classFile x code maxLocals ret World_1 tables_1 room_1 Calls_1 rest_1 Pre_1 Post := by
  intro l hfl _ _ p e ha hc hk s m args below hf hA hF happ hP
  obtain ⟨hcalls, hrest, hpre⟩ := hP
  obtain ⟨-, -, -, hnamed, -, -, -, hat⟩ := (Spec.applies_iff hf).mp happ
  obtain ⟨hg, hn⟩ := and_e (Cond.before_iff.mp (show (Jvm.Cond.and given_1 narrow_1).before args s = true from hpre))
  obtain ⟨gg0, hg0⟩ := and_e hg
  obtain ⟨gg1, hg1⟩ := and_e hg0
  obtain ⟨w0, w1, rfl⟩ : ∃ w0 w1 : Value, args = #[w0, w1] := by
    have hs : args.size = 2 := by simpa [Cond.value, given_1] using gg0
    obtain ⟨L⟩ := args
    match L, hs with
    | [w0, w1], _ => exact ⟨w0, w1, rfl⟩
  have hw := fun d (hd : d ∈ tables_1) => atoms_spec (ws := Jvm.Cond.code x code maxLocals ret :: tables_1) hat d (List.mem_cons_of_mem _ hd)
  have hfit : Fit s := fun {y c} hc i hi => by
    obtain ⟨ha, rfl⟩ := Array.getElem?_eq_some_iff.mp hc
    have q := List.all_eq_true.mp ((Array.all_eq_true_iff_forall_mem.mp hF) _ (Array.getElem_mem ha)) i (List.mem_range.mpr hi)
    simpa [Array.getElem?_eq_getElem hi] using q
  obtain ⟨i0, ei0⟩ := is_v gg1
  obtain rfl : w0 = (.int i0) := Option.some.inj ei0
  obtain ⟨i1, ei1⟩ := is_v hg1
  obtain rfl : w1 = (.int i1) := Option.some.inj ei1
  obtain ⟨na0, hn0⟩ := and_e hn
  obtain ⟨na1, hn1⟩ := and_e hn0
  obtain ⟨na2, hn2⟩ := and_e hn1
  obtain ⟨na3, hn3⟩ := and_e hn2
  obtain ⟨na4, hn4⟩ := and_e hn3
  obtain ⟨na5, hn5⟩ := and_e hn4
  obtain ⟨na6, hn6⟩ := and_e hn5
  obtain ⟨na7, hn7⟩ := and_e hn6
  obtain ⟨na8, hn8⟩ := and_e hn7
  obtain ⟨na9, hn9⟩ := and_e hn8
  obtain ⟨na10, hn10⟩ := and_e hn9
  obtain ⟨na11, hn11⟩ := and_e hn10
  obtain ⟨na12, hn12⟩ := and_e hn11
  obtain ⟨na13, hn13⟩ := and_e hn12
  obtain ⟨na14, hn14⟩ := and_e hn13
  obtain ⟨na15, hn15⟩ := and_e hn14
  obtain ⟨na16, hn16⟩ := and_e hn15
  obtain ⟨na17, hn17⟩ := and_e hn16
  obtain ⟨na18, hn18⟩ := and_e hn17
  obtain ⟨na19, hn19⟩ := and_e hn18
  obtain ⟨na20, hn20⟩ := and_e hn19
  obtain ⟨na21, hn21⟩ := and_e hn20
  obtain ⟨na22, hn22⟩ := and_e hn21
  obtain ⟨x_DVALUES, ev_DVALUES⟩ := exa_v na1
  have E_DVALUES := Exa.start ev_DVALUES na1
  have S_DVALUES := Sta.start ev_DVALUES (Or.inr ⟨(hw _ (List.mem_of_getElem? (i := 2) rfl)), (hw _ (List.mem_of_getElem? (i := 8) rfl))⟩)
  obtain ⟨x_NO_QUERY, ev_NO_QUERY⟩ := exa_v na3
  have E_NO_QUERY := Exa.start ev_NO_QUERY na3
  have S_NO_QUERY := Sta.start ev_NO_QUERY (Or.inr ⟨(hw _ (List.mem_of_getElem? (i := 2) rfl)), (hw _ (List.mem_of_getElem? (i := 16) rfl))⟩)
  obtain ⟨x_EXACT, ev_EXACT⟩ := exa_v na5
  have E_EXACT := Exa.start ev_EXACT na5
  have S_EXACT := Sta.start ev_EXACT (Or.inr ⟨(hw _ (List.mem_of_getElem? (i := 2) rfl)), (hw _ (List.mem_of_getElem? (i := 17) rfl))⟩)
  obtain ⟨x_CANDIDATES, ev_CANDIDATES⟩ := exa_v na7
  have E_CANDIDATES := Exa.start ev_CANDIDATES na7
  have S_CANDIDATES := Sta.start ev_CANDIDATES (Or.inr ⟨(hw _ (List.mem_of_getElem? (i := 2) rfl)), (hw _ (List.mem_of_getElem? (i := 18) rfl))⟩)
  obtain ⟨x_TOO_MANY, ev_TOO_MANY⟩ := exa_v na9
  have E_TOO_MANY := Exa.start ev_TOO_MANY na9
  have S_TOO_MANY := Sta.start ev_TOO_MANY (Or.inr ⟨(hw _ (List.mem_of_getElem? (i := 2) rfl)), (hw _ (List.mem_of_getElem? (i := 19) rfl))⟩)
  obtain ⟨x_NOT_FOUND, ev_NOT_FOUND⟩ := exa_v na11
  have E_NOT_FOUND := Exa.start ev_NOT_FOUND na11
  have S_NOT_FOUND := Sta.start ev_NOT_FOUND (Or.inr ⟨(hw _ (List.mem_of_getElem? (i := 2) rfl)), (hw _ (List.mem_of_getElem? (i := 20) rfl))⟩)
  obtain ⟨x_PROTECTED, ev_PROTECTED⟩ := exa_v na13
  have E_PROTECTED := Exa.start ev_PROTECTED na13
  have S_PROTECTED := Sta.start ev_PROTECTED (Or.inr ⟨(hw _ (List.mem_of_getElem? (i := 2) rfl)), (hw _ (List.mem_of_getElem? (i := 21) rfl))⟩)
  obtain ⟨x_ERROR, ev_ERROR⟩ := exa_v na15
  have E_ERROR := Exa.start ev_ERROR na15
  have S_ERROR := Sta.start ev_ERROR (Or.inr ⟨(hw _ (List.mem_of_getElem? (i := 2) rfl)), (hw _ (List.mem_of_getElem? (i := 22) rfl))⟩)
  have O_NO_QUERY := own_fldEq ev_NO_QUERY na17
  have O_EXACT := own_fldEq ev_EXACT na18
  have O_CANDIDATES := own_fldEq ev_CANDIDATES na19
  have O_TOO_MANY := own_fldEq ev_TOO_MANY na20
  have O_NOT_FOUND := own_fldEq ev_NOT_FOUND na21
  have O_PROTECTED := own_fldEq ev_PROTECTED na22
  have O_ERROR := own_fldEq ev_ERROR hn22
  obtain ⟨clv, Av⟩ := Arr.start ev_DVALUES na0
  have lenv := own_len ev_DVALUES Av.1 na2
  have el_NO_QUERY := own_elem ev_DVALUES Av.1 ev_NO_QUERY na4
  have el_EXACT := own_elem ev_DVALUES Av.1 ev_EXACT na6
  have el_CANDIDATES := own_elem ev_DVALUES Av.1 ev_CANDIDATES na8
  have el_TOO_MANY := own_elem ev_DVALUES Av.1 ev_TOO_MANY na10
  have el_NOT_FOUND := own_elem ev_DVALUES Av.1 ev_NOT_FOUND na12
  have el_PROTECTED := own_elem ev_DVALUES Av.1 ev_PROTECTED na14
  have el_ERROR := own_elem ev_DVALUES Av.1 ev_ERROR na16
  have V0 : Arv s s.heap x_DVALUES clv.cls (.object "com/example/querant/querant/exchange/Exchange$Outcome") 7 [(.ref x_NO_QUERY), (.ref x_EXACT), (.ref x_CANDIDATES), (.ref x_TOO_MANY), (.ref x_NOT_FOUND), (.ref x_PROTECTED), (.ref x_ERROR)] .null := Arv.start hfit Av lenv.1 lenv.2 (by decide) rfl ⟨el_NO_QUERY, el_EXACT, el_CANDIDATES, el_TOO_MANY, el_NOT_FOUND, el_PROTECTED, el_ERROR, trivial⟩
  obtain ⟨n, o, h1, h2, h3, _, L, rfl, ⟨rfl, N⟩, hq⟩ := rm0 l s _ hw tables_1 i0 i1 x_DVALUES clv.cls x_NO_QUERY x_EXACT x_CANDIDATES x_TOO_MANY x_NOT_FOUND x_PROTECTED x_ERROR s.heap s.heap.size (Nat.le_refl _) S_DVALUES E_DVALUES V0 O_NO_QUERY O_EXACT O_CANDIDATES O_TOO_MANY O_NOT_FOUND O_PROTECTED O_ERROR S_NO_QUERY S_EXACT S_CANDIDATES S_TOO_MANY S_NOT_FOUND S_PROTECTED S_ERROR p e ha hc hk s m _ below hf ((Spec.applies_iff_loose hf).mp happ).1 ⟨rfl, State.Warmed39.refl s, rfl⟩ trivial
  refine ⟨n, _, h1, h2, h3, hpost _ _ _ _ _ _ ⟨Cond.after_iff.mpr rfl, Cond.after_iff.mpr (eq_i res_at (Term.int_eval (1)) rfl), trivial⟩ ⟨hq.1, hq.2.1, (hq.2.2.sift fun y hy => Or.inr (N y hy)).mono (by decide) (by decide)⟩⟩
theorem main_1_1 : Claimed_1_1 := comes_1 fun _ _ _ _ _ _ h hF => ⟨h.1, hF⟩
theorem main_1_2 : Claimed_1_2 := comes_1 fun _ _ _ _ _ _ h hF => ⟨h.2.1, hF⟩
end Jvm.Pilot.@@N@@
namespace Jvm.Pilot.@@N@@
open Jvm Jvm.ClassFile Sem Op Lib Jvm.Free Jvm.Stand Jvm.Pilot.@@N@@.Jvm.D
/-! MADE BY PROGRAM (witnessworld.py) out of the Statement's table words and the real class files: 13 classes; the members and pool entries that the words name. The judged class is class 1, her method 2. -/
namespace start1
open Jvm.ClassFile
def u (s : String) : CpInfo := .utf8 (stringToUtf16 s)
/-- a pool by its gaps: so many unusable entries, then the entry; so many at the end -/
def gap : Nat → List CpInfo → List CpInfo
  | 0, r => r
  | n + 1, r => .unusable :: gap n r
def poolList (es : List (Nat × CpInfo)) (last : Nat) : List CpInfo := es.foldr (fun e r => gap e.1 (e.2 :: r)) (gap last [])
def pool (es : List (Nat × CpInfo)) (last : Nat) : Array CpInfo := ⟨poolList es last⟩
def fileOf (pool : Array CpInfo) (this : Nat) (attrs : Array Attribute := #[]) (ms : Array MethodInfo := #[]) (fl : Nat := 33) (sup : Nat := 0) (ifs : Array Nat := #[]) (fds : Array FieldInfo := #[]) : ClassFile where
  minorVersion := 0
  majorVersion := 65
  constantPool := pool
  accessFlags := fl
  thisClass := this
  superClass := sup
  interfaces := ifs
  fields := fds
  methods := ms
  attributes := attrs
def plain (name : String) (sup : Option ClassId) : Class where
  name := name
  kind := .ordinary
  loader := none
  accessFlags := 33
  super := sup
  interfaces := #[]
  cf := none
  fields := #[]
  methods := #[]
  instanceTypes := #[]
  staticTypes := #[]
  resolved := #[]
  callSites := []
  init := .initialized
  statics := none
  mirror := none

def pool0 : Array CpInfo := pool [(5, u "<init>"), (0, u "()V"), (1, .class_ 10), (1, u "java/lang/Object"), (85, u "clone"), (0, u "()Ljava/lang/Object;")] 26

def k0m0 : Method := { name := "<init>", desc := "()V", sig := { parameters := [], returnType := none }, accessFlags := 1, code := none }
def k0m1 : Method := { name := "clone", desc := "()Ljava/lang/Object;", sig := { parameters := [], returnType := some (.object "java/lang/Object") }, accessFlags := 260, code := none }
/-- java/lang/Object -/
def k0 : Class := { plain "java/lang/Object" none with
  accessFlags := 33
  interfaces := #[]
  cf := some (fileOf pool0 8 #[] #[{ accessFlags := 1, nameIndex := 5, descriptorIndex := 6, attributes := #[] }, { accessFlags := 260, nameIndex := 96, descriptorIndex := 97, attributes := #[] }] 33 0 #[] #[])
  fields := #[]
  methods := #[k0m0, k0m1]
  instanceTypes := #[]
  staticTypes := #[]
  resolved := Array.replicate 124 none
  statics := none }

def pool1 : Array CpInfo := pool [(2, .class_ 4), (1, u "java/lang/Object"), (0, u "<init>"), (0, u "()V"), (0, .fieldref 8 9), (0, .class_ 10), (0, .nameAndType 11 12), (0, u "com/example/querant/querant/exchange/Exchange$Outcome"), (0, u "NO_QUERY"), (0, u "Lcom/example/querant/querant/exchange/Exchange$Outcome;"), (0, .fieldref 8 14), (0, .nameAndType 15 12), (0, u "EXACT"), (0, .fieldref 8 17), (0, .nameAndType 18 12), (0, u "CANDIDATES"), (0, .fieldref 8 20), (0, .nameAndType 21 12), (0, u "TOO_MANY"), (0, .fieldref 8 23), (0, .nameAndType 24 12), (0, u "NOT_FOUND"), (0, .fieldref 8 26), (0, .nameAndType 27 12), (0, u "PROTECTED"), (0, .fieldref 8 29), (0, .nameAndType 30 12), (0, u "ERROR"), (0, .methodref 8 32), (0, .nameAndType 33 34), (0, u "ofCode"), (0, u "(I)Lcom/example/querant/querant/exchange/Exchange$Outcome;"), (0, .methodref 36 37), (0, .class_ 38), (0, .nameAndType 39 34), (0, u "com/example/querant/querant/exchange/OutcomeOfCodePinLaw"), (0, u "expected"), (3, u "law"), (0, u "(II)Z")] 6

def k1m0 : Method := { name := "<init>", desc := "()V", sig := { parameters := [], returnType := none }, accessFlags := 1, code := none }
def k1c1 : Code := { maxStack := 2, maxLocals := 1, code := method_2_code, exceptionTable := #[], attributes := #[] }
def k1m1 : Method := { name := "expected", desc := "(I)Lcom/example/querant/querant/exchange/Exchange$Outcome;", sig := { parameters := [.int], returnType := some (.object "com/example/querant/querant/exchange/Exchange$Outcome") }, accessFlags := 10, code := some k1c1 }
def k1c2 : Code := { maxStack := 2, maxLocals := 5, code := code, exceptionTable := #[], attributes := #[] }
def k1m2 : Method := { name := "law", desc := "(II)Z", sig := { parameters := [.int, .int], returnType := some .boolean }, accessFlags := 9, code := some k1c2 }
/-- com/example/querant/querant/exchange/OutcomeOfCodePinLaw -/
def k1 : Class := { plain "com/example/querant/querant/exchange/OutcomeOfCodePinLaw" (some 0) with
  accessFlags := 49
  interfaces := #[]
  cf := some (fileOf pool1 36 #[] #[{ accessFlags := 1, nameIndex := 5, descriptorIndex := 6, attributes := #[] }, { accessFlags := 10, nameIndex := 39, descriptorIndex := 34, attributes := #[] }, { accessFlags := 9, nameIndex := 43, descriptorIndex := 44, attributes := #[] }] 49 2 #[] #[])
  fields := #[]
  methods := #[k1m0, k1m1, k1m2]
  instanceTypes := #[]
  staticTypes := #[]
  resolved := Array.replicate 51 none
  statics := none }

def pool2 : Array CpInfo := pool [(1, .class_ 2), (0, u "java/lang/constant/Constable"), (0, .class_ 4), (0, u "java/lang/Object")] 6

/-- java/lang/constant/Constable -/
def k2 : Class := { plain "java/lang/constant/Constable" (some 0) with
  accessFlags := 1537
  interfaces := #[]
  cf := some (fileOf pool2 1 #[] #[] 1537 3 #[] #[])
  fields := #[]
  methods := #[]
  instanceTypes := #[]
  staticTypes := #[]
  resolved := Array.replicate 11 none
  statics := none }

def pool3 : Array CpInfo := pool [(1, .class_ 2), (0, u "java/lang/Comparable"), (0, .class_ 4), (0, u "java/lang/Object")] 7

/-- java/lang/Comparable -/
def k3 : Class := { plain "java/lang/Comparable" (some 0) with
  accessFlags := 1537
  interfaces := #[]
  cf := some (fileOf pool3 1 #[] #[] 1537 3 #[] #[])
  fields := #[]
  methods := #[]
  instanceTypes := #[]
  staticTypes := #[]
  resolved := Array.replicate 12 none
  statics := none }

def pool4 : Array CpInfo := pool [(1, .class_ 2), (0, u "java/io/Serializable"), (0, .class_ 4), (0, u "java/lang/Object")] 2

/-- java/io/Serializable -/
def k4 : Class := { plain "java/io/Serializable" (some 0) with
  accessFlags := 1537
  interfaces := #[]
  cf := some (fileOf pool4 1 #[] #[] 1537 3 #[] #[])
  fields := #[]
  methods := #[]
  instanceTypes := #[]
  staticTypes := #[]
  resolved := Array.replicate 7 none
  statics := none }

def pool5 : Array CpInfo := pool [(2, .class_ 4), (1, u "java/lang/Enum"), (0, u "name"), (0, u "Ljava/lang/String;"), (2, u "ordinal"), (0, u "I"), (1, .class_ 14), (1, u "java/lang/Object"), (4, u "hash"), (86, .class_ 108), (1, u "java/lang/Enum$EnumDesc"), (2, .class_ 112), (0, u "java/lang/constant/Constable"), (0, .class_ 114), (0, u "java/lang/Comparable"), (0, .class_ 116), (0, u "java/io/Serializable")] 87

/-- java/lang/Enum -/
def k5 : Class := { plain "java/lang/Enum" (some 0) with
  accessFlags := 1057
  interfaces := #[2, 3, 4]
  cf := some (fileOf pool5 2 #[.nestMembers #[106]] #[] 1057 12 #[111, 113, 115] #[{ accessFlags := 18, nameIndex := 5, descriptorIndex := 6, attributes := #[] }, { accessFlags := 18, nameIndex := 9, descriptorIndex := 10, attributes := #[] }, { accessFlags := 2, nameIndex := 19, descriptorIndex := 10, attributes := #[] }])
  fields := #[{ name := "name", type := (.object "java/lang/String"), accessFlags := 18, slot := 0, constantValue := 0 }, { name := "ordinal", type := .int, accessFlags := 18, slot := 1, constantValue := 0 }, { name := "hash", type := .int, accessFlags := 2, slot := 2, constantValue := 0 }]
  methods := #[]
  instanceTypes := #[(.object "java/lang/String"), .int, .int]
  staticTypes := #[]
  resolved := Array.replicate 204 none
  statics := none }

def pool6 : Array CpInfo := pool [(1, .class_ 2), (0, u "com/example/querant/querant/exchange/Exchange$Outcome"), (2, u "NO_QUERY"), (0, u "Lcom/example/querant/querant/exchange/Exchange$Outcome;"), (2, u "EXACT"), (2, u "CANDIDATES"), (2, u "TOO_MANY"), (2, u "NOT_FOUND"), (2, u "PROTECTED"), (2, u "ERROR"), (0, .fieldref 1 26), (0, .nameAndType 27 28), (0, u "$VALUES"), (0, u "[Lcom/example/querant/querant/exchange/Exchange$Outcome;"), (0, .methodref 30 31), (0, .class_ 28), (0, .nameAndType 32 33), (0, u "clone"), (0, u "()Ljava/lang/Object;"), (1, .class_ 37), (1, u "java/lang/Enum"), (6, .fieldref 1 45), (0, .nameAndType 46 47), (0, u "code"), (0, u "I"), (0, .methodref 1 49), (0, .nameAndType 50 51), (0, u "values"), (0, u "()[Lcom/example/querant/querant/exchange/Exchange$Outcome;"), (20, u "ofCode"), (0, u "(I)Lcom/example/querant/querant/exchange/Exchange$Outcome;"), (7, .class_ 82), (0, u "com/example/querant/querant/exchange/Exchange")] 2

def k6c0 : Code := { maxStack := 1, maxLocals := 0, code := prog_3_method_1_code, exceptionTable := #[], attributes := #[] }
def k6m0 : Method := { name := "values", desc := "()[Lcom/example/querant/querant/exchange/Exchange$Outcome;", sig := { parameters := [], returnType := some (.array (.object "com/example/querant/querant/exchange/Exchange$Outcome")) }, accessFlags := 9, code := some k6c0 }
def k6c1 : Code := { maxStack := 2, maxLocals := 5, code := prog_3_method_5_code, exceptionTable := #[], attributes := #[] }
def k6m1 : Method := { name := "ofCode", desc := "(I)Lcom/example/querant/querant/exchange/Exchange$Outcome;", sig := { parameters := [.int], returnType := some (.object "com/example/querant/querant/exchange/Exchange$Outcome") }, accessFlags := 8, code := some k6c1 }
/-- com/example/querant/querant/exchange/Exchange$Outcome -/
def k6 : Class := { plain "com/example/querant/querant/exchange/Exchange$Outcome" (some 5) with
  accessFlags := 16433
  interfaces := #[]
  cf := some (fileOf pool6 1 #[.nestHost 81] #[{ accessFlags := 9, nameIndex := 50, descriptorIndex := 51, attributes := #[] }, { accessFlags := 8, nameIndex := 72, descriptorIndex := 73, attributes := #[] }] 16433 35 #[] #[{ accessFlags := 16409, nameIndex := 5, descriptorIndex := 6, attributes := #[] }, { accessFlags := 16409, nameIndex := 9, descriptorIndex := 6, attributes := #[] }, { accessFlags := 16409, nameIndex := 12, descriptorIndex := 6, attributes := #[] }, { accessFlags := 16409, nameIndex := 15, descriptorIndex := 6, attributes := #[] }, { accessFlags := 16409, nameIndex := 18, descriptorIndex := 6, attributes := #[] }, { accessFlags := 16409, nameIndex := 21, descriptorIndex := 6, attributes := #[] }, { accessFlags := 16409, nameIndex := 24, descriptorIndex := 6, attributes := #[] }, { accessFlags := 18, nameIndex := 46, descriptorIndex := 47, attributes := #[] }, { accessFlags := 4122, nameIndex := 27, descriptorIndex := 28, attributes := #[] }])
  fields := #[{ name := "NO_QUERY", type := (.object "com/example/querant/querant/exchange/Exchange$Outcome"), accessFlags := 16409, slot := 0, constantValue := 0 }, { name := "EXACT", type := (.object "com/example/querant/querant/exchange/Exchange$Outcome"), accessFlags := 16409, slot := 1, constantValue := 0 }, { name := "CANDIDATES", type := (.object "com/example/querant/querant/exchange/Exchange$Outcome"), accessFlags := 16409, slot := 2, constantValue := 0 }, { name := "TOO_MANY", type := (.object "com/example/querant/querant/exchange/Exchange$Outcome"), accessFlags := 16409, slot := 3, constantValue := 0 }, { name := "NOT_FOUND", type := (.object "com/example/querant/querant/exchange/Exchange$Outcome"), accessFlags := 16409, slot := 4, constantValue := 0 }, { name := "PROTECTED", type := (.object "com/example/querant/querant/exchange/Exchange$Outcome"), accessFlags := 16409, slot := 5, constantValue := 0 }, { name := "ERROR", type := (.object "com/example/querant/querant/exchange/Exchange$Outcome"), accessFlags := 16409, slot := 6, constantValue := 0 }, { name := "code", type := .int, accessFlags := 18, slot := 3, constantValue := 0 }, { name := "$VALUES", type := (.array (.object "com/example/querant/querant/exchange/Exchange$Outcome")), accessFlags := 4122, slot := 7, constantValue := 0 }]
  methods := #[k6m0, k6m1]
  instanceTypes := #[(.object "java/lang/String"), .int, .int, .int]
  staticTypes := #[(.object "com/example/querant/querant/exchange/Exchange$Outcome"), (.object "com/example/querant/querant/exchange/Exchange$Outcome"), (.object "com/example/querant/querant/exchange/Exchange$Outcome"), (.object "com/example/querant/querant/exchange/Exchange$Outcome"), (.object "com/example/querant/querant/exchange/Exchange$Outcome"), (.object "com/example/querant/querant/exchange/Exchange$Outcome"), (.object "com/example/querant/querant/exchange/Exchange$Outcome"), (.array (.object "com/example/querant/querant/exchange/Exchange$Outcome"))]
  resolved := Array.replicate 85 none
  statics := some 0 }

def pool7 : Array CpInfo := pool [(1, .class_ 2), (0, u "java/lang/Cloneable"), (0, .class_ 4), (0, u "java/lang/Object")] 2

/-- java/lang/Cloneable -/
def k7 : Class := { plain "java/lang/Cloneable" (some 0) with
  accessFlags := 1537
  interfaces := #[]
  cf := some (fileOf pool7 1 #[] #[] 1537 3 #[] #[])
  fields := #[]
  methods := #[]
  instanceTypes := #[]
  staticTypes := #[]
  resolved := Array.replicate 7 none
  statics := none }

/-- the primitive byte -/
def k8 : Class := { plain "byte" none with kind := .primitive 'B', accessFlags := 0x411 }
/-- [B -/
def k9 : Class := { plain "[B" (some 0) with kind := .array 8 .byte, interfaces := #[7, 4], accessFlags := 1041 }

/-- the primitive int -/
def k10 : Class := { plain "int" none with kind := .primitive 'I', accessFlags := 0x411 }
/-- [I -/
def k11 : Class := { plain "[I" (some 0) with kind := .array 10 .int, interfaces := #[7, 4], accessFlags := 1041 }

/-- [Lcom/example/querant/querant/exchange/Exchange$Outcome; -/
def k12 : Class := { plain "[Lcom/example/querant/querant/exchange/Exchange$Outcome;" (some 0) with kind := .array 6 (.object "com/example/querant/querant/exchange/Exchange$Outcome"), interfaces := #[7, 4], accessFlags := 1041 }

def heap : Heap := #[{ cls := 6, slots := #[.ref 2, .ref 3, .ref 4, .ref 5, .ref 6, .ref 7, .ref 8, .ref 1], vm := .statics 6 },
  { cls := 12, slots := #[.ref 2, .ref 3, .ref 4, .ref 5, .ref 6, .ref 7, .ref 8], vm := .none },
  { cls := 6, slots := #[.null, .int 0, .int 0, .int 0], vm := .none },
  { cls := 6, slots := #[.null, .int 0, .int 0, .int 1], vm := .none },
  { cls := 6, slots := #[.null, .int 0, .int 0, .int 2], vm := .none },
  { cls := 6, slots := #[.null, .int 0, .int 0, .int 3], vm := .none },
  { cls := 6, slots := #[.null, .int 0, .int 0, .int 4], vm := .none },
  { cls := 6, slots := #[.null, .int 0, .int 0, .int 5], vm := .none },
  { cls := 6, slots := #[.null, .int 0, .int 0, .int 6], vm := .none }]
def classes : Array Class := #[k0, k1, k2, k3, k4, k5, k6, k7, k8, k9, k10, k11, k12]
def interned : List (Array UInt16 × Addr) := []
def slotsUsed : Nat := 43
def theMethod : MethodId := ⟨1, 2⟩
def args0 : Array Value := #[.int 5, .int 5]
def aboutOver (below : List Frame) : State where
  vm := { classes := classes, interned := interned.toArray }
  heap := heap
  slotsUsed := slotsUsed
  threads := #[{ frames := .invoking theMethod args0 :: below }]
def below0 : List Frame := [.native { method := ⟨0, 0⟩, args := #[] }]
def about1 : State := aboutOver below0
def p0 : Program := .bare "" "" ""
def e0 : Env := launch0.env 0 0 0
theorem w_frames : about1.frames = Frame.invoking theMethod args0 :: below0 := rfl
set_option maxRecDepth 65536 in
theorem w_args : argsFit about1.vm theMethod args0 = true := by decide +kernel
set_option maxRecDepth 65536 in
theorem w_heap : heapFits about1 = true := by decide +kernel
set_option maxRecDepth 65536 in
theorem w_runnable : about1.curStatus? = some .runnable := by decide +kernel
set_option maxRecDepth 65536 in
theorem w_alone : about1.alone = true := by decide +kernel
set_option maxRecDepth 65536 in
theorem w_named : about1.methodNamed? x = some theMethod := by decide +kernel
set_option maxRecDepth 65536 in
theorem w_hears : about1.hears theMethod below0 = true := by decide +kernel
set_option maxRecDepth 65536 in
theorem w_ripe : about1.ripe theMethod args0 below0 = true := by decide +kernel
theorem w_running : about1.status = .running := rfl
set_option maxRecDepth 65536 in
theorem w_room : about1.hasRoom e0.platform room_1 = true :=
  launch0.hasRoom_least _ room_1 (by decide +kernel) (by decide +kernel) (by decide +kernel) (by decide +kernel) (by decide +kernel) (by decide +kernel)
theorem allAtoms_all (ts : List Jvm.Cond) (a : Array Jvm.Value) (st : Jvm.State) : (allAtoms ts).before a st = ts.all (fun c => c.before a st) := by
  induction ts with
  | nil => rfl
  | cons c t ih =>
    show (Jvm.Cond.and c (allAtoms t)).before a st = _
    rw [Jvm.Cond.before_and, ih, List.all_cons]
def words1 : List Jvm.Cond := Jvm.Cond.code x code maxLocals ret :: tables_1
/-- a 'code' word, met by the world's own term for the bytes: nothing is compared byte by byte -/
theorem code_word {y : MethodName} {bytes : ByteArray} {mx : Nat} {rt : Option FieldType} {a : Array Value} {s : State} {m : MethodId} {meth : Method} {c : Code} (h1 : s.methodNamed? y = some m) (h2 : s.vm.method? m = some meth) (h3 : meth.code = some c) (h4 : c.code = bytes)
    (h5 : (c.maxLocals == mx && c.exceptionTable.isEmpty && decide (c.maxStack ≤ mostOperands) && decide (meth.sig.returnType = rt) && !meth.locks && decide (parseMethodDescriptor y.desc = some meth.sig)) = true) : (Jvm.Cond.code y bytes mx rt).before a s = true := by
  simp only [Bool.and_eq_true, beq_iff_eq, Bool.not_eq_true', decide_eq_true_eq] at h5
  obtain ⟨⟨⟨⟨⟨g1, g2⟩, g3⟩, g4⟩, g5⟩, g6⟩ := h5
  simp [Cond.before, Cond.holds, Cond.value, h1, h2, h3, h4, g1, g2, g3, g4, g5, g6]
def isCode : Jvm.Cond → Bool
  | .code _ _ _ _ => true
  | _ => false
theorem all_split {L : List Jvm.Cond} {P : Jvm.Cond → Bool} (h1 : L.all (fun c => isCode c || P c) = true) (h2 : ∀ c ∈ L.filter isCode, P c = true) : L.all P = true := by
  refine List.all_eq_true.mpr fun c hc => ?_
  have h := List.all_eq_true.mp h1 c hc
  rcases Bool.eq_false_or_eq_true (isCode c) with hi | hi
  · exact h2 c (List.mem_filter.mpr ⟨hc, hi⟩)
  · simpa [hi] using h
set_option maxRecDepth 65536 in
theorem w_c0 : (Jvm.Cond.code x code maxLocals ret).before args0 about1 = true := code_word (m := ⟨1, 2⟩) (meth := k1m2) (c := k1c2) (by decide +kernel) rfl rfl rfl (by decide +kernel)
set_option maxRecDepth 65536 in
theorem w_c1 : (Jvm.Cond.code ({ cls := "com/example/querant/querant/exchange/Exchange$Outcome", name := "ofCode", desc := "(I)Lcom/example/querant/querant/exchange/Exchange$Outcome;" } : Jvm.MethodName) prog_3_method_5_code (5 : Nat) (Option.some (Jvm.ClassFile.FieldType.object "com/example/querant/querant/exchange/Exchange$Outcome"))).before args0 about1 = true := code_word (m := ⟨6, 1⟩) (meth := k6m1) (c := k6c1) (by decide +kernel) rfl rfl rfl (by decide +kernel)
set_option maxRecDepth 65536 in
theorem w_c2 : (Jvm.Cond.code ({ cls := "com/example/querant/querant/exchange/Exchange$Outcome", name := "values", desc := "()[Lcom/example/querant/querant/exchange/Exchange$Outcome;" } : Jvm.MethodName) prog_3_method_1_code (0 : Nat) (Option.some (Jvm.ClassFile.FieldType.array (Jvm.ClassFile.FieldType.object "com/example/querant/querant/exchange/Exchange$Outcome")))).before args0 about1 = true := code_word (m := ⟨6, 0⟩) (meth := k6m0) (c := k6c0) (by decide +kernel) rfl rfl rfl (by decide +kernel)
set_option maxRecDepth 65536 in
theorem w_c3 : (Jvm.Cond.code ({ cls := "com/example/querant/querant/exchange/OutcomeOfCodePinLaw", name := "expected", desc := "(I)Lcom/example/querant/querant/exchange/Exchange$Outcome;" } : Jvm.MethodName) method_2_code (1 : Nat) (Option.some (Jvm.ClassFile.FieldType.object "com/example/querant/querant/exchange/Exchange$Outcome"))).before args0 about1 = true := code_word (m := ⟨1, 1⟩) (meth := k1m1) (c := k1c1) (by decide +kernel) rfl rfl rfl (by decide +kernel)
def codes1 : List Jvm.Cond := [Jvm.Cond.code x code maxLocals ret, Jvm.Cond.code ({ cls := "com/example/querant/querant/exchange/Exchange$Outcome", name := "ofCode", desc := "(I)Lcom/example/querant/querant/exchange/Exchange$Outcome;" } : Jvm.MethodName) prog_3_method_5_code (5 : Nat) (Option.some (Jvm.ClassFile.FieldType.object "com/example/querant/querant/exchange/Exchange$Outcome")), Jvm.Cond.code ({ cls := "com/example/querant/querant/exchange/Exchange$Outcome", name := "values", desc := "()[Lcom/example/querant/querant/exchange/Exchange$Outcome;" } : Jvm.MethodName) prog_3_method_1_code (0 : Nat) (Option.some (Jvm.ClassFile.FieldType.array (Jvm.ClassFile.FieldType.object "com/example/querant/querant/exchange/Exchange$Outcome"))), Jvm.Cond.code ({ cls := "com/example/querant/querant/exchange/OutcomeOfCodePinLaw", name := "expected", desc := "(I)Lcom/example/querant/querant/exchange/Exchange$Outcome;" } : Jvm.MethodName) method_2_code (1 : Nat) (Option.some (Jvm.ClassFile.FieldType.object "com/example/querant/querant/exchange/Exchange$Outcome"))]
set_option maxRecDepth 65536 in
theorem codes_eq : words1.filter isCode = codes1 := rfl
theorem w_codes : ∀ c ∈ words1.filter isCode, c.before args0 about1 = true := by
  rw [codes_eq]
  intro c hc
  simp only [codes1, List.mem_cons, List.not_mem_nil, or_false] at hc
  rcases hc with rfl | rfl | rfl | rfl
  · exact w_c0
  · exact w_c1
  · exact w_c2
  · exact w_c3
set_option maxRecDepth 65536 in
theorem w_t1 : (words1.take 24).all (fun c => isCode c || c.before args0 about1) = true := by decide +kernel
set_option maxRecDepth 65536 in
theorem w_t2 : (words1.drop 24).all (fun c => isCode c || c.before args0 about1) = true := by decide +kernel
theorem w_tables : (allAtoms (Jvm.Cond.code x code maxLocals ret :: tables_1)).before args0 about1 = true := by
  rw [allAtoms_all]
  show words1.all (fun c => c.before args0 about1) = true
  refine all_split ?_ w_codes
  rw [← List.take_append_drop 24 words1, List.all_append, w_t1, w_t2]
  rfl
set_option maxRecDepth 65536 in
theorem w_case : (Jvm.Cond.and given_1 narrow_1).before args0 about1 = true := by decide +kernel
theorem w_applies : (headSpec (Jvm.Cond.code x code maxLocals ret :: tables_1) room_1).applies x e0.platform about1 = true :=
  (Spec.applies_iff w_frames).mpr ⟨w_running, w_runnable, w_alone, w_named, w_hears, w_ripe, w_room, w_tables⟩
theorem atStart : AtStart classFile x code maxLocals ret World_1 tables_1 room_1 Calls_1 rest_1 Pre_1 launch0 p0 e0 about1 theMethod args0 below0 :=
  ⟨lists_1, trivial, launch0.admits_env _ _ _, launch0.least_env, fairChoices_fair.cas, fairChoices_fair.clock, w_frames, w_args, w_heap, w_applies, trivial, trivial, w_case⟩
end start1
theorem witness_1 : WitnessClaimed_1 := ⟨start1.p0, start1.e0, start1.about1, start1.theMethod, start1.args0, start1.below0, start1.atStart⟩
end Jvm.Pilot.@@N@@
