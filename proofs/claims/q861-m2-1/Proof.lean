import JvmDerived
import JvmDerived.Pilot.@@N@@Statement
import JvmDerived.Pilot.@@N@@Code
set_option linter.unusedVariables false
set_option linter.unusedSimpArgs false
namespace Jvm.RoadKit
open Sem ClassFile Op Lib Jvm.Stand Jvm.Free Jvm.LawKit
section OwnNew
variable {p : Program} {l : Launch} {e : Env} {R : Room} {s : State} {m : MethodId} {args : Array Value} {below : List Frame} {meth : Method} {c : Code} {T : State} {locs : List Loc} {cells slots : Nat}
theorem retI (X : Stand p l e R s m args below meth c T locs cells slots) (hx : p.tables.exec = Jvm.exec) {pc : Nat} {Ls : Array Slot} {z : Int32} {rest : List Value} (hret : meth.sig.returnType = some .int) (hd : decode c.code pc = .ok (.ireturn, 1)) {fs : List Frame}
    (hl : ∀ (f : JFrame) (acts : List Action), f.method = m → f.locked = none → f.entered = [] → (doReturn e (T.setTop f) acts (some (.int z))).1 = T.setFrames fs) : Steps p.tables e below (T.setTop (mkF m pc Ls (.int z :: rest))) (T.setFrames fs) := by
  have hm' : T.vm.method? m = some meth := X.method'
  have hn : narrow .int (.int z) = .int z := rfl
  show Steps p.tables e below (T.setTop { method := m, pc := pc, locals := Ls, stack := _ :: rest, locked := none }) _
  jvm_step X.here [X.here.top, hx, hd, hm', hret, hn]
  first | (intro acts; rw [hl _ acts rfl rfl rfl]) | rw [hl _ _ rfl rfl rfl]
  exact Steps.refl _
/-- from S the run comes to an end of this invocation at which K holds -/
def OFin (p : Program) (e : Env) (below : List Frame) (K : Outcome → State → Prop) (S : State) : Prop := ∃ s₂ o, Steps p.tables e below S s₂ ∧ s₂.status = .running ∧ Ended s₂ below o ∧ K o s₂
theorem OFin.of {K : Outcome → State → Prop} {S S' : State} (h : ∀ t, Steps p.tables e below S' t → Steps p.tables e below S t) (k : OFin p e below K S') : OFin p e below K S := by
  obtain ⟨t, o, a, b⟩ := k; exact ⟨t, o, h t a, b⟩
theorem OFin.to {K : Outcome → State → Prop} {S S' : State} (h : Steps p.tables e below S S') (k : OFin p e below K S') : OFin p e below K S := by
  obtain ⟨t, o, a, b⟩ := k; exact ⟨t, o, h.trans a, b⟩
abbrev KPost (s : State) (Q : Option Value → Heap → List Loc → Prop) (C D : Nat) : Outcome → State → Prop := fun o U' => ∃ v L, o = .returned v ∧ Q v U'.heap L ∧ FrameEnd s o U' L C D
theorem OFin.retI (X : Stand p l e R s m args below meth c T locs cells slots) (hx : p.tables.exec = Jvm.exec) (hlk : meth.locks = false) {pc : Nat} {Ls : Array Slot} {z : Int32} {rest : List Value} {Q : Option Value → Heap → List Loc → Prop} {C D : Nat} (hret : meth.sig.returnType = some .int) (hd : decode c.code pc = .ok (.ireturn, 1)) (hC : cells ≤ C) (hD : slots ≤ D) (hQ : Q (some (.int z)) T.heap locs) :
    OFin p e below (KPost s Q C D) (T.setTop (mkF m pc Ls (.int z :: rest))) := by
  obtain ⟨fs, hr, hrun, hended, hW, hsame⟩ := X.leave (v := some (.int z)) (fun h => by rw [hret] at h; cases h) hlk
  exact ⟨_, _, Jvm.RoadKit.retI X hx hret hd hr, hrun, hended, _, _, rfl, hQ, ⟨_, rfl⟩, hW, hsame.mono hC hD⟩
theorem OFin.retB (X : Stand p l e R s m args below meth c T locs cells slots) (hx : p.tables.exec = Jvm.exec) (hlk : meth.locks = false) {pc : Nat} {Ls : Array Slot} {z : Int32} {rest : List Value} {Q : Option Value → Heap → List Loc → Prop} {C D : Nat} {t : FieldType} (ht : t = .boolean ∨ t = .byte ∨ t = .char ∨ t = .short) (hret : meth.sig.returnType = some t) (hd : decode c.code pc = .ok (.ireturn, 1)) (hC : cells ≤ C) (hD : slots ≤ D) (hQ : Q (some (.int (nar t z))) T.heap locs) :
    OFin p e below (KPost s Q C D) (T.setTop (mkF m pc Ls (.int z :: rest))) := by
  obtain ⟨fs, hr, hrun, hended, hW, hsame⟩ := X.leave (v := some (.int (nar t z))) (fun h => by rw [hret] at h; cases h) hlk
  exact ⟨_, _, retN X hx hret ht hd hr, hrun, hended, _, _, rfl, hQ, ⟨_, rfl⟩, hW, hsame.mono hC hD⟩
theorem OFin.retJ (X : Stand p l e R s m args below meth c T locs cells slots) (hx : p.tables.exec = Jvm.exec) (hlk : meth.locks = false) {pc : Nat} {Ls : Array Slot} {z : Int64} {Q : Option Value → Heap → List Loc → Prop} {C D : Nat} (hret : meth.sig.returnType = some .long) (hd : decode c.code pc = .ok (.lreturn, 1)) (hC : cells ≤ C) (hD : slots ≤ D) (hQ : Q (some (.long z)) T.heap locs) :
    OFin p e below (KPost s Q C D) (T.setTop (mkF m pc Ls [.long z])) := by
  obtain ⟨fs, hr, hrun, hended, hW, hsame⟩ := X.leave (v := some (.long z)) (fun h => by rw [hret] at h; cases h) hlk
  exact ⟨_, _, X.lreturnOut hx hret hd hr, hrun, hended, _, _, rfl, hQ, ⟨_, rfl⟩, hW, hsame.mono hC hD⟩
theorem OFin.retA (X : Stand p l e R s m args below meth c T locs cells slots) (hx : p.tables.exec = Jvm.exec) (hlk : meth.locks = false) {pc : Nat} {Ls : Array Slot} {z : Value} {Q : Option Value → Heap → List Loc → Prop} {C D : Nat} {t : FieldType} (ht : t.isReference = true) (hz : z.isRef = true) (hret : meth.sig.returnType = some t) (hd : decode c.code pc = .ok (.areturn, 1)) (hC : cells ≤ C) (hD : slots ≤ D) (hQ : Q (some z) T.heap locs) :
    OFin p e below (KPost s Q C D) (T.setTop (mkF m pc Ls [z])) := by
  obtain ⟨fs, hr, hrun, hended, hW, hsame⟩ := X.leave (v := some z) (fun h => by rw [hret] at h; cases h) hlk
  exact ⟨_, _, X.areturnOut hx hz hret ht hd hr, hrun, hended, _, _, rfl, hQ, ⟨_, rfl⟩, hW, hsame.mono hC hD⟩
theorem OFin.retD (X : Stand p l e R s m args below meth c T locs cells slots) (hx : p.tables.exec = Jvm.exec) (hlk : meth.locks = false) {pc : Nat} {Ls : Array Slot} {z : UInt64} {rest : List Value} {Q : Option Value → Heap → List Loc → Prop} {C D : Nat} (hret : meth.sig.returnType = some .double) (hd : decode c.code pc = .ok (.dreturn, 1)) (hC : cells ≤ C) (hD : slots ≤ D) (hQ : Q (some (.double z)) T.heap locs) :
    OFin p e below (KPost s Q C D) (T.setTop (mkF m pc Ls (.double z :: rest))) := by
  obtain ⟨fs, hr, hrun, hended, hW, hsame⟩ := X.leave (v := some (.double z)) (fun h => by rw [hret] at h; cases h) hlk
  exact ⟨_, _, retOut X hx hret rfl (Or.inr (Or.inr (Or.inl ⟨rfl, rfl, z, rfl⟩))) hd hr, hrun, hended, _, _, rfl, hQ, ⟨_, rfl⟩, hW, hsame.mono hC hD⟩
theorem OFin.retV (X : Stand p l e R s m args below meth c T locs cells slots) (hx : p.tables.exec = Jvm.exec) (hlk : meth.locks = false) {pc : Nat} {Ls : Array Slot} {Q : Option Value → Heap → List Loc → Prop} {C D : Nat} (hret : meth.sig.returnType = none) (hd : decode c.code pc = .ok (.return_, 1)) (hC : cells ≤ C) (hD : slots ≤ D) (hQ : Q none T.heap locs) :
    OFin p e below (KPost s Q C D) (T.setTop (mkF m pc Ls [])) := by
  obtain ⟨fs, hr, hrun, hended, hW, hsame⟩ := X.leave (v := none) (fun _ => rfl) hlk
  exact ⟨_, _, X.returnOut hx hret hd hr, hrun, hended, _, _, rfl, hQ, ⟨_, rfl⟩, hW, hsame.mono hC hD⟩
abbrev KPostW (s : State) (Q : Option Value → Heap → List Loc → Prop) (C D : Nat) : Outcome → State → Prop := fun o U' => ∃ v L, o = .returned v ∧ Q v U'.heap L ∧ ReturnedEndW s o U' L C D
theorem OFin.retBW {vm₁ : Vm} {k : Nat} (X : Stand p l e R (s.setVm vm₁) m args below meth c T locs cells slots) (hS : s.Since vm₁ k) (hk : k ≤ T.heap.size) (hx : p.tables.exec = Jvm.exec) (hlk : meth.locks = false) {pc : Nat} {Ls : Array Slot} {z : Int32} {rest : List Value} {Q : Option Value → Heap → List Loc → Prop} {C D : Nat} {t : FieldType} (ht : t = .boolean ∨ t = .byte ∨ t = .char ∨ t = .short) (hret : meth.sig.returnType = some t) (hd : decode c.code pc = .ok (.ireturn, 1)) (hC : cells ≤ C) (hD : slots ≤ D) (hQ : Q (some (.int (nar t z))) T.heap locs) :
    OFin p e below (KPostW s Q C D) (T.setTop (mkF m pc Ls (.int z :: rest))) := by
  obtain ⟨fs, hr, hrun, hended, h1, h2, h3, h4⟩ := X.leaveW hS hk (v := some (.int (nar t z))) (fun h => by rw [hret] at h; cases h) hlk
  exact ⟨_, _, retN X hx hret ht hd hr, hrun, hended, _, _, rfl, hQ, ⟨_, rfl⟩, h2, h3, h4.mono hC hD⟩
theorem own_alen {Z : State} {h : Heap} {a : Addr} {cl : Cell} {ty : FieldType} {z : Int32} {g : JFrame} {rest : List Value} {target : State} (X : Stand p l e R s m args below meth c T locs cells slots) (hx : p.tables.exec = Jvm.exec) (hZ : Z.Warmed39 s.vm) (eT : T.heap = h) (A : Arr Z h a cl ty) (S : cl.slots.size = z.toNatClampNeg) (q : ¬ z < 0) (hg : g.method = m) (hs : g.stack = .ref a :: rest) (hd : decode c.code g.pc = .ok (.arraylength, 1))
    (hr : Steps p.tables e below (T.setTop { g with pc := g.pc + 1, stack := .int z :: rest }) target) : Steps p.tables e below (T.setTop g) target := by
  refine X.arraylength hx (by rw [eT]; exact A.1) (State.isArrayOf_alike hZ.alike A.2.1) hg hs hd _ ?_
  rw [len_of S q]; exact hr
def OwnNoSta (h : Heap) (ws : List Addr) : Prop := ∀ x ∈ ws, ∀ cell : Cell, h[x]? = some cell → cell.vm.isStatics = false
theorem own_sn0 {h : Heap} : OwnNoSta h [] := fun _ q => nomatch q
theorem own_snS {Z : State} {h : Heap} {a : Addr} {C : String} {ws : List Addr} (E : Exa Z h a C) (r : OwnNoSta h ws) : OwnNoSta h (a :: ws) := fun x q cell hc => by
  rcases List.mem_cons.mp q with rfl | q
  · obtain ⟨c', _, h1, -, -, h4, -⟩ := E; cases h1.symm.trans hc; exact h4
  · exact r x q cell hc
theorem own_snV {Z : State} {h : Heap} {a : Addr} {k : ClassId} {ty : FieldType} {z : Int32} {vs : List Value} {dv : Value} {ws : List Addr} (F : Arv Z h a k ty z vs dv) (r : OwnNoSta h ws) : OwnNoSta h (a :: ws) := fun x q cell hc => by
  rcases List.mem_cons.mp q with rfl | q
  · obtain ⟨c', A, -⟩ := F; cases A.1.symm.trans hc; exact A.plain
  · exact r x q cell hc
theorem own_staKeep {Z : State} {h h' : Heap} {C n d : String} {v : Value} {ws : List Addr} (F : Sta Z h C n d v) (K : Keep h h' ws) (q : OwnNoSta h ws) : Sta Z h' C n d v := by
  obtain ⟨cf, i, k, f, st, cell, h1, h2, h3, h4, h5, h6, h7⟩ := F
  refine ⟨cf, i, k, f, st, cell, h1, h2, h3, h4, K.2.1 st cell h5 (fun z => ?_), h6, h7⟩
  have := q st z cell h5
  rw [this] at h6; cases h6
theorem own_pop2L {tb : Tables} [Ours tb] {e : Env} {below : List Frame} {T target : State} {m : MethodId} {c : Code} {g : JFrame} (h : At T m c below) (hx : tb.exec = Jvm.exec) (hg : g.method = m) {x : Int64} {rest : List Value} (hd : decode c.code g.pc = .ok (.pop2, 1)) (hs : g.stack = .long x :: rest)
    (hr : Steps tb e below (T.setTop { g with pc := g.pc + 1, stack := rest }) target) : Steps tb e below (T.setTop g) target := by
  subst hg
  jvm_step h [h.top, hx, hd, hs, Value.category]
  exact hr
end OwnNew
end Jvm.RoadKit
namespace Jvm.Pilot.@@N@@
open Jvm Jvm.ClassFile Sem Op Lib Jvm.Free Jvm.Stand Jvm.LawKit Jvm.RoadKit Bundle Jvm.Pilot.@@N@@.Jvm.D
theorem pd_0 : parseMethodDescriptor "([B)V" = some ⟨[(.array .byte)], none⟩ := by decide +kernel
theorem pd_1 : parseMethodDescriptor "()Z" = some ⟨[], some .boolean⟩ := by decide +kernel
theorem pd_2 : parseMethodDescriptor "()J" = some ⟨[], some .long⟩ := by decide +kernel
theorem own_and3 (x : Int32) : x &&& (3 : Int32) = (0 : Int32) ∨ x &&& (3 : Int32) = (1 : Int32) ∨ x &&& (3 : Int32) = (2 : Int32) ∨ x &&& (3 : Int32) = (3 : Int32) := by
  have h2 := c_mask x 3 2 (by decide) (by decide)
  generalize x &&& 3 = z at h2
  have h3 : z.toInt = 0 ∨ z.toInt = 1 ∨ z.toInt = 2 ∨ z.toInt = 3 := by omega
  have e : ∀ k : Int32, z.toInt = k.toInt → z = k := fun k => Int32.toInt_inj.mp
  rcases h3 with h | h | h | h
  · exact Or.inl (e _ h)
  · exact Or.inr (Or.inl (e _ h))
  · exact Or.inr (Or.inr (Or.inl (e _ h)))
  · exact Or.inr (Or.inr (Or.inr (e _ h)))
theorem own_b7 (x : Int32) : (x &&& (127 : Int32)).toInt8.toInt32 = x &&& (127 : Int32) := by
  have h1 := c_mask x 127 7 (by decide) (by decide)
  have h2 := c_i2b (x &&& 127)
  exact Int32.toInt_inj.mp (by omega)
theorem own_lo (x : Int32) : (((x &&& (127 : Int32)).toInt8.toInt32).toInt8.toInt32) &&& (128 : Int32) = (0 : Int32) := by
  rw [own_b7, own_b7, Int32.and_assoc, show (127 : Int32) &&& 128 = 0 by decide, Int32.and_zero]
theorem own_lo0 (x : Int32) : ((((x &&& (127 : Int32)) ||| (0 : Int32)).toInt8.toInt32).toInt8.toInt32) &&& (128 : Int32) = (0 : Int32) := by
  rw [Int32.or_zero]; exact own_lo x
theorem own_hi (x : Int32) : ¬ ((((x &&& (127 : Int32)) ||| (128 : Int32)).toInt8.toInt32).toInt8.toInt32) &&& (128 : Int32) = (0 : Int32) := fun q => by
  have h1 := c_mask x 127 7 (by decide) (by decide)
  have h2 := c_or' (x &&& 127) 128 7 (by decide) 128 (by decide) (by decide) (by omega) (by omega)
  have h3 := c_i2b ((x &&& 127) ||| 128)
  have h4 := c_i2b (((x &&& 127) ||| 128).toInt8.toInt32)
  have r := rng32 ((x &&& 127) ||| 128)
  have e8 : (128 : Int32).toInt = 128 := by decide
  generalize (((x &&& 127) ||| 128).toInt8.toInt32).toInt8.toInt32 = y at *
  have h5 := c_mask y 255 8 (by decide) (by decide)
  have h6 := c_mask y 127 7 (by decide) (by decide)
  have h7 : y &&& 255 = (y &&& 127) ||| (y &&& 128) := by
    apply Int32.toBitVec_inj.mp
    show y.toBitVec &&& (255 : Int32).toBitVec = (y.toBitVec &&& (127 : Int32).toBitVec) ||| (y.toBitVec &&& (128 : Int32).toBitVec)
    rw [← BitVec.and_or_distrib_left]; rfl
  rw [q, Int32.or_zero] at h7
  rw [h7] at h5
  omega
def own_lt (i n : Int32) : Int32 := if i < n then 1 else 0
theorem dIni_0 : decode prog_64_method_1_code 0 = .ok (.aload_n 0, 1) := by decide +kernel
theorem dIni_1 : decode prog_64_method_1_code 1 = .ok (.invokespecial 3, 3) := by decide +kernel
theorem dIni_4 : decode prog_64_method_1_code 4 = .ok (.aload_n 0, 1) := by decide +kernel
theorem dIni_5 : decode prog_64_method_1_code 5 = .ok (.aload_n 1, 1) := by decide +kernel
theorem dIni_6 : decode prog_64_method_1_code 6 = .ok (.putfield 9, 3) := by decide +kernel
theorem dIni_9 : decode prog_64_method_1_code 9 = .ok (.aload_n 0, 1) := by decide +kernel
theorem dIni_10 : decode prog_64_method_1_code 10 = .ok (.aload_n 1, 1) := by decide +kernel
theorem dIni_11 : decode prog_64_method_1_code 11 = .ok (.arraylength, 1) := by decide +kernel
theorem dIni_12 : decode prog_64_method_1_code 12 = .ok (.putfield 15, 3) := by decide +kernel
theorem dIni_15 : decode prog_64_method_1_code 15 = .ok (.return_, 1) := by decide +kernel
theorem pnIni : plainName "com/example/querant/querant/records/Packing$Reader" = true := by first | (simp [plainName, overriddenIn]; done) | decide +kernel
theorem efIni (m : MethodId) (a0 : Addr) (a1 : Addr) : entryFrame m #[(.ref a0), (.ref a1)] 2 = mkF m 0 #[.val (.ref a0), .val (.ref a1)] [] := by first | (simp [entryFrame, mkF, argsToLocals, Value.category]; done) | rfl
def QIni (Z : State) (a0 : Addr) (a1 : Addr) (k : ClassId) (n : Int32) (vs : List Value) (h0 : Heap) (n0 : Nat) (v : Option Value) (h : Heap) (L : List Loc) : Prop := v = none ∧ Fr n0 L ∧ Keep h0 h [a0] ∧ Fld Z h a0 "com/example/querant/querant/records/Packing$Reader" "bytes" "[B" (.ref a1) ∧ Fld Z h a0 "com/example/querant/querant/records/Packing$Reader" "end" "I" (.int n) ∧ Fld Z h a0 "com/example/querant/querant/records/Packing$Reader" "position" "I" (.int (0 : Int32))
set_option maxRecDepth 65536 in
set_option maxHeartbeats 40000000 in
theorem rmIni (l : Launch) (Z : State) (a0 : Array Value) (hw : ∀ d ∈ tables_1, d.before a0 Z = true) (ws : List Jvm.Cond) (a0 : Addr) (a1 : Addr) (k : ClassId) (n : Int32) (vs : List Value) (h0 : Heap) (n0 : Nat) (Z0 : n0 ≤ h0.size) (E0 : Exa Z h0 a0 "com/example/querant/querant/records/Packing$Reader") (F_bytes : Fld Z h0 a0 "com/example/querant/querant/records/Packing$Reader" "bytes" "[B" .null) (F_end : Fld Z h0 a0 "com/example/querant/querant/records/Packing$Reader" "end" "I" (.int (0 : Int32))) (F_position : Fld Z h0 a0 "com/example/querant/querant/records/Packing$Reader" "position" "I" (.int (0 : Int32))) (V1 : Arv Z h0 a1 k .byte n vs (.int (0 : Int32))) (g0 : n0 ≤ a0) (hne : a1 ≠ a0) :
    MetFree l (⟨"com/example/querant/querant/records/Packing$Reader", "<init>", "([B)V"⟩ : MethodName) (head1 (Jvm.Cond.code (⟨"com/example/querant/querant/records/Packing$Reader", "<init>", "([B)V"⟩ : MethodName) prog_64_method_1_code 2 none :: ws) ({ frames := 1, cells := 0, slots := 0, locals := 12 } : Room)) (fun a U => a = #[(.ref a0), (.ref a1)] ∧ Z.Warmed39 U.vm ∧ U.heap = h0) (fun _ _ _ _ _ => True) (fun _ U o U' => ∃ v L, o = .returned v ∧ QIni Z a0 a1 k n vs h0 n0 v U'.heap L ∧ FrameEnd U o U' L ({ frames := 1, cells := 0, slots := 0, locals := 12 } : Room).cells ({ frames := 1, cells := 0, slots := 0, locals := 12 } : Room).slots) := by
  refine MetFree.of_bodySF (plainFor_of_name pnIni) hisR ?_
  intro p e s m args below meth c s₁ Bd hml0 hP hK
  obtain ⟨rfl, hZ, hh⟩ := hP
  have hx := Bd.exec
  have hby := Bd.bytes
  have hlk := BodyLoose.notSynchronized Bd
  have hret := Bd.returns
  have hml : c.maxLocals = 2 := hml0
  have hown : s.vm.findClass "com/example/querant/querant/records/Packing$Reader" = some m.cls := findClass_of_methodNamed Bd.named
  have hnm := (name_of_methodNamed Bd.named Bd.method).1
  have X0 : Stand p l e ({ frames := 1, cells := 0, slots := 0, locals := 12 } : Room) s m #[(.ref a0), (.ref a1)] below meth c s₁ [] 0 0 := Stand.of_body Bd
  have e0 : s₁.heap = h0 := by rw [← hh, Bd.state]; rfl
  have N0 := Fr.nil n0
  show OFin p e below (KPost s (QIni Z a0 a1 k n vs h0 n0) ({ frames := 1, cells := 0, slots := 0, locals := 12 } : Room).cells ({ frames := 1, cells := 0, slots := 0, locals := 12 } : Room).slots) _
  rw [efIni m a0 a1]
  have K0 : Keep h0 h0 [a0] := Keep.refl _ _
  refine OFin.of (S' := s₁.setTop (mkF m 1 #[.val (.ref a0), .val (.ref a1)] [(.ref a0)])) (fun t ht => ?_) ?_
  · refine XS.aloadN X0.here hx rfl (hb hby dIni_0) rfl rfl ?_
    exact ht
  obtain ⟨T1, X1, e1, st1⟩ := initO X0 hx hZ hown (hw _ (List.mem_of_getElem? (i := 7) rfl)) (hw _ (List.mem_of_getElem? (i := 8) rfl)) (hw _ (List.mem_of_getElem? (i := 9) rfl)) e0 (g := (mkF m 1 #[.val (.ref a0), .val (.ref a1)] [(.ref a0)])) rfl (by rw [hml]; rfl) rfl (hb hby dIni_1) (by decide) (W := 0) (by show 2 * 0 + _ ≤ _; exact Nat.le_of_eq rfl) (by decide)
  refine OFin.of (S' := T1.setTop (mkF m 4 #[.val (.ref a0), .val (.ref a1)] [])) (fun t ht => st1 t ht) ?_
  refine OFin.of (S' := T1.setTop (mkF m 6 #[.val (.ref a0), .val (.ref a1)] [(.ref a1), (.ref a0)])) (fun t ht => ?_) ?_
  · refine XS.aloadN X1.here hx rfl (hb hby dIni_4) rfl rfl ?_
    show Steps p.tables e below (T1.setTop (mkF m 5 _ [(.ref a0)])) _
    refine XS.aloadN X1.here hx rfl (hb hby dIni_5) rfl rfl ?_
    exact ht
  obtain ⟨T2, h2, X2, e2, W2, st2⟩ := putF X1 hx hZ hown (host := "") (Or.inl (hw _ (List.mem_of_getElem? (i := 10) rfl))) Via.refl e1 F_bytes E0 (Or.inr ⟨(hw _ (List.mem_of_getElem? (i := 11) rfl)), rfl, hnm⟩) (hw _ (List.mem_of_getElem? (i := 2) rfl)) (ty := (.array .byte)) (by decide) rfl rfl (g := (mkF m 6 #[.val (.ref a0), .val (.ref a1)] [(.ref a1), (.ref a0)])) rfl rfl (hb hby dIni_6)
  have f3 := (E0.wr W2)
  have f4 := (F_end.other W2 (Or.inr (slot_ne (Or.inr (hw _ (List.mem_of_getElem? (i := 13) rfl))) (Or.inr (hw _ (List.mem_of_getElem? (i := 11) rfl))) (by decide) (t := .int) (t' := (.array .byte)) (by decide) (by decide))))
  have f5 := (F_position.other W2 (Or.inr (slot_ne (Or.inl (hw _ (List.mem_of_getElem? (i := 20) rfl))) (Or.inr (hw _ (List.mem_of_getElem? (i := 11) rfl))) (by decide) (t := .int) (t' := (.array .byte)) (by decide) (by decide))))
  have f6 := (V1.other W2 hne)
  have Z7 : n0 ≤ h2.size := (Nat.le_trans Z0 (Keep.of_wr W2).1)
  have K8 : Keep h0 h2 [a0] := (K0.wr W2 (Or.inl (List.mem_of_getElem? (i := 0) rfl)))
  have N9 := Fr.snoc X2 N0 g0
  have f10 : Fld Z h2 a0 "com/example/querant/querant/records/Packing$Reader" "bytes" "[B" (.ref a1) := (F_bytes.same W2)
  refine OFin.of (S' := T2.setTop (mkF m 9 #[.val (.ref a0), .val (.ref a1)] [])) (fun t ht => st2 t ht) ?_
  refine OFin.of (S' := T2.setTop (mkF m 11 #[.val (.ref a0), .val (.ref a1)] [(.ref a1), (.ref a0)])) (fun t ht => ?_) ?_
  · refine XS.aloadN X2.here hx rfl (hb hby dIni_9) rfl rfl ?_
    show Steps p.tables e below (T2.setTop (mkF m 10 _ [(.ref a0)])) _
    refine XS.aloadN X2.here hx rfl (hb hby dIni_10) rfl rfl ?_
    exact ht
  obtain ⟨cl11, Ar11, q11, S11, Ng11, H11, G11⟩ := id f6
  refine OFin.of (S' := T2.setTop (mkF m 12 #[.val (.ref a0), .val (.ref a1)] [(.int n), (.ref a0)])) (fun t ht => own_alen X2 hx hZ e2 Ar11 S11 Ng11 (g := (mkF m 11 #[.val (.ref a0), .val (.ref a1)] [(.ref a1), (.ref a0)])) rfl rfl (hb hby dIni_11) ht) ?_
  obtain ⟨T12, h12, X12, e12, W12, st12⟩ := putF X2 hx hZ hown (host := "") (Or.inl (hw _ (List.mem_of_getElem? (i := 12) rfl))) Via.refl e2 f4 f3 (Or.inr ⟨(hw _ (List.mem_of_getElem? (i := 13) rfl)), rfl, hnm⟩) (hw _ (List.mem_of_getElem? (i := 2) rfl)) (ty := .int) (by decide) rfl rfl (g := (mkF m 12 #[.val (.ref a0), .val (.ref a1)] [(.int n), (.ref a0)])) rfl rfl (hb hby dIni_12)
  have f13 := (f3.wr W12)
  have f14 := (f5.other W12 (Or.inr (slot_ne (Or.inl (hw _ (List.mem_of_getElem? (i := 20) rfl))) (Or.inr (hw _ (List.mem_of_getElem? (i := 13) rfl))) (by decide) (t := .int) (t' := .int) (by decide) (by decide))))
  have f15 := (f6.other W12 hne)
  have f16 := (f10.other W12 (Or.inr (slot_ne (Or.inr (hw _ (List.mem_of_getElem? (i := 11) rfl))) (Or.inr (hw _ (List.mem_of_getElem? (i := 13) rfl))) (by decide) (t := (.array .byte)) (t' := .int) (by decide) (by decide))))
  have Z17 : n0 ≤ h12.size := (Nat.le_trans Z7 (Keep.of_wr W12).1)
  have K18 : Keep h0 h12 [a0] := (K8.wr W12 (Or.inl (List.mem_of_getElem? (i := 0) rfl)))
  have N19 := Fr.snoc X12 N9 g0
  have f20 : Fld Z h12 a0 "com/example/querant/querant/records/Packing$Reader" "end" "I" (.int n) := (f4.same W12)
  refine OFin.of (S' := T12.setTop (mkF m 15 #[.val (.ref a0), .val (.ref a1)] [])) (fun t ht => st12 t ht) ?_
  exact OFin.retV X12 hx hlk hret (hb hby dIni_15) (by decide) (by decide) (by rw [e12]; exact ⟨rfl, N19, K18, f16, f20, f14⟩)
theorem dHm_0 : decode prog_64_method_3_code 0 = .ok (.aload_n 0, 1) := by decide +kernel
theorem dHm_1 : decode prog_64_method_3_code 1 = .ok (.getfield 32, 3) := by decide +kernel
theorem dHm_4 : decode prog_64_method_3_code 4 = .ok (.aload_n 0, 1) := by decide +kernel
theorem dHm_5 : decode prog_64_method_3_code 5 = .ok (.getfield 15, 3) := by decide +kernel
theorem dHm_8 : decode prog_64_method_3_code 8 = .ok (.if_icmp .ge 7, 3) := by decide +kernel
theorem dHm_11 : decode prog_64_method_3_code 11 = .ok (.iconst 1, 1) := by decide +kernel
theorem dHm_12 : decode prog_64_method_3_code 12 = .ok (.goto 4, 3) := by decide +kernel
theorem dHm_15 : decode prog_64_method_3_code 15 = .ok (.iconst 0, 1) := by decide +kernel
theorem dHm_16 : decode prog_64_method_3_code 16 = .ok (.ireturn, 1) := by decide +kernel
theorem pnHm : plainName "com/example/querant/querant/records/Packing$Reader" = true := by first | (simp [plainName, overriddenIn]; done) | decide +kernel
theorem efHm (m : MethodId) (a0 : Addr) : entryFrame m #[(.ref a0)] 1 = mkF m 0 #[.val (.ref a0)] [] := by first | (simp [entryFrame, mkF, argsToLocals, Value.category]; done) | rfl
def QHm (Z : State) (a0 : Addr) (i : Int32) (n : Int32) (h0 : Heap) (n0 : Nat) (v : Option Value) (h : Heap) (L : List Loc) : Prop := v = some (.int (own_lt i n)) ∧ Fr n0 L ∧ h = h0
set_option maxRecDepth 65536 in
set_option maxHeartbeats 40000000 in
theorem rmHm (l : Launch) (Z : State) (a0 : Array Value) (hw : ∀ d ∈ tables_1, d.before a0 Z = true) (ws : List Jvm.Cond) (a0 : Addr) (i : Int32) (n : Int32) (h0 : Heap) (n0 : Nat) (Z0 : n0 ≤ h0.size) (F1 : Fld Z h0 a0 "com/example/querant/querant/records/Packing$Reader" "position" "I" (.int i)) (F2 : Fld Z h0 a0 "com/example/querant/querant/records/Packing$Reader" "end" "I" (.int n)) :
    MetFree l (⟨"com/example/querant/querant/records/Packing$Reader", "hasMore", "()Z"⟩ : MethodName) (head1 (Jvm.Cond.code (⟨"com/example/querant/querant/records/Packing$Reader", "hasMore", "()Z"⟩ : MethodName) prog_64_method_3_code 1 (some .boolean) :: ws) ({ frames := 0, cells := 0, slots := 0, locals := 0 } : Room)) (fun a U => a = #[(.ref a0)] ∧ Z.Warmed39 U.vm ∧ U.heap = h0) (fun _ _ _ _ _ => True) (fun _ U o U' => ∃ v L, o = .returned v ∧ QHm Z a0 i n h0 n0 v U'.heap L ∧ FrameEnd U o U' L ({ frames := 0, cells := 0, slots := 0, locals := 0 } : Room).cells ({ frames := 0, cells := 0, slots := 0, locals := 0 } : Room).slots) := by
  refine MetFree.of_bodySF (plainFor_of_name pnHm) hisR ?_
  intro p e s m args below meth c s₁ Bd hml0 hP hK
  obtain ⟨rfl, hZ, hh⟩ := hP
  have hx := Bd.exec
  have hby := Bd.bytes
  have hlk := BodyLoose.notSynchronized Bd
  have hret := Bd.returns
  have hml : c.maxLocals = 1 := hml0
  have hown : s.vm.findClass "com/example/querant/querant/records/Packing$Reader" = some m.cls := findClass_of_methodNamed Bd.named
  have hnm := (name_of_methodNamed Bd.named Bd.method).1
  have X0 : Stand p l e ({ frames := 0, cells := 0, slots := 0, locals := 0 } : Room) s m #[(.ref a0)] below meth c s₁ [] 0 0 := Stand.of_body Bd
  have e0 : s₁.heap = h0 := by rw [← hh, Bd.state]; rfl
  have N0 := Fr.nil n0
  show OFin p e below (KPost s (QHm Z a0 i n h0 n0) ({ frames := 0, cells := 0, slots := 0, locals := 0 } : Room).cells ({ frames := 0, cells := 0, slots := 0, locals := 0 } : Room).slots) _
  rw [efHm m a0]
  refine OFin.of (S' := s₁.setTop (mkF m 1 #[.val (.ref a0)] [(.ref a0)])) (fun t ht => ?_) ?_
  · refine XS.aloadN X0.here hx rfl (hb hby dHm_0) rfl rfl ?_
    exact ht
  obtain ⟨T1, X1, e1, st1⟩ := getF X0 hx hZ hown (host := "") (Or.inl (hw _ (List.mem_of_getElem? (i := 19) rfl))) Via.refl e0 F1 (g := (mkF m 1 #[.val (.ref a0)] [(.ref a0)])) rfl rfl (hb hby dHm_1)
  refine OFin.of (S' := T1.setTop (mkF m 4 #[.val (.ref a0)] [(.int i)])) (fun t ht => st1 t ht) ?_
  refine OFin.of (S' := T1.setTop (mkF m 5 #[.val (.ref a0)] [(.ref a0), (.int i)])) (fun t ht => ?_) ?_
  · refine XS.aloadN X1.here hx rfl (hb hby dHm_4) rfl rfl ?_
    exact ht
  obtain ⟨T2, X2, e2, st2⟩ := getF X1 hx hZ hown (host := "") (Or.inl (hw _ (List.mem_of_getElem? (i := 12) rfl))) Via.refl e1 F2 (g := (mkF m 5 #[.val (.ref a0)] [(.ref a0), (.int i)])) rfl rfl (hb hby dHm_5)
  refine OFin.of (S' := T2.setTop (mkF m 8 #[.val (.ref a0)] [(.int n), (.int i)])) (fun t ht => st2 t ht) ?_
  by_cases hc3 : i < n
  · refine OFin.of (S' := T2.setTop (mkF m 16 #[.val (.ref a0)] [(.int (1 : Int32))])) (fun t ht => ?_) ?_
    · refine XS.icmpNo X2.here hx rfl (hb hby dHm_8) rfl (tlt (hc3 : i < n)).2.1 ?_
      show Steps p.tables e below (T2.setTop (mkF m 11 _ [])) _
      refine XS.iconst X2.here hx rfl (hb hby dHm_11) ?_
      show Steps p.tables e below (T2.setTop (mkF m 12 _ [(.int (1 : Int32))])) _
      refine XS.goto X2.here hx rfl (pc0 := 12) (pc' := 16) rfl (hb hby dHm_12) (by decide) (by decide) ?_
      exact ht
    exact OFin.retB X2 hx hlk (t := .boolean) (by simp) hret (hb hby dHm_16) (by decide) (by decide) (by rw [e2]; exact ⟨(by show some (Value.int (1 : Int32)) = _; simp [own_lt, hc3]), N0, rfl⟩)
  · refine OFin.of (S' := T2.setTop (mkF m 16 #[.val (.ref a0)] [(.int (0 : Int32))])) (fun t ht => ?_) ?_
    · refine XS.icmpYes X2.here hx rfl (pc0 := 8) (pc' := 15) rfl (hb hby dHm_8) rfl (flt (hc3 : ¬ (i < n))).2.1 (by decide) (by decide) ?_
      show Steps p.tables e below (T2.setTop (mkF m 15 _ [])) _
      refine XS.iconst X2.here hx rfl (hb hby dHm_15) ?_
      exact ht
    exact OFin.retB X2 hx hlk (t := .boolean) (by simp) hret (hb hby dHm_16) (by decide) (by decide) (by rw [e2]; exact ⟨(by show some (Value.int (0 : Int32)) = _; simp [own_lt, hc3]), N0, rfl⟩)
theorem dNb1_0 : decode prog_64_method_4_code 0 = .ok (.lconst 0, 1) := by decide +kernel
theorem dNb1_1 : decode prog_64_method_4_code 1 = .ok (.lstore_n 1, 1) := by decide +kernel
theorem dNb1_2 : decode prog_64_method_4_code 2 = .ok (.iconst 0, 1) := by decide +kernel
theorem dNb1_3 : decode prog_64_method_4_code 3 = .ok (.istore_n 3, 1) := by decide +kernel
theorem dNb1_4 : decode prog_64_method_4_code 4 = .ok (.aload_n 0, 1) := by decide +kernel
theorem dNb1_5 : decode prog_64_method_4_code 5 = .ok (.getfield 32, 3) := by decide +kernel
theorem dNb1_8 : decode prog_64_method_4_code 8 = .ok (.aload_n 0, 1) := by decide +kernel
theorem dNb1_9 : decode prog_64_method_4_code 9 = .ok (.getfield 15, 3) := by decide +kernel
theorem dNb1_12 : decode prog_64_method_4_code 12 = .ok (.if_icmp .eq 9, 3) := by decide +kernel
theorem dNb1_15 : decode prog_64_method_4_code 15 = .ok (.iload_n 3, 1) := by decide +kernel
theorem dNb1_16 : decode prog_64_method_4_code 16 = .ok (.bipush 63, 2) := by decide +kernel
theorem dNb1_18 : decode prog_64_method_4_code 18 = .ok (.if_icmp .ne 20, 3) := by decide +kernel
theorem dNb1_38 : decode prog_64_method_4_code 38 = .ok (.aload_n 0, 1) := by decide +kernel
theorem dNb1_39 : decode prog_64_method_4_code 39 = .ok (.getfield 9, 3) := by decide +kernel
theorem dNb1_42 : decode prog_64_method_4_code 42 = .ok (.aload_n 0, 1) := by decide +kernel
theorem dNb1_43 : decode prog_64_method_4_code 43 = .ok (.dup, 1) := by decide +kernel
theorem dNb1_44 : decode prog_64_method_4_code 44 = .ok (.getfield 32, 3) := by decide +kernel
theorem dNb1_47 : decode prog_64_method_4_code 47 = .ok (.dup_x1, 1) := by decide +kernel
theorem dNb1_48 : decode prog_64_method_4_code 48 = .ok (.iconst 1, 1) := by decide +kernel
theorem dNb1_49 : decode prog_64_method_4_code 49 = .ok (.iadd, 1) := by decide +kernel
theorem dNb1_50 : decode prog_64_method_4_code 50 = .ok (.putfield 32, 3) := by decide +kernel
theorem dNb1_53 : decode prog_64_method_4_code 53 = .ok (.baload, 1) := by decide +kernel
theorem dNb1_54 : decode prog_64_method_4_code 54 = .ok (.istore 4, 2) := by decide +kernel
theorem dNb1_56 : decode prog_64_method_4_code 56 = .ok (.lload_n 1, 1) := by decide +kernel
theorem dNb1_57 : decode prog_64_method_4_code 57 = .ok (.iload 4, 2) := by decide +kernel
theorem dNb1_59 : decode prog_64_method_4_code 59 = .ok (.bipush 127, 2) := by decide +kernel
theorem dNb1_61 : decode prog_64_method_4_code 61 = .ok (.iand, 1) := by decide +kernel
theorem dNb1_62 : decode prog_64_method_4_code 62 = .ok (.i2l, 1) := by decide +kernel
theorem dNb1_63 : decode prog_64_method_4_code 63 = .ok (.iload_n 3, 1) := by decide +kernel
theorem dNb1_64 : decode prog_64_method_4_code 64 = .ok (.lshl, 1) := by decide +kernel
theorem dNb1_65 : decode prog_64_method_4_code 65 = .ok (.lor, 1) := by decide +kernel
theorem dNb1_66 : decode prog_64_method_4_code 66 = .ok (.lstore_n 1, 1) := by decide +kernel
theorem dNb1_67 : decode prog_64_method_4_code 67 = .ok (.iinc 3 7, 3) := by decide +kernel
theorem dNb1_70 : decode prog_64_method_4_code 70 = .ok (.iload 4, 2) := by decide +kernel
theorem dNb1_72 : decode prog_64_method_4_code 72 = .ok (.sipush 128, 3) := by decide +kernel
theorem dNb1_75 : decode prog_64_method_4_code 75 = .ok (.iand, 1) := by decide +kernel
theorem dNb1_76 : decode prog_64_method_4_code 76 = .ok (.ifCond .ne (-72), 3) := by decide +kernel
theorem dNb1_79 : decode prog_64_method_4_code 79 = .ok (.lload_n 1, 1) := by decide +kernel
theorem dNb1_80 : decode prog_64_method_4_code 80 = .ok (.lreturn, 1) := by decide +kernel
theorem pnNb1 : plainName "com/example/querant/querant/records/Packing$Reader" = true := by first | (simp [plainName, overriddenIn]; done) | decide +kernel
theorem efNb1 (m : MethodId) (a0 : Addr) : entryFrame m #[(.ref a0)] 5 = mkF m 0 #[.val (.ref a0), .unset, .unset, .unset, .unset] [] := by first | (simp [entryFrame, mkF, argsToLocals, Value.category]; done) | rfl
def QNb1 (Z : State) (a0 : Addr) (ab : Addr) (k : ClassId) (n : Int32) (vs : List Value) (i : Int32) (w : Int32) (h0 : Heap) (n0 : Nat) (v : Option Value) (h : Heap) (L : List Loc) : Prop := v = some (.long ((0 : Int64) ||| (((w &&& (127 : Int32)).toInt64) <<< ((0 : Int32) &&& 0x3f).toInt64))) ∧ Fr n0 L ∧ Keep h0 h [a0] ∧ Fld Z h a0 "com/example/querant/querant/records/Packing$Reader" "bytes" "[B" (.ref ab) ∧ Fld Z h a0 "com/example/querant/querant/records/Packing$Reader" "end" "I" (.int n) ∧ Fld Z h a0 "com/example/querant/querant/records/Packing$Reader" "position" "I" (.int (i + (1 : Int32)))
set_option maxRecDepth 65536 in
set_option maxHeartbeats 40000000 in
theorem rmNb1 (l : Launch) (Z : State) (a0 : Array Value) (hw : ∀ d ∈ tables_1, d.before a0 Z = true) (ws : List Jvm.Cond) (a0 : Addr) (ab : Addr) (k : ClassId) (n : Int32) (vs : List Value) (i : Int32) (w : Int32) (h0 : Heap) (n0 : Nat) (Z0 : n0 ≤ h0.size) (E0 : Exa Z h0 a0 "com/example/querant/querant/records/Packing$Reader") (F1 : Fld Z h0 a0 "com/example/querant/querant/records/Packing$Reader" "position" "I" (.int i)) (F2 : Fld Z h0 a0 "com/example/querant/querant/records/Packing$Reader" "end" "I" (.int n)) (F3 : Fld Z h0 a0 "com/example/querant/querant/records/Packing$Reader" "bytes" "[B" (.ref ab)) (V1 : Arv Z h0 ab k .byte n vs (.int (0 : Int32))) (g0 : n0 ≤ a0) (hne : ab ≠ a0) (h1 : ¬ i = n) (h2 : ¬ i < 0 ∧ i < n) (h3 : vs.getD i.toNatClampNeg (.int (0 : Int32)) = .int w) (h4 : (w &&& (128 : Int32)) = (0 : Int32)) :
    MetFree l (⟨"com/example/querant/querant/records/Packing$Reader", "number", "()J"⟩ : MethodName) (head1 (Jvm.Cond.code (⟨"com/example/querant/querant/records/Packing$Reader", "number", "()J"⟩ : MethodName) prog_64_method_4_code 5 (some .long) :: ws) ({ frames := 0, cells := 0, slots := 0, locals := 0 } : Room)) (fun a U => a = #[(.ref a0)] ∧ Z.Warmed39 U.vm ∧ U.heap = h0) (fun _ _ _ _ _ => True) (fun _ U o U' => ∃ v L, o = .returned v ∧ QNb1 Z a0 ab k n vs i w h0 n0 v U'.heap L ∧ FrameEnd U o U' L ({ frames := 0, cells := 0, slots := 0, locals := 0 } : Room).cells ({ frames := 0, cells := 0, slots := 0, locals := 0 } : Room).slots) := by
  refine MetFree.of_bodySF (plainFor_of_name pnNb1) hisR ?_
  intro p e s m args below meth c s₁ Bd hml0 hP hK
  obtain ⟨rfl, hZ, hh⟩ := hP
  have hx := Bd.exec
  have hby := Bd.bytes
  have hlk := BodyLoose.notSynchronized Bd
  have hret := Bd.returns
  have hml : c.maxLocals = 5 := hml0
  have hown : s.vm.findClass "com/example/querant/querant/records/Packing$Reader" = some m.cls := findClass_of_methodNamed Bd.named
  have hnm := (name_of_methodNamed Bd.named Bd.method).1
  have X0 : Stand p l e ({ frames := 0, cells := 0, slots := 0, locals := 0 } : Room) s m #[(.ref a0)] below meth c s₁ [] 0 0 := Stand.of_body Bd
  have e0 : s₁.heap = h0 := by rw [← hh, Bd.state]; rfl
  have N0 := Fr.nil n0
  show OFin p e below (KPost s (QNb1 Z a0 ab k n vs i w h0 n0) ({ frames := 0, cells := 0, slots := 0, locals := 0 } : Room).cells ({ frames := 0, cells := 0, slots := 0, locals := 0 } : Room).slots) _
  rw [efNb1 m a0]
  have K0 : Keep h0 h0 [a0] := Keep.refl _ _
  refine OFin.of (S' := s₁.setTop (mkF m 5 #[.val (.ref a0), .val (.long (0 : Int64)), .second, .val (.int (0 : Int32)), .unset] [(.ref a0)])) (fun t ht => ?_) ?_
  · refine XS.lconst X0.here hx rfl (hb hby dNb1_0) ?_
    show Steps p.tables e below (s₁.setTop (mkF m 1 _ [(.long (0 : Int64))])) _
    refine XS.lstoreN X0.here hx rfl (hb hby dNb1_1) rfl (l' := #[.val (.ref a0), .val (.long (0 : Int64)), .second, .unset, .unset]) rfl ?_
    show Steps p.tables e below (s₁.setTop (mkF m 2 #[.val (.ref a0), .val (.long (0 : Int64)), .second, .unset, .unset] [])) _
    refine XS.iconst X0.here hx rfl (hb hby dNb1_2) ?_
    show Steps p.tables e below (s₁.setTop (mkF m 3 _ [(.int (0 : Int32))])) _
    refine XS.istoreN X0.here hx rfl (hb hby dNb1_3) rfl (l' := #[.val (.ref a0), .val (.long (0 : Int64)), .second, .val (.int (0 : Int32)), .unset]) rfl ?_
    show Steps p.tables e below (s₁.setTop (mkF m 4 #[.val (.ref a0), .val (.long (0 : Int64)), .second, .val (.int (0 : Int32)), .unset] [])) _
    refine XS.aloadN X0.here hx rfl (hb hby dNb1_4) rfl rfl ?_
    exact ht
  obtain ⟨T1, X1, e1, st1⟩ := getF X0 hx hZ hown (host := "") (Or.inl (hw _ (List.mem_of_getElem? (i := 19) rfl))) Via.refl e0 F1 (g := (mkF m 5 #[.val (.ref a0), .val (.long (0 : Int64)), .second, .val (.int (0 : Int32)), .unset] [(.ref a0)])) rfl rfl (hb hby dNb1_5)
  refine OFin.of (S' := T1.setTop (mkF m 8 #[.val (.ref a0), .val (.long (0 : Int64)), .second, .val (.int (0 : Int32)), .unset] [(.int i)])) (fun t ht => st1 t ht) ?_
  refine OFin.of (S' := T1.setTop (mkF m 9 #[.val (.ref a0), .val (.long (0 : Int64)), .second, .val (.int (0 : Int32)), .unset] [(.ref a0), (.int i)])) (fun t ht => ?_) ?_
  · refine XS.aloadN X1.here hx rfl (hb hby dNb1_8) rfl rfl ?_
    exact ht
  obtain ⟨T2, X2, e2, st2⟩ := getF X1 hx hZ hown (host := "") (Or.inl (hw _ (List.mem_of_getElem? (i := 12) rfl))) Via.refl e1 F2 (g := (mkF m 9 #[.val (.ref a0), .val (.long (0 : Int64)), .second, .val (.int (0 : Int32)), .unset] [(.ref a0), (.int i)])) rfl rfl (hb hby dNb1_9)
  refine OFin.of (S' := T2.setTop (mkF m 12 #[.val (.ref a0), .val (.long (0 : Int64)), .second, .val (.int (0 : Int32)), .unset] [(.int n), (.int i)])) (fun t ht => st2 t ht) ?_
  refine OFin.of (S' := T2.setTop (mkF m 39 #[.val (.ref a0), .val (.long (0 : Int64)), .second, .val (.int (0 : Int32)), .unset] [(.ref a0)])) (fun t ht => ?_) ?_
  · refine XS.icmpNo X2.here hx rfl (hb hby dNb1_12) rfl (feq (h1 : ¬ (i = n))).1 ?_
    show Steps p.tables e below (T2.setTop (mkF m 15 _ [])) _
    refine XS.iloadN X2.here hx rfl (hb hby dNb1_15) rfl ?_
    show Steps p.tables e below (T2.setTop (mkF m 16 _ [(.int (0 : Int32))])) _
    refine XS.bipush X2.here hx rfl (hb hby dNb1_16) ?_
    show Steps p.tables e below (T2.setTop (mkF m 18 _ [(.int (63 : Int32)), (.int (0 : Int32))])) _
    refine XS.icmpYes X2.here hx rfl (pc0 := 18) (pc' := 38) rfl (hb hby dNb1_18) rfl (feq (by decide : ¬ ((0 : Int32) = (63 : Int32)))).2 (by decide) (by decide) ?_
    show Steps p.tables e below (T2.setTop (mkF m 38 _ [])) _
    refine XS.aloadN X2.here hx rfl (hb hby dNb1_38) rfl rfl ?_
    exact ht
  obtain ⟨T3, X3, e3, st3⟩ := getF X2 hx hZ hown (host := "") (Or.inl (hw _ (List.mem_of_getElem? (i := 10) rfl))) Via.refl e2 F3 (g := (mkF m 39 #[.val (.ref a0), .val (.long (0 : Int64)), .second, .val (.int (0 : Int32)), .unset] [(.ref a0)])) rfl rfl (hb hby dNb1_39)
  refine OFin.of (S' := T3.setTop (mkF m 42 #[.val (.ref a0), .val (.long (0 : Int64)), .second, .val (.int (0 : Int32)), .unset] [(.ref ab)])) (fun t ht => st3 t ht) ?_
  refine OFin.of (S' := T3.setTop (mkF m 44 #[.val (.ref a0), .val (.long (0 : Int64)), .second, .val (.int (0 : Int32)), .unset] [(.ref a0), (.ref a0), (.ref ab)])) (fun t ht => ?_) ?_
  · refine XS.aloadN X3.here hx rfl (hb hby dNb1_42) rfl rfl ?_
    show Steps p.tables e below (T3.setTop (mkF m 43 _ [(.ref a0), (.ref ab)])) _
    refine XS.dup X3.here hx rfl (hb hby dNb1_43) rfl rfl ?_
    exact ht
  obtain ⟨T4, X4, e4, st4⟩ := getF X3 hx hZ hown (host := "") (Or.inl (hw _ (List.mem_of_getElem? (i := 19) rfl))) Via.refl e3 F1 (g := (mkF m 44 #[.val (.ref a0), .val (.long (0 : Int64)), .second, .val (.int (0 : Int32)), .unset] [(.ref a0), (.ref a0), (.ref ab)])) rfl rfl (hb hby dNb1_44)
  refine OFin.of (S' := T4.setTop (mkF m 47 #[.val (.ref a0), .val (.long (0 : Int64)), .second, .val (.int (0 : Int32)), .unset] [(.int i), (.ref a0), (.ref ab)])) (fun t ht => st4 t ht) ?_
  refine OFin.of (S' := T4.setTop (mkF m 50 #[.val (.ref a0), .val (.long (0 : Int64)), .second, .val (.int (0 : Int32)), .unset] [(.int (i + (1 : Int32))), (.ref a0), (.int i), (.ref ab)])) (fun t ht => ?_) ?_
  · refine XS.dupX1 X4.here hx rfl (hb hby dNb1_47) rfl rfl rfl ?_
    show Steps p.tables e below (T4.setTop (mkF m 48 _ [(.int i), (.ref a0), (.int i), (.ref ab)])) _
    refine XS.iconst X4.here hx rfl (hb hby dNb1_48) ?_
    show Steps p.tables e below (T4.setTop (mkF m 49 _ [(.int (1 : Int32)), (.int i), (.ref a0), (.int i), (.ref ab)])) _
    refine XS.iadd X4.here hx rfl (hb hby dNb1_49) rfl ?_
    exact ht
  obtain ⟨T5, h5, X5, e5, W5, st5⟩ := putF X4 hx hZ hown (host := "") (Or.inl (hw _ (List.mem_of_getElem? (i := 19) rfl))) Via.refl e4 F1 E0 (Or.inl (hw _ (List.mem_of_getElem? (i := 20) rfl))) (hw _ (List.mem_of_getElem? (i := 2) rfl)) (ty := .int) (by decide) rfl rfl (g := (mkF m 50 #[.val (.ref a0), .val (.long (0 : Int64)), .second, .val (.int (0 : Int32)), .unset] [(.int (i + (1 : Int32))), (.ref a0), (.int i), (.ref ab)])) rfl rfl (hb hby dNb1_50)
  have f6 := (E0.wr W5)
  have f7 := (F2.other W5 (Or.inr (slot_ne (Or.inr (hw _ (List.mem_of_getElem? (i := 13) rfl))) (Or.inl (hw _ (List.mem_of_getElem? (i := 20) rfl))) (by decide) (t := .int) (t' := .int) (by decide) (by decide))))
  have f8 := (F3.other W5 (Or.inr (slot_ne (Or.inr (hw _ (List.mem_of_getElem? (i := 11) rfl))) (Or.inl (hw _ (List.mem_of_getElem? (i := 20) rfl))) (by decide) (t := (.array .byte)) (t' := .int) (by decide) (by decide))))
  have f9 := (V1.other W5 hne)
  have Z10 : n0 ≤ h5.size := (Nat.le_trans Z0 (Keep.of_wr W5).1)
  have K11 : Keep h0 h5 [a0] := (K0.wr W5 (Or.inl (List.mem_of_getElem? (i := 0) rfl)))
  have N12 := Fr.snoc X5 N0 g0
  have f13 : Fld Z h5 a0 "com/example/querant/querant/records/Packing$Reader" "position" "I" (.int (i + (1 : Int32))) := (F1.same W5)
  refine OFin.of (S' := T5.setTop (mkF m 53 #[.val (.ref a0), .val (.long (0 : Int64)), .second, .val (.int (0 : Int32)), .unset] [(.int i), (.ref ab)])) (fun t ht => st5 t ht) ?_
  obtain ⟨cl14, Ar14, q14, S14, Ng14, H14, G14⟩ := id f9
  have hin14 := inb_of (j := i) S14 h2
  have hat14 : cl14.slots[(i).toNatClampNeg]? = some (.int w) := Has.at H14 hin14 h3
  refine OFin.of (S' := T5.setTop (mkF m 54 #[.val (.ref a0), .val (.long (0 : Int64)), .second, .val (.int (0 : Int32)), .unset] [(.int w)])) (fun t ht => X5.baloadBytes hx (j := i) (v := (.int w)) (by rw [e5]; exact Ar14.1) (State.isArrayOf_alike hZ.alike Ar14.2.1) Ar14.2.2 hin14 hat14 (g := (mkF m 53 #[.val (.ref a0), .val (.long (0 : Int64)), .second, .val (.int (0 : Int32)), .unset] [(.int i), (.ref ab)])) rfl rfl (hb hby dNb1_53) _ ht) ?_
  refine OFin.of (S' := T5.setTop (mkF m 80 #[.val (.ref a0), .val (.long ((0 : Int64) ||| (((w &&& (127 : Int32)).toInt64) <<< ((0 : Int32) &&& 0x3f).toInt64))), .second, .val (.int (7 : Int32)), .val (.int w)] [(.long ((0 : Int64) ||| (((w &&& (127 : Int32)).toInt64) <<< ((0 : Int32) &&& 0x3f).toInt64)))])) (fun t ht => ?_) ?_
  · refine XS.istore X5.here hx rfl (hb hby dNb1_54) rfl (l' := #[.val (.ref a0), .val (.long (0 : Int64)), .second, .val (.int (0 : Int32)), .val (.int w)]) rfl ?_
    show Steps p.tables e below (T5.setTop (mkF m 56 #[.val (.ref a0), .val (.long (0 : Int64)), .second, .val (.int (0 : Int32)), .val (.int w)] [])) _
    refine XS.lloadN X5.here hx rfl (hb hby dNb1_56) rfl ?_
    show Steps p.tables e below (T5.setTop (mkF m 57 _ [(.long (0 : Int64))])) _
    refine XS.iload X5.here hx rfl (hb hby dNb1_57) rfl ?_
    show Steps p.tables e below (T5.setTop (mkF m 59 _ [(.int w), (.long (0 : Int64))])) _
    refine XS.bipush X5.here hx rfl (hb hby dNb1_59) ?_
    show Steps p.tables e below (T5.setTop (mkF m 61 _ [(.int (127 : Int32)), (.int w), (.long (0 : Int64))])) _
    refine XS.iand X5.here hx rfl (hb hby dNb1_61) rfl ?_
    show Steps p.tables e below (T5.setTop (mkF m 62 _ [(.int (w &&& (127 : Int32))), (.long (0 : Int64))])) _
    refine XS.i2l X5.here hx rfl (hb hby dNb1_62) rfl ?_
    show Steps p.tables e below (T5.setTop (mkF m 63 _ [(.long ((w &&& (127 : Int32)).toInt64)), (.long (0 : Int64))])) _
    refine XS.iloadN X5.here hx rfl (hb hby dNb1_63) rfl ?_
    show Steps p.tables e below (T5.setTop (mkF m 64 _ [(.int (0 : Int32)), (.long ((w &&& (127 : Int32)).toInt64)), (.long (0 : Int64))])) _
    refine XS.lshl X5.here hx rfl (hb hby dNb1_64) rfl ?_
    show Steps p.tables e below (T5.setTop (mkF m 65 _ [(.long (((w &&& (127 : Int32)).toInt64) <<< ((0 : Int32) &&& 0x3f).toInt64)), (.long (0 : Int64))])) _
    refine XS.lor X5.here hx rfl (hb hby dNb1_65) rfl ?_
    show Steps p.tables e below (T5.setTop (mkF m 66 _ [(.long ((0 : Int64) ||| (((w &&& (127 : Int32)).toInt64) <<< ((0 : Int32) &&& 0x3f).toInt64)))])) _
    refine XS.lstoreN X5.here hx rfl (hb hby dNb1_66) rfl (l' := #[.val (.ref a0), .val (.long ((0 : Int64) ||| (((w &&& (127 : Int32)).toInt64) <<< ((0 : Int32) &&& 0x3f).toInt64))), .second, .val (.int (0 : Int32)), .val (.int w)]) rfl ?_
    show Steps p.tables e below (T5.setTop (mkF m 67 #[.val (.ref a0), .val (.long ((0 : Int64) ||| (((w &&& (127 : Int32)).toInt64) <<< ((0 : Int32) &&& 0x3f).toInt64))), .second, .val (.int (0 : Int32)), .val (.int w)] [])) _
    refine XS.iinc X5.here hx rfl (hb hby dNb1_67) rfl (l' := #[.val (.ref a0), .val (.long ((0 : Int64) ||| (((w &&& (127 : Int32)).toInt64) <<< ((0 : Int32) &&& 0x3f).toInt64))), .second, .val (.int (7 : Int32)), .val (.int w)]) rfl ?_
    show Steps p.tables e below (T5.setTop (mkF m 70 #[.val (.ref a0), .val (.long ((0 : Int64) ||| (((w &&& (127 : Int32)).toInt64) <<< ((0 : Int32) &&& 0x3f).toInt64))), .second, .val (.int (7 : Int32)), .val (.int w)] [])) _
    refine XS.iload X5.here hx rfl (hb hby dNb1_70) rfl ?_
    show Steps p.tables e below (T5.setTop (mkF m 72 _ [(.int w)])) _
    refine XS.sipush X5.here hx rfl (hb hby dNb1_72) ?_
    show Steps p.tables e below (T5.setTop (mkF m 75 _ [(.int (128 : Int32)), (.int w)])) _
    refine XS.iand X5.here hx rfl (hb hby dNb1_75) rfl ?_
    show Steps p.tables e below (T5.setTop (mkF m 76 _ [(.int (w &&& (128 : Int32)))])) _
    refine XS.ifNo X5.here hx rfl (hb hby dNb1_76) rfl ((if0 _ _).trans (teq (h4 : (w &&& (128 : Int32)) = (0 : Int32))).2) ?_
    show Steps p.tables e below (T5.setTop (mkF m 79 _ [])) _
    refine XS.lloadN X5.here hx rfl (hb hby dNb1_79) rfl ?_
    exact ht
  exact OFin.retJ X5 hx hlk hret (hb hby dNb1_80) (by decide) (by decide) (by rw [e5]; exact ⟨rfl, N12, K11, f8, f7, f13⟩)
theorem dNb2_0 : decode prog_64_method_4_code 0 = .ok (.lconst 0, 1) := by decide +kernel
theorem dNb2_1 : decode prog_64_method_4_code 1 = .ok (.lstore_n 1, 1) := by decide +kernel
theorem dNb2_2 : decode prog_64_method_4_code 2 = .ok (.iconst 0, 1) := by decide +kernel
theorem dNb2_3 : decode prog_64_method_4_code 3 = .ok (.istore_n 3, 1) := by decide +kernel
theorem dNb2_4 : decode prog_64_method_4_code 4 = .ok (.aload_n 0, 1) := by decide +kernel
theorem dNb2_5 : decode prog_64_method_4_code 5 = .ok (.getfield 32, 3) := by decide +kernel
theorem dNb2_8 : decode prog_64_method_4_code 8 = .ok (.aload_n 0, 1) := by decide +kernel
theorem dNb2_9 : decode prog_64_method_4_code 9 = .ok (.getfield 15, 3) := by decide +kernel
theorem dNb2_12 : decode prog_64_method_4_code 12 = .ok (.if_icmp .eq 9, 3) := by decide +kernel
theorem dNb2_15 : decode prog_64_method_4_code 15 = .ok (.iload_n 3, 1) := by decide +kernel
theorem dNb2_16 : decode prog_64_method_4_code 16 = .ok (.bipush 63, 2) := by decide +kernel
theorem dNb2_18 : decode prog_64_method_4_code 18 = .ok (.if_icmp .ne 20, 3) := by decide +kernel
theorem dNb2_38 : decode prog_64_method_4_code 38 = .ok (.aload_n 0, 1) := by decide +kernel
theorem dNb2_39 : decode prog_64_method_4_code 39 = .ok (.getfield 9, 3) := by decide +kernel
theorem dNb2_42 : decode prog_64_method_4_code 42 = .ok (.aload_n 0, 1) := by decide +kernel
theorem dNb2_43 : decode prog_64_method_4_code 43 = .ok (.dup, 1) := by decide +kernel
theorem dNb2_44 : decode prog_64_method_4_code 44 = .ok (.getfield 32, 3) := by decide +kernel
theorem dNb2_47 : decode prog_64_method_4_code 47 = .ok (.dup_x1, 1) := by decide +kernel
theorem dNb2_48 : decode prog_64_method_4_code 48 = .ok (.iconst 1, 1) := by decide +kernel
theorem dNb2_49 : decode prog_64_method_4_code 49 = .ok (.iadd, 1) := by decide +kernel
theorem dNb2_50 : decode prog_64_method_4_code 50 = .ok (.putfield 32, 3) := by decide +kernel
theorem dNb2_53 : decode prog_64_method_4_code 53 = .ok (.baload, 1) := by decide +kernel
theorem dNb2_54 : decode prog_64_method_4_code 54 = .ok (.istore 4, 2) := by decide +kernel
theorem dNb2_56 : decode prog_64_method_4_code 56 = .ok (.lload_n 1, 1) := by decide +kernel
theorem dNb2_57 : decode prog_64_method_4_code 57 = .ok (.iload 4, 2) := by decide +kernel
theorem dNb2_59 : decode prog_64_method_4_code 59 = .ok (.bipush 127, 2) := by decide +kernel
theorem dNb2_61 : decode prog_64_method_4_code 61 = .ok (.iand, 1) := by decide +kernel
theorem dNb2_62 : decode prog_64_method_4_code 62 = .ok (.i2l, 1) := by decide +kernel
theorem dNb2_63 : decode prog_64_method_4_code 63 = .ok (.iload_n 3, 1) := by decide +kernel
theorem dNb2_64 : decode prog_64_method_4_code 64 = .ok (.lshl, 1) := by decide +kernel
theorem dNb2_65 : decode prog_64_method_4_code 65 = .ok (.lor, 1) := by decide +kernel
theorem dNb2_66 : decode prog_64_method_4_code 66 = .ok (.lstore_n 1, 1) := by decide +kernel
theorem dNb2_67 : decode prog_64_method_4_code 67 = .ok (.iinc 3 7, 3) := by decide +kernel
theorem dNb2_70 : decode prog_64_method_4_code 70 = .ok (.iload 4, 2) := by decide +kernel
theorem dNb2_72 : decode prog_64_method_4_code 72 = .ok (.sipush 128, 3) := by decide +kernel
theorem dNb2_75 : decode prog_64_method_4_code 75 = .ok (.iand, 1) := by decide +kernel
theorem dNb2_76 : decode prog_64_method_4_code 76 = .ok (.ifCond .ne (-72), 3) := by decide +kernel
theorem dNb2_79 : decode prog_64_method_4_code 79 = .ok (.lload_n 1, 1) := by decide +kernel
theorem dNb2_80 : decode prog_64_method_4_code 80 = .ok (.lreturn, 1) := by decide +kernel
theorem pnNb2 : plainName "com/example/querant/querant/records/Packing$Reader" = true := by first | (simp [plainName, overriddenIn]; done) | decide +kernel
theorem efNb2 (m : MethodId) (a0 : Addr) : entryFrame m #[(.ref a0)] 5 = mkF m 0 #[.val (.ref a0), .unset, .unset, .unset, .unset] [] := by first | (simp [entryFrame, mkF, argsToLocals, Value.category]; done) | rfl
def QNb2 (Z : State) (a0 : Addr) (ab : Addr) (k : ClassId) (n : Int32) (vs : List Value) (i : Int32) (w : Int32) (w2 : Int32) (h0 : Heap) (n0 : Nat) (v : Option Value) (h : Heap) (L : List Loc) : Prop := v = some (.long (((0 : Int64) ||| (((w &&& (127 : Int32)).toInt64) <<< ((0 : Int32) &&& 0x3f).toInt64)) ||| (((w2 &&& (127 : Int32)).toInt64) <<< ((7 : Int32) &&& 0x3f).toInt64))) ∧ Fr n0 L ∧ Keep h0 h [a0] ∧ Fld Z h a0 "com/example/querant/querant/records/Packing$Reader" "bytes" "[B" (.ref ab) ∧ Fld Z h a0 "com/example/querant/querant/records/Packing$Reader" "end" "I" (.int n) ∧ Fld Z h a0 "com/example/querant/querant/records/Packing$Reader" "position" "I" (.int ((i + (1 : Int32)) + (1 : Int32)))
set_option maxRecDepth 65536 in
set_option maxHeartbeats 40000000 in
theorem rmNb2 (l : Launch) (Z : State) (a0 : Array Value) (hw : ∀ d ∈ tables_1, d.before a0 Z = true) (ws : List Jvm.Cond) (a0 : Addr) (ab : Addr) (k : ClassId) (n : Int32) (vs : List Value) (i : Int32) (w : Int32) (w2 : Int32) (h0 : Heap) (n0 : Nat) (Z0 : n0 ≤ h0.size) (E0 : Exa Z h0 a0 "com/example/querant/querant/records/Packing$Reader") (F1 : Fld Z h0 a0 "com/example/querant/querant/records/Packing$Reader" "position" "I" (.int i)) (F2 : Fld Z h0 a0 "com/example/querant/querant/records/Packing$Reader" "end" "I" (.int n)) (F3 : Fld Z h0 a0 "com/example/querant/querant/records/Packing$Reader" "bytes" "[B" (.ref ab)) (V1 : Arv Z h0 ab k .byte n vs (.int (0 : Int32))) (g0 : n0 ≤ a0) (hne : ab ≠ a0) (h1 : ¬ i = n) (h2 : ¬ i < 0 ∧ i < n) (h3 : vs.getD i.toNatClampNeg (.int (0 : Int32)) = .int w) (h4 : ¬ (w &&& (128 : Int32)) = (0 : Int32)) (j1 : ¬ (i + (1 : Int32)) = n) (j2 : ¬ (i + (1 : Int32)) < 0 ∧ (i + (1 : Int32)) < n) (j3 : vs.getD (i + (1 : Int32)).toNatClampNeg (.int (0 : Int32)) = .int w2) (j4 : (w2 &&& (128 : Int32)) = (0 : Int32)) :
    MetFree l (⟨"com/example/querant/querant/records/Packing$Reader", "number", "()J"⟩ : MethodName) (head1 (Jvm.Cond.code (⟨"com/example/querant/querant/records/Packing$Reader", "number", "()J"⟩ : MethodName) prog_64_method_4_code 5 (some .long) :: ws) ({ frames := 0, cells := 0, slots := 0, locals := 0 } : Room)) (fun a U => a = #[(.ref a0)] ∧ Z.Warmed39 U.vm ∧ U.heap = h0) (fun _ _ _ _ _ => True) (fun _ U o U' => ∃ v L, o = .returned v ∧ QNb2 Z a0 ab k n vs i w w2 h0 n0 v U'.heap L ∧ FrameEnd U o U' L ({ frames := 0, cells := 0, slots := 0, locals := 0 } : Room).cells ({ frames := 0, cells := 0, slots := 0, locals := 0 } : Room).slots) := by
  refine MetFree.of_bodySF (plainFor_of_name pnNb2) hisR ?_
  intro p e s m args below meth c s₁ Bd hml0 hP hK
  obtain ⟨rfl, hZ, hh⟩ := hP
  have hx := Bd.exec
  have hby := Bd.bytes
  have hlk := BodyLoose.notSynchronized Bd
  have hret := Bd.returns
  have hml : c.maxLocals = 5 := hml0
  have hown : s.vm.findClass "com/example/querant/querant/records/Packing$Reader" = some m.cls := findClass_of_methodNamed Bd.named
  have hnm := (name_of_methodNamed Bd.named Bd.method).1
  have X0 : Stand p l e ({ frames := 0, cells := 0, slots := 0, locals := 0 } : Room) s m #[(.ref a0)] below meth c s₁ [] 0 0 := Stand.of_body Bd
  have e0 : s₁.heap = h0 := by rw [← hh, Bd.state]; rfl
  have N0 := Fr.nil n0
  show OFin p e below (KPost s (QNb2 Z a0 ab k n vs i w w2 h0 n0) ({ frames := 0, cells := 0, slots := 0, locals := 0 } : Room).cells ({ frames := 0, cells := 0, slots := 0, locals := 0 } : Room).slots) _
  rw [efNb2 m a0]
  have K0 : Keep h0 h0 [a0] := Keep.refl _ _
  refine OFin.of (S' := s₁.setTop (mkF m 5 #[.val (.ref a0), .val (.long (0 : Int64)), .second, .val (.int (0 : Int32)), .unset] [(.ref a0)])) (fun t ht => ?_) ?_
  · refine XS.lconst X0.here hx rfl (hb hby dNb2_0) ?_
    show Steps p.tables e below (s₁.setTop (mkF m 1 _ [(.long (0 : Int64))])) _
    refine XS.lstoreN X0.here hx rfl (hb hby dNb2_1) rfl (l' := #[.val (.ref a0), .val (.long (0 : Int64)), .second, .unset, .unset]) rfl ?_
    show Steps p.tables e below (s₁.setTop (mkF m 2 #[.val (.ref a0), .val (.long (0 : Int64)), .second, .unset, .unset] [])) _
    refine XS.iconst X0.here hx rfl (hb hby dNb2_2) ?_
    show Steps p.tables e below (s₁.setTop (mkF m 3 _ [(.int (0 : Int32))])) _
    refine XS.istoreN X0.here hx rfl (hb hby dNb2_3) rfl (l' := #[.val (.ref a0), .val (.long (0 : Int64)), .second, .val (.int (0 : Int32)), .unset]) rfl ?_
    show Steps p.tables e below (s₁.setTop (mkF m 4 #[.val (.ref a0), .val (.long (0 : Int64)), .second, .val (.int (0 : Int32)), .unset] [])) _
    refine XS.aloadN X0.here hx rfl (hb hby dNb2_4) rfl rfl ?_
    exact ht
  obtain ⟨T1, X1, e1, st1⟩ := getF X0 hx hZ hown (host := "") (Or.inl (hw _ (List.mem_of_getElem? (i := 19) rfl))) Via.refl e0 F1 (g := (mkF m 5 #[.val (.ref a0), .val (.long (0 : Int64)), .second, .val (.int (0 : Int32)), .unset] [(.ref a0)])) rfl rfl (hb hby dNb2_5)
  refine OFin.of (S' := T1.setTop (mkF m 8 #[.val (.ref a0), .val (.long (0 : Int64)), .second, .val (.int (0 : Int32)), .unset] [(.int i)])) (fun t ht => st1 t ht) ?_
  refine OFin.of (S' := T1.setTop (mkF m 9 #[.val (.ref a0), .val (.long (0 : Int64)), .second, .val (.int (0 : Int32)), .unset] [(.ref a0), (.int i)])) (fun t ht => ?_) ?_
  · refine XS.aloadN X1.here hx rfl (hb hby dNb2_8) rfl rfl ?_
    exact ht
  obtain ⟨T2, X2, e2, st2⟩ := getF X1 hx hZ hown (host := "") (Or.inl (hw _ (List.mem_of_getElem? (i := 12) rfl))) Via.refl e1 F2 (g := (mkF m 9 #[.val (.ref a0), .val (.long (0 : Int64)), .second, .val (.int (0 : Int32)), .unset] [(.ref a0), (.int i)])) rfl rfl (hb hby dNb2_9)
  refine OFin.of (S' := T2.setTop (mkF m 12 #[.val (.ref a0), .val (.long (0 : Int64)), .second, .val (.int (0 : Int32)), .unset] [(.int n), (.int i)])) (fun t ht => st2 t ht) ?_
  refine OFin.of (S' := T2.setTop (mkF m 39 #[.val (.ref a0), .val (.long (0 : Int64)), .second, .val (.int (0 : Int32)), .unset] [(.ref a0)])) (fun t ht => ?_) ?_
  · refine XS.icmpNo X2.here hx rfl (hb hby dNb2_12) rfl (feq (h1 : ¬ (i = n))).1 ?_
    show Steps p.tables e below (T2.setTop (mkF m 15 _ [])) _
    refine XS.iloadN X2.here hx rfl (hb hby dNb2_15) rfl ?_
    show Steps p.tables e below (T2.setTop (mkF m 16 _ [(.int (0 : Int32))])) _
    refine XS.bipush X2.here hx rfl (hb hby dNb2_16) ?_
    show Steps p.tables e below (T2.setTop (mkF m 18 _ [(.int (63 : Int32)), (.int (0 : Int32))])) _
    refine XS.icmpYes X2.here hx rfl (pc0 := 18) (pc' := 38) rfl (hb hby dNb2_18) rfl (feq (by decide : ¬ ((0 : Int32) = (63 : Int32)))).2 (by decide) (by decide) ?_
    show Steps p.tables e below (T2.setTop (mkF m 38 _ [])) _
    refine XS.aloadN X2.here hx rfl (hb hby dNb2_38) rfl rfl ?_
    exact ht
  obtain ⟨T3, X3, e3, st3⟩ := getF X2 hx hZ hown (host := "") (Or.inl (hw _ (List.mem_of_getElem? (i := 10) rfl))) Via.refl e2 F3 (g := (mkF m 39 #[.val (.ref a0), .val (.long (0 : Int64)), .second, .val (.int (0 : Int32)), .unset] [(.ref a0)])) rfl rfl (hb hby dNb2_39)
  refine OFin.of (S' := T3.setTop (mkF m 42 #[.val (.ref a0), .val (.long (0 : Int64)), .second, .val (.int (0 : Int32)), .unset] [(.ref ab)])) (fun t ht => st3 t ht) ?_
  refine OFin.of (S' := T3.setTop (mkF m 44 #[.val (.ref a0), .val (.long (0 : Int64)), .second, .val (.int (0 : Int32)), .unset] [(.ref a0), (.ref a0), (.ref ab)])) (fun t ht => ?_) ?_
  · refine XS.aloadN X3.here hx rfl (hb hby dNb2_42) rfl rfl ?_
    show Steps p.tables e below (T3.setTop (mkF m 43 _ [(.ref a0), (.ref ab)])) _
    refine XS.dup X3.here hx rfl (hb hby dNb2_43) rfl rfl ?_
    exact ht
  obtain ⟨T4, X4, e4, st4⟩ := getF X3 hx hZ hown (host := "") (Or.inl (hw _ (List.mem_of_getElem? (i := 19) rfl))) Via.refl e3 F1 (g := (mkF m 44 #[.val (.ref a0), .val (.long (0 : Int64)), .second, .val (.int (0 : Int32)), .unset] [(.ref a0), (.ref a0), (.ref ab)])) rfl rfl (hb hby dNb2_44)
  refine OFin.of (S' := T4.setTop (mkF m 47 #[.val (.ref a0), .val (.long (0 : Int64)), .second, .val (.int (0 : Int32)), .unset] [(.int i), (.ref a0), (.ref ab)])) (fun t ht => st4 t ht) ?_
  refine OFin.of (S' := T4.setTop (mkF m 50 #[.val (.ref a0), .val (.long (0 : Int64)), .second, .val (.int (0 : Int32)), .unset] [(.int (i + (1 : Int32))), (.ref a0), (.int i), (.ref ab)])) (fun t ht => ?_) ?_
  · refine XS.dupX1 X4.here hx rfl (hb hby dNb2_47) rfl rfl rfl ?_
    show Steps p.tables e below (T4.setTop (mkF m 48 _ [(.int i), (.ref a0), (.int i), (.ref ab)])) _
    refine XS.iconst X4.here hx rfl (hb hby dNb2_48) ?_
    show Steps p.tables e below (T4.setTop (mkF m 49 _ [(.int (1 : Int32)), (.int i), (.ref a0), (.int i), (.ref ab)])) _
    refine XS.iadd X4.here hx rfl (hb hby dNb2_49) rfl ?_
    exact ht
  obtain ⟨T5, h5, X5, e5, W5, st5⟩ := putF X4 hx hZ hown (host := "") (Or.inl (hw _ (List.mem_of_getElem? (i := 19) rfl))) Via.refl e4 F1 E0 (Or.inl (hw _ (List.mem_of_getElem? (i := 20) rfl))) (hw _ (List.mem_of_getElem? (i := 2) rfl)) (ty := .int) (by decide) rfl rfl (g := (mkF m 50 #[.val (.ref a0), .val (.long (0 : Int64)), .second, .val (.int (0 : Int32)), .unset] [(.int (i + (1 : Int32))), (.ref a0), (.int i), (.ref ab)])) rfl rfl (hb hby dNb2_50)
  have f6 := (E0.wr W5)
  have f7 := (F2.other W5 (Or.inr (slot_ne (Or.inr (hw _ (List.mem_of_getElem? (i := 13) rfl))) (Or.inl (hw _ (List.mem_of_getElem? (i := 20) rfl))) (by decide) (t := .int) (t' := .int) (by decide) (by decide))))
  have f8 := (F3.other W5 (Or.inr (slot_ne (Or.inr (hw _ (List.mem_of_getElem? (i := 11) rfl))) (Or.inl (hw _ (List.mem_of_getElem? (i := 20) rfl))) (by decide) (t := (.array .byte)) (t' := .int) (by decide) (by decide))))
  have f9 := (V1.other W5 hne)
  have Z10 : n0 ≤ h5.size := (Nat.le_trans Z0 (Keep.of_wr W5).1)
  have K11 : Keep h0 h5 [a0] := (K0.wr W5 (Or.inl (List.mem_of_getElem? (i := 0) rfl)))
  have N12 := Fr.snoc X5 N0 g0
  have f13 : Fld Z h5 a0 "com/example/querant/querant/records/Packing$Reader" "position" "I" (.int (i + (1 : Int32))) := (F1.same W5)
  refine OFin.of (S' := T5.setTop (mkF m 53 #[.val (.ref a0), .val (.long (0 : Int64)), .second, .val (.int (0 : Int32)), .unset] [(.int i), (.ref ab)])) (fun t ht => st5 t ht) ?_
  obtain ⟨cl14, Ar14, q14, S14, Ng14, H14, G14⟩ := id f9
  have hin14 := inb_of (j := i) S14 h2
  have hat14 : cl14.slots[(i).toNatClampNeg]? = some (.int w) := Has.at H14 hin14 h3
  refine OFin.of (S' := T5.setTop (mkF m 54 #[.val (.ref a0), .val (.long (0 : Int64)), .second, .val (.int (0 : Int32)), .unset] [(.int w)])) (fun t ht => X5.baloadBytes hx (j := i) (v := (.int w)) (by rw [e5]; exact Ar14.1) (State.isArrayOf_alike hZ.alike Ar14.2.1) Ar14.2.2 hin14 hat14 (g := (mkF m 53 #[.val (.ref a0), .val (.long (0 : Int64)), .second, .val (.int (0 : Int32)), .unset] [(.int i), (.ref ab)])) rfl rfl (hb hby dNb2_53) _ ht) ?_
  refine OFin.of (S' := T5.setTop (mkF m 5 #[.val (.ref a0), .val (.long ((0 : Int64) ||| (((w &&& (127 : Int32)).toInt64) <<< ((0 : Int32) &&& 0x3f).toInt64))), .second, .val (.int (7 : Int32)), .val (.int w)] [(.ref a0)])) (fun t ht => ?_) ?_
  · refine XS.istore X5.here hx rfl (hb hby dNb2_54) rfl (l' := #[.val (.ref a0), .val (.long (0 : Int64)), .second, .val (.int (0 : Int32)), .val (.int w)]) rfl ?_
    show Steps p.tables e below (T5.setTop (mkF m 56 #[.val (.ref a0), .val (.long (0 : Int64)), .second, .val (.int (0 : Int32)), .val (.int w)] [])) _
    refine XS.lloadN X5.here hx rfl (hb hby dNb2_56) rfl ?_
    show Steps p.tables e below (T5.setTop (mkF m 57 _ [(.long (0 : Int64))])) _
    refine XS.iload X5.here hx rfl (hb hby dNb2_57) rfl ?_
    show Steps p.tables e below (T5.setTop (mkF m 59 _ [(.int w), (.long (0 : Int64))])) _
    refine XS.bipush X5.here hx rfl (hb hby dNb2_59) ?_
    show Steps p.tables e below (T5.setTop (mkF m 61 _ [(.int (127 : Int32)), (.int w), (.long (0 : Int64))])) _
    refine XS.iand X5.here hx rfl (hb hby dNb2_61) rfl ?_
    show Steps p.tables e below (T5.setTop (mkF m 62 _ [(.int (w &&& (127 : Int32))), (.long (0 : Int64))])) _
    refine XS.i2l X5.here hx rfl (hb hby dNb2_62) rfl ?_
    show Steps p.tables e below (T5.setTop (mkF m 63 _ [(.long ((w &&& (127 : Int32)).toInt64)), (.long (0 : Int64))])) _
    refine XS.iloadN X5.here hx rfl (hb hby dNb2_63) rfl ?_
    show Steps p.tables e below (T5.setTop (mkF m 64 _ [(.int (0 : Int32)), (.long ((w &&& (127 : Int32)).toInt64)), (.long (0 : Int64))])) _
    refine XS.lshl X5.here hx rfl (hb hby dNb2_64) rfl ?_
    show Steps p.tables e below (T5.setTop (mkF m 65 _ [(.long (((w &&& (127 : Int32)).toInt64) <<< ((0 : Int32) &&& 0x3f).toInt64)), (.long (0 : Int64))])) _
    refine XS.lor X5.here hx rfl (hb hby dNb2_65) rfl ?_
    show Steps p.tables e below (T5.setTop (mkF m 66 _ [(.long ((0 : Int64) ||| (((w &&& (127 : Int32)).toInt64) <<< ((0 : Int32) &&& 0x3f).toInt64)))])) _
    refine XS.lstoreN X5.here hx rfl (hb hby dNb2_66) rfl (l' := #[.val (.ref a0), .val (.long ((0 : Int64) ||| (((w &&& (127 : Int32)).toInt64) <<< ((0 : Int32) &&& 0x3f).toInt64))), .second, .val (.int (0 : Int32)), .val (.int w)]) rfl ?_
    show Steps p.tables e below (T5.setTop (mkF m 67 #[.val (.ref a0), .val (.long ((0 : Int64) ||| (((w &&& (127 : Int32)).toInt64) <<< ((0 : Int32) &&& 0x3f).toInt64))), .second, .val (.int (0 : Int32)), .val (.int w)] [])) _
    refine XS.iinc X5.here hx rfl (hb hby dNb2_67) rfl (l' := #[.val (.ref a0), .val (.long ((0 : Int64) ||| (((w &&& (127 : Int32)).toInt64) <<< ((0 : Int32) &&& 0x3f).toInt64))), .second, .val (.int (7 : Int32)), .val (.int w)]) rfl ?_
    show Steps p.tables e below (T5.setTop (mkF m 70 #[.val (.ref a0), .val (.long ((0 : Int64) ||| (((w &&& (127 : Int32)).toInt64) <<< ((0 : Int32) &&& 0x3f).toInt64))), .second, .val (.int (7 : Int32)), .val (.int w)] [])) _
    refine XS.iload X5.here hx rfl (hb hby dNb2_70) rfl ?_
    show Steps p.tables e below (T5.setTop (mkF m 72 _ [(.int w)])) _
    refine XS.sipush X5.here hx rfl (hb hby dNb2_72) ?_
    show Steps p.tables e below (T5.setTop (mkF m 75 _ [(.int (128 : Int32)), (.int w)])) _
    refine XS.iand X5.here hx rfl (hb hby dNb2_75) rfl ?_
    show Steps p.tables e below (T5.setTop (mkF m 76 _ [(.int (w &&& (128 : Int32)))])) _
    refine XS.ifYes X5.here hx rfl (pc0 := 76) (pc' := 4) rfl (hb hby dNb2_76) rfl ((if0 _ _).trans (feq (h4 : ¬ ((w &&& (128 : Int32)) = (0 : Int32)))).2) (by decide) (by decide) ?_
    show Steps p.tables e below (T5.setTop (mkF m 4 _ [])) _
    refine XS.aloadN X5.here hx rfl (hb hby dNb2_4) rfl rfl ?_
    exact ht
  obtain ⟨T15, X15, e15, st15⟩ := getF X5 hx hZ hown (host := "") (Or.inl (hw _ (List.mem_of_getElem? (i := 19) rfl))) Via.refl e5 f13 (g := (mkF m 5 #[.val (.ref a0), .val (.long ((0 : Int64) ||| (((w &&& (127 : Int32)).toInt64) <<< ((0 : Int32) &&& 0x3f).toInt64))), .second, .val (.int (7 : Int32)), .val (.int w)] [(.ref a0)])) rfl rfl (hb hby dNb2_5)
  refine OFin.of (S' := T15.setTop (mkF m 8 #[.val (.ref a0), .val (.long ((0 : Int64) ||| (((w &&& (127 : Int32)).toInt64) <<< ((0 : Int32) &&& 0x3f).toInt64))), .second, .val (.int (7 : Int32)), .val (.int w)] [(.int (i + (1 : Int32)))])) (fun t ht => st15 t ht) ?_
  refine OFin.of (S' := T15.setTop (mkF m 9 #[.val (.ref a0), .val (.long ((0 : Int64) ||| (((w &&& (127 : Int32)).toInt64) <<< ((0 : Int32) &&& 0x3f).toInt64))), .second, .val (.int (7 : Int32)), .val (.int w)] [(.ref a0), (.int (i + (1 : Int32)))])) (fun t ht => ?_) ?_
  · refine XS.aloadN X15.here hx rfl (hb hby dNb2_8) rfl rfl ?_
    exact ht
  obtain ⟨T16, X16, e16, st16⟩ := getF X15 hx hZ hown (host := "") (Or.inl (hw _ (List.mem_of_getElem? (i := 12) rfl))) Via.refl e15 f7 (g := (mkF m 9 #[.val (.ref a0), .val (.long ((0 : Int64) ||| (((w &&& (127 : Int32)).toInt64) <<< ((0 : Int32) &&& 0x3f).toInt64))), .second, .val (.int (7 : Int32)), .val (.int w)] [(.ref a0), (.int (i + (1 : Int32)))])) rfl rfl (hb hby dNb2_9)
  refine OFin.of (S' := T16.setTop (mkF m 12 #[.val (.ref a0), .val (.long ((0 : Int64) ||| (((w &&& (127 : Int32)).toInt64) <<< ((0 : Int32) &&& 0x3f).toInt64))), .second, .val (.int (7 : Int32)), .val (.int w)] [(.int n), (.int (i + (1 : Int32)))])) (fun t ht => st16 t ht) ?_
  refine OFin.of (S' := T16.setTop (mkF m 39 #[.val (.ref a0), .val (.long ((0 : Int64) ||| (((w &&& (127 : Int32)).toInt64) <<< ((0 : Int32) &&& 0x3f).toInt64))), .second, .val (.int (7 : Int32)), .val (.int w)] [(.ref a0)])) (fun t ht => ?_) ?_
  · refine XS.icmpNo X16.here hx rfl (hb hby dNb2_12) rfl (feq (j1 : ¬ ((i + (1 : Int32)) = n))).1 ?_
    show Steps p.tables e below (T16.setTop (mkF m 15 _ [])) _
    refine XS.iloadN X16.here hx rfl (hb hby dNb2_15) rfl ?_
    show Steps p.tables e below (T16.setTop (mkF m 16 _ [(.int (7 : Int32))])) _
    refine XS.bipush X16.here hx rfl (hb hby dNb2_16) ?_
    show Steps p.tables e below (T16.setTop (mkF m 18 _ [(.int (63 : Int32)), (.int (7 : Int32))])) _
    refine XS.icmpYes X16.here hx rfl (pc0 := 18) (pc' := 38) rfl (hb hby dNb2_18) rfl (feq (by decide : ¬ ((7 : Int32) = (63 : Int32)))).2 (by decide) (by decide) ?_
    show Steps p.tables e below (T16.setTop (mkF m 38 _ [])) _
    refine XS.aloadN X16.here hx rfl (hb hby dNb2_38) rfl rfl ?_
    exact ht
  obtain ⟨T17, X17, e17, st17⟩ := getF X16 hx hZ hown (host := "") (Or.inl (hw _ (List.mem_of_getElem? (i := 10) rfl))) Via.refl e16 f8 (g := (mkF m 39 #[.val (.ref a0), .val (.long ((0 : Int64) ||| (((w &&& (127 : Int32)).toInt64) <<< ((0 : Int32) &&& 0x3f).toInt64))), .second, .val (.int (7 : Int32)), .val (.int w)] [(.ref a0)])) rfl rfl (hb hby dNb2_39)
  refine OFin.of (S' := T17.setTop (mkF m 42 #[.val (.ref a0), .val (.long ((0 : Int64) ||| (((w &&& (127 : Int32)).toInt64) <<< ((0 : Int32) &&& 0x3f).toInt64))), .second, .val (.int (7 : Int32)), .val (.int w)] [(.ref ab)])) (fun t ht => st17 t ht) ?_
  refine OFin.of (S' := T17.setTop (mkF m 44 #[.val (.ref a0), .val (.long ((0 : Int64) ||| (((w &&& (127 : Int32)).toInt64) <<< ((0 : Int32) &&& 0x3f).toInt64))), .second, .val (.int (7 : Int32)), .val (.int w)] [(.ref a0), (.ref a0), (.ref ab)])) (fun t ht => ?_) ?_
  · refine XS.aloadN X17.here hx rfl (hb hby dNb2_42) rfl rfl ?_
    show Steps p.tables e below (T17.setTop (mkF m 43 _ [(.ref a0), (.ref ab)])) _
    refine XS.dup X17.here hx rfl (hb hby dNb2_43) rfl rfl ?_
    exact ht
  obtain ⟨T18, X18, e18, st18⟩ := getF X17 hx hZ hown (host := "") (Or.inl (hw _ (List.mem_of_getElem? (i := 19) rfl))) Via.refl e17 f13 (g := (mkF m 44 #[.val (.ref a0), .val (.long ((0 : Int64) ||| (((w &&& (127 : Int32)).toInt64) <<< ((0 : Int32) &&& 0x3f).toInt64))), .second, .val (.int (7 : Int32)), .val (.int w)] [(.ref a0), (.ref a0), (.ref ab)])) rfl rfl (hb hby dNb2_44)
  refine OFin.of (S' := T18.setTop (mkF m 47 #[.val (.ref a0), .val (.long ((0 : Int64) ||| (((w &&& (127 : Int32)).toInt64) <<< ((0 : Int32) &&& 0x3f).toInt64))), .second, .val (.int (7 : Int32)), .val (.int w)] [(.int (i + (1 : Int32))), (.ref a0), (.ref ab)])) (fun t ht => st18 t ht) ?_
  refine OFin.of (S' := T18.setTop (mkF m 50 #[.val (.ref a0), .val (.long ((0 : Int64) ||| (((w &&& (127 : Int32)).toInt64) <<< ((0 : Int32) &&& 0x3f).toInt64))), .second, .val (.int (7 : Int32)), .val (.int w)] [(.int ((i + (1 : Int32)) + (1 : Int32))), (.ref a0), (.int (i + (1 : Int32))), (.ref ab)])) (fun t ht => ?_) ?_
  · refine XS.dupX1 X18.here hx rfl (hb hby dNb2_47) rfl rfl rfl ?_
    show Steps p.tables e below (T18.setTop (mkF m 48 _ [(.int (i + (1 : Int32))), (.ref a0), (.int (i + (1 : Int32))), (.ref ab)])) _
    refine XS.iconst X18.here hx rfl (hb hby dNb2_48) ?_
    show Steps p.tables e below (T18.setTop (mkF m 49 _ [(.int (1 : Int32)), (.int (i + (1 : Int32))), (.ref a0), (.int (i + (1 : Int32))), (.ref ab)])) _
    refine XS.iadd X18.here hx rfl (hb hby dNb2_49) rfl ?_
    exact ht
  obtain ⟨T19, h19, X19, e19, W19, st19⟩ := putF X18 hx hZ hown (host := "") (Or.inl (hw _ (List.mem_of_getElem? (i := 19) rfl))) Via.refl e18 f13 f6 (Or.inl (hw _ (List.mem_of_getElem? (i := 20) rfl))) (hw _ (List.mem_of_getElem? (i := 2) rfl)) (ty := .int) (by decide) rfl rfl (g := (mkF m 50 #[.val (.ref a0), .val (.long ((0 : Int64) ||| (((w &&& (127 : Int32)).toInt64) <<< ((0 : Int32) &&& 0x3f).toInt64))), .second, .val (.int (7 : Int32)), .val (.int w)] [(.int ((i + (1 : Int32)) + (1 : Int32))), (.ref a0), (.int (i + (1 : Int32))), (.ref ab)])) rfl rfl (hb hby dNb2_50)
  have f20 := (f6.wr W19)
  have f21 := (f7.other W19 (Or.inr (slot_ne (Or.inr (hw _ (List.mem_of_getElem? (i := 13) rfl))) (Or.inl (hw _ (List.mem_of_getElem? (i := 20) rfl))) (by decide) (t := .int) (t' := .int) (by decide) (by decide))))
  have f22 := (f8.other W19 (Or.inr (slot_ne (Or.inr (hw _ (List.mem_of_getElem? (i := 11) rfl))) (Or.inl (hw _ (List.mem_of_getElem? (i := 20) rfl))) (by decide) (t := (.array .byte)) (t' := .int) (by decide) (by decide))))
  have f23 := (f9.other W19 hne)
  have Z24 : n0 ≤ h19.size := (Nat.le_trans Z10 (Keep.of_wr W19).1)
  have K25 : Keep h0 h19 [a0] := (K11.wr W19 (Or.inl (List.mem_of_getElem? (i := 0) rfl)))
  have N26 := Fr.snoc X19 N12 g0
  have f27 : Fld Z h19 a0 "com/example/querant/querant/records/Packing$Reader" "position" "I" (.int ((i + (1 : Int32)) + (1 : Int32))) := (f13.same W19)
  refine OFin.of (S' := T19.setTop (mkF m 53 #[.val (.ref a0), .val (.long ((0 : Int64) ||| (((w &&& (127 : Int32)).toInt64) <<< ((0 : Int32) &&& 0x3f).toInt64))), .second, .val (.int (7 : Int32)), .val (.int w)] [(.int (i + (1 : Int32))), (.ref ab)])) (fun t ht => st19 t ht) ?_
  obtain ⟨cl28, Ar28, q28, S28, Ng28, H28, G28⟩ := id f23
  have hin28 := inb_of (j := (i + (1 : Int32))) S28 j2
  have hat28 : cl28.slots[((i + (1 : Int32))).toNatClampNeg]? = some (.int w2) := Has.at H28 hin28 j3
  refine OFin.of (S' := T19.setTop (mkF m 54 #[.val (.ref a0), .val (.long ((0 : Int64) ||| (((w &&& (127 : Int32)).toInt64) <<< ((0 : Int32) &&& 0x3f).toInt64))), .second, .val (.int (7 : Int32)), .val (.int w)] [(.int w2)])) (fun t ht => X19.baloadBytes hx (j := (i + (1 : Int32))) (v := (.int w2)) (by rw [e19]; exact Ar28.1) (State.isArrayOf_alike hZ.alike Ar28.2.1) Ar28.2.2 hin28 hat28 (g := (mkF m 53 #[.val (.ref a0), .val (.long ((0 : Int64) ||| (((w &&& (127 : Int32)).toInt64) <<< ((0 : Int32) &&& 0x3f).toInt64))), .second, .val (.int (7 : Int32)), .val (.int w)] [(.int (i + (1 : Int32))), (.ref ab)])) rfl rfl (hb hby dNb2_53) _ ht) ?_
  refine OFin.of (S' := T19.setTop (mkF m 80 #[.val (.ref a0), .val (.long (((0 : Int64) ||| (((w &&& (127 : Int32)).toInt64) <<< ((0 : Int32) &&& 0x3f).toInt64)) ||| (((w2 &&& (127 : Int32)).toInt64) <<< ((7 : Int32) &&& 0x3f).toInt64))), .second, .val (.int (14 : Int32)), .val (.int w2)] [(.long (((0 : Int64) ||| (((w &&& (127 : Int32)).toInt64) <<< ((0 : Int32) &&& 0x3f).toInt64)) ||| (((w2 &&& (127 : Int32)).toInt64) <<< ((7 : Int32) &&& 0x3f).toInt64)))])) (fun t ht => ?_) ?_
  · refine XS.istore X19.here hx rfl (hb hby dNb2_54) rfl (l' := #[.val (.ref a0), .val (.long ((0 : Int64) ||| (((w &&& (127 : Int32)).toInt64) <<< ((0 : Int32) &&& 0x3f).toInt64))), .second, .val (.int (7 : Int32)), .val (.int w2)]) rfl ?_
    show Steps p.tables e below (T19.setTop (mkF m 56 #[.val (.ref a0), .val (.long ((0 : Int64) ||| (((w &&& (127 : Int32)).toInt64) <<< ((0 : Int32) &&& 0x3f).toInt64))), .second, .val (.int (7 : Int32)), .val (.int w2)] [])) _
    refine XS.lloadN X19.here hx rfl (hb hby dNb2_56) rfl ?_
    show Steps p.tables e below (T19.setTop (mkF m 57 _ [(.long ((0 : Int64) ||| (((w &&& (127 : Int32)).toInt64) <<< ((0 : Int32) &&& 0x3f).toInt64)))])) _
    refine XS.iload X19.here hx rfl (hb hby dNb2_57) rfl ?_
    show Steps p.tables e below (T19.setTop (mkF m 59 _ [(.int w2), (.long ((0 : Int64) ||| (((w &&& (127 : Int32)).toInt64) <<< ((0 : Int32) &&& 0x3f).toInt64)))])) _
    refine XS.bipush X19.here hx rfl (hb hby dNb2_59) ?_
    show Steps p.tables e below (T19.setTop (mkF m 61 _ [(.int (127 : Int32)), (.int w2), (.long ((0 : Int64) ||| (((w &&& (127 : Int32)).toInt64) <<< ((0 : Int32) &&& 0x3f).toInt64)))])) _
    refine XS.iand X19.here hx rfl (hb hby dNb2_61) rfl ?_
    show Steps p.tables e below (T19.setTop (mkF m 62 _ [(.int (w2 &&& (127 : Int32))), (.long ((0 : Int64) ||| (((w &&& (127 : Int32)).toInt64) <<< ((0 : Int32) &&& 0x3f).toInt64)))])) _
    refine XS.i2l X19.here hx rfl (hb hby dNb2_62) rfl ?_
    show Steps p.tables e below (T19.setTop (mkF m 63 _ [(.long ((w2 &&& (127 : Int32)).toInt64)), (.long ((0 : Int64) ||| (((w &&& (127 : Int32)).toInt64) <<< ((0 : Int32) &&& 0x3f).toInt64)))])) _
    refine XS.iloadN X19.here hx rfl (hb hby dNb2_63) rfl ?_
    show Steps p.tables e below (T19.setTop (mkF m 64 _ [(.int (7 : Int32)), (.long ((w2 &&& (127 : Int32)).toInt64)), (.long ((0 : Int64) ||| (((w &&& (127 : Int32)).toInt64) <<< ((0 : Int32) &&& 0x3f).toInt64)))])) _
    refine XS.lshl X19.here hx rfl (hb hby dNb2_64) rfl ?_
    show Steps p.tables e below (T19.setTop (mkF m 65 _ [(.long (((w2 &&& (127 : Int32)).toInt64) <<< ((7 : Int32) &&& 0x3f).toInt64)), (.long ((0 : Int64) ||| (((w &&& (127 : Int32)).toInt64) <<< ((0 : Int32) &&& 0x3f).toInt64)))])) _
    refine XS.lor X19.here hx rfl (hb hby dNb2_65) rfl ?_
    show Steps p.tables e below (T19.setTop (mkF m 66 _ [(.long (((0 : Int64) ||| (((w &&& (127 : Int32)).toInt64) <<< ((0 : Int32) &&& 0x3f).toInt64)) ||| (((w2 &&& (127 : Int32)).toInt64) <<< ((7 : Int32) &&& 0x3f).toInt64)))])) _
    refine XS.lstoreN X19.here hx rfl (hb hby dNb2_66) rfl (l' := #[.val (.ref a0), .val (.long (((0 : Int64) ||| (((w &&& (127 : Int32)).toInt64) <<< ((0 : Int32) &&& 0x3f).toInt64)) ||| (((w2 &&& (127 : Int32)).toInt64) <<< ((7 : Int32) &&& 0x3f).toInt64))), .second, .val (.int (7 : Int32)), .val (.int w2)]) rfl ?_
    show Steps p.tables e below (T19.setTop (mkF m 67 #[.val (.ref a0), .val (.long (((0 : Int64) ||| (((w &&& (127 : Int32)).toInt64) <<< ((0 : Int32) &&& 0x3f).toInt64)) ||| (((w2 &&& (127 : Int32)).toInt64) <<< ((7 : Int32) &&& 0x3f).toInt64))), .second, .val (.int (7 : Int32)), .val (.int w2)] [])) _
    refine XS.iinc X19.here hx rfl (hb hby dNb2_67) rfl (l' := #[.val (.ref a0), .val (.long (((0 : Int64) ||| (((w &&& (127 : Int32)).toInt64) <<< ((0 : Int32) &&& 0x3f).toInt64)) ||| (((w2 &&& (127 : Int32)).toInt64) <<< ((7 : Int32) &&& 0x3f).toInt64))), .second, .val (.int (14 : Int32)), .val (.int w2)]) rfl ?_
    show Steps p.tables e below (T19.setTop (mkF m 70 #[.val (.ref a0), .val (.long (((0 : Int64) ||| (((w &&& (127 : Int32)).toInt64) <<< ((0 : Int32) &&& 0x3f).toInt64)) ||| (((w2 &&& (127 : Int32)).toInt64) <<< ((7 : Int32) &&& 0x3f).toInt64))), .second, .val (.int (14 : Int32)), .val (.int w2)] [])) _
    refine XS.iload X19.here hx rfl (hb hby dNb2_70) rfl ?_
    show Steps p.tables e below (T19.setTop (mkF m 72 _ [(.int w2)])) _
    refine XS.sipush X19.here hx rfl (hb hby dNb2_72) ?_
    show Steps p.tables e below (T19.setTop (mkF m 75 _ [(.int (128 : Int32)), (.int w2)])) _
    refine XS.iand X19.here hx rfl (hb hby dNb2_75) rfl ?_
    show Steps p.tables e below (T19.setTop (mkF m 76 _ [(.int (w2 &&& (128 : Int32)))])) _
    refine XS.ifNo X19.here hx rfl (hb hby dNb2_76) rfl ((if0 _ _).trans (teq (j4 : (w2 &&& (128 : Int32)) = (0 : Int32))).2) ?_
    show Steps p.tables e below (T19.setTop (mkF m 79 _ [])) _
    refine XS.lloadN X19.here hx rfl (hb hby dNb2_79) rfl ?_
    exact ht
  exact OFin.retJ X19 hx hlk hret (hb hby dNb2_80) (by decide) (by decide) (by rw [e19]; exact ⟨rfl, N26, K25, f22, f21, f27⟩)
theorem pn0 : plainName "com/example/querant/querant/records/ReaderHasMorePinLaw" = true := by first | (simp [plainName, overriddenIn]; done) | decide +kernel
theorem ef0 (m : MethodId) (p0 : Int32) (p1 : Int32) (p2 : Int32) (p3 : Int32) : entryFrame m #[(.int p0), (.int p1), (.int p2), (.int p3)] maxLocals = mkF m 0 #[.val (.int p0), .val (.int p1), .val (.int p2), .val (.int p3), .unset, .unset, .unset, .unset, .unset, .unset] [] := by first | (simp [entryFrame, mkF, argsToLocals, Value.category, maxLocals]; done) | rfl
def Q0 (Z : State) (p0 : Int32) (p1 : Int32) (p2 : Int32) (p3 : Int32) (h0 : Heap) (n0 : Nat) (v : Option Value) (h : Heap) (L : List Loc) : Prop := v = some (.int (1 : Int32)) ∧ Fr n0 L
set_option maxRecDepth 65536 in
set_option maxHeartbeats 40000000 in
theorem rm0 (l : Launch) (Z : State) (a0 : Array Value) (hw : ∀ d ∈ tables_1, d.before a0 Z = true) (ws : List Jvm.Cond) (p0 : Int32) (p1 : Int32) (p2 : Int32) (p3 : Int32) (h0 : Heap) (n0 : Nat) (Z0 : n0 ≤ h0.size)  :
    MetFree l x (head1 (Jvm.Cond.code x code maxLocals ret :: ws) room_1) (fun a U => a = #[(.int p0), (.int p1), (.int p2), (.int p3)] ∧ Z.Warmed39 U.vm ∧ U.heap = h0) (fun _ _ _ _ _ => True) (fun _ U o U' => ∃ v L, o = .returned v ∧ Q0 Z p0 p1 p2 p3 h0 n0 v U'.heap L ∧ FrameEnd U o U' L room_1.cells room_1.slots) := by
  refine MetFree.of_bodySF (plainFor_of_name pn0) hisR ?_
  intro p e s m args below meth c s₁ Bd hml0 hP hK
  obtain ⟨rfl, hZ, hh⟩ := hP
  have hx := Bd.exec
  have hby := Bd.bytes
  have hlk := BodyLoose.notSynchronized Bd
  have hret := Bd.returns
  have hml : c.maxLocals = 10 := hml0
  have hown : s.vm.findClass "com/example/querant/querant/records/ReaderHasMorePinLaw" = some m.cls := findClass_of_methodNamed Bd.named
  have hnm := (name_of_methodNamed Bd.named Bd.method).1
  have X0 : Stand p l e room_1 s m #[(.int p0), (.int p1), (.int p2), (.int p3)] below meth c s₁ [] 0 0 := Stand.of_body Bd
  have e0 : s₁.heap = h0 := by rw [← hh, Bd.state]; rfl
  have N0 := Fr.nil n0
  show OFin p e below (KPost s (Q0 Z p0 p1 p2 p3 h0 n0) room_1.cells room_1.slots) _
  rw [ef0 m p0 p1 p2 p3]
  refine OFin.of (S' := s₁.setTop (mkF m 3 #[.val (.int p0), .val (.int p1), .val (.int p2), .val (.int p3), .unset, .unset, .unset, .unset, .unset, .unset] [(.int (p0 &&& (3 : Int32)))])) (fun t ht => ?_) ?_
  · refine XS.iloadN X0.here hx rfl (hb hby at_0) rfl ?_
    show Steps p.tables e below (s₁.setTop (mkF m 1 _ [(.int p0)])) _
    refine XS.iconst X0.here hx rfl (hb hby at_1) ?_
    show Steps p.tables e below (s₁.setTop (mkF m 2 _ [(.int (3 : Int32)), (.int p0)])) _
    refine XS.iand X0.here hx rfl (hb hby at_2) rfl ?_
    exact ht
  rcases (own_and3 _ : (p0 &&& (3 : Int32)) = (0 : Int32) ∨ (p0 &&& (3 : Int32)) = (1 : Int32) ∨ (p0 &&& (3 : Int32)) = (2 : Int32) ∨ (p0 &&& (3 : Int32)) = (3 : Int32)) with hq1 | hq1 | hq1 | hq1
  · rw [hq1]
    refine OFin.of (S' := s₁.setTop (mkF m 10 #[.val (.int p0), .val (.int p1), .val (.int p2), .val (.int p3), .val (.int (0 : Int32)), .unset, .unset, .unset, .unset, .unset] [(.int ((p0 >>> ((2 : Int32) &&& 31)) &&& (1 : Int32)))])) (fun t ht => ?_) ?_
    · refine XS.istore X0.here hx rfl (hb hby at_3) rfl (l' := #[.val (.int p0), .val (.int p1), .val (.int p2), .val (.int p3), .val (.int (0 : Int32)), .unset, .unset, .unset, .unset, .unset]) rfl ?_
      show Steps p.tables e below (s₁.setTop (mkF m 5 #[.val (.int p0), .val (.int p1), .val (.int p2), .val (.int p3), .val (.int (0 : Int32)), .unset, .unset, .unset, .unset, .unset] [])) _
      refine XS.iloadN X0.here hx rfl (hb hby at_5) rfl ?_
      show Steps p.tables e below (s₁.setTop (mkF m 6 _ [(.int p0)])) _
      refine XS.iconst X0.here hx rfl (hb hby at_6) ?_
      show Steps p.tables e below (s₁.setTop (mkF m 7 _ [(.int (2 : Int32)), (.int p0)])) _
      refine XS.ishr X0.here hx rfl (hb hby at_7) rfl ?_
      show Steps p.tables e below (s₁.setTop (mkF m 8 _ [(.int (p0 >>> ((2 : Int32) &&& 31)))])) _
      refine XS.iconst X0.here hx rfl (hb hby at_8) ?_
      show Steps p.tables e below (s₁.setTop (mkF m 9 _ [(.int (1 : Int32)), (.int (p0 >>> ((2 : Int32) &&& 31)))])) _
      refine XS.iand X0.here hx rfl (hb hby at_9) rfl ?_
      exact ht
    by_cases hc2 : ((p0 >>> ((2 : Int32) &&& 31)) &&& (1 : Int32)) = (0 : Int32)
    · refine OFin.of (S' := s₁.setTop (mkF m 28 #[.val (.int p0), .val (.int p1), .val (.int p2), .val (.int p3), .val (.int (0 : Int32)), .val (.int (0 : Int32)), .unset, .unset, .unset, .unset] [(.int (0 : Int32))])) (fun t ht => ?_) ?_
      · refine XS.ifYes X0.here hx rfl (pc0 := 10) (pc' := 23) rfl (hb hby at_10) rfl ((if0 _ _).trans (teq (hc2 : ((p0 >>> ((2 : Int32) &&& 31)) &&& (1 : Int32)) = (0 : Int32))).1) (by decide) (by decide) ?_
        show Steps p.tables e below (s₁.setTop (mkF m 23 _ [])) _
        refine XS.iconst X0.here hx rfl (hb hby at_23) ?_
        show Steps p.tables e below (s₁.setTop (mkF m 24 _ [(.int (0 : Int32))])) _
        refine XS.istore X0.here hx rfl (hb hby at_24) rfl (l' := #[.val (.int p0), .val (.int p1), .val (.int p2), .val (.int p3), .val (.int (0 : Int32)), .val (.int (0 : Int32)), .unset, .unset, .unset, .unset]) rfl ?_
        show Steps p.tables e below (s₁.setTop (mkF m 26 #[.val (.int p0), .val (.int p1), .val (.int p2), .val (.int p3), .val (.int (0 : Int32)), .val (.int (0 : Int32)), .unset, .unset, .unset, .unset] [])) _
        refine XS.iload X0.here hx rfl (hb hby at_26) rfl ?_
        exact ht
      obtain ⟨T3, h3, k3, X3, e3, E3, A3, st3⟩ := newP X0 hx hZ (hw _ (List.mem_of_getElem? (i := 0) rfl)) e0 (g := (mkF m 28 #[.val (.int p0), .val (.int p1), .val (.int p2), .val (.int p3), .val (.int (0 : Int32)), .val (.int (0 : Int32)), .unset, .unset, .unset, .unset] [(.int (0 : Int32))])) rfl (hb hby at_28) rfl (by decide) (cap := 0) (by decide) (by decide) (by decide) (by decide)
      obtain ⟨b3, gq3⟩ : ∃ z, z = h0.size := ⟨_, rfl⟩
      rw [← gq3] at A3 st3
      have g4 : n0 ≤ b3 := (Nat.le_trans Z0 (Nat.le_of_eq gq3.symm))
      have Z5 : n0 ≤ h3.size := (Nat.le_trans Z0 E3.1)
      have f6 : Arv Z h3 b3 k3 .byte (0 : Int32) [] (.int (0 : Int32)) := ((Arv.new A3 (by decide)).pad (pad_rep [] (.int (0 : Int32)) 0))
      refine OFin.of (S' := T3.setTop (mkF m 30 #[.val (.int p0), .val (.int p1), .val (.int p2), .val (.int p3), .val (.int (0 : Int32)), .val (.int (0 : Int32)), .unset, .unset, .unset, .unset] [(.ref b3)])) (fun t ht => st3 t ht) ?_
      refine OFin.of (S' := T3.setTop (mkF m 90 #[.val (.int p0), .val (.int p1), .val (.int p2), .val (.int p3), .val (.int (0 : Int32)), .val (.int (0 : Int32)), .val (.ref b3), .unset, .unset, .unset] [])) (fun t ht => ?_) ?_
      · refine XS.astore X3.here hx rfl (hb hby at_30) rfl rfl (l' := #[.val (.int p0), .val (.int p1), .val (.int p2), .val (.int p3), .val (.int (0 : Int32)), .val (.int (0 : Int32)), .val (.ref b3), .unset, .unset, .unset]) rfl ?_
        show Steps p.tables e below (T3.setTop (mkF m 32 #[.val (.int p0), .val (.int p1), .val (.int p2), .val (.int p3), .val (.int (0 : Int32)), .val (.int (0 : Int32)), .val (.ref b3), .unset, .unset, .unset] [])) _
        refine XS.iload X3.here hx rfl (hb hby at_32) rfl ?_
        show Steps p.tables e below (T3.setTop (mkF m 34 _ [(.int (0 : Int32))])) _
        refine XS.iconst X3.here hx rfl (hb hby at_34) ?_
        show Steps p.tables e below (T3.setTop (mkF m 35 _ [(.int (1 : Int32)), (.int (0 : Int32))])) _
        refine XS.icmpYes X3.here hx rfl (pc0 := 35) (pc' := 60) rfl (hb hby at_35) rfl (tlt (by decide : (0 : Int32) < (1 : Int32))).1 (by decide) (by decide) ?_
        show Steps p.tables e below (T3.setTop (mkF m 60 _ [])) _
        refine XS.iload X3.here hx rfl (hb hby at_60) rfl ?_
        show Steps p.tables e below (T3.setTop (mkF m 62 _ [(.int (0 : Int32))])) _
        refine XS.iconst X3.here hx rfl (hb hby at_62) ?_
        show Steps p.tables e below (T3.setTop (mkF m 63 _ [(.int (2 : Int32)), (.int (0 : Int32))])) _
        refine XS.icmpYes X3.here hx rfl (pc0 := 63) (pc' := 75) rfl (hb hby at_63) rfl (tlt (by decide : (0 : Int32) < (2 : Int32))).1 (by decide) (by decide) ?_
        show Steps p.tables e below (T3.setTop (mkF m 75 _ [])) _
        refine XS.iload X3.here hx rfl (hb hby at_75) rfl ?_
        show Steps p.tables e below (T3.setTop (mkF m 77 _ [(.int (0 : Int32))])) _
        refine XS.iconst X3.here hx rfl (hb hby at_77) ?_
        show Steps p.tables e below (T3.setTop (mkF m 78 _ [(.int (3 : Int32)), (.int (0 : Int32))])) _
        refine XS.icmpYes X3.here hx rfl (pc0 := 78) (pc' := 90) rfl (hb hby at_78) rfl (tlt (by decide : (0 : Int32) < (3 : Int32))).1 (by decide) (by decide) ?_
        exact ht
      obtain ⟨T7, h7, X7, e7, E7, A7, D7, -, st7⟩ := newO X3 hx hZ hown (hw _ (List.mem_of_getElem? (i := 1) rfl)) (hw _ (List.mem_of_getElem? (i := 2) rfl)) (hw _ (List.mem_of_getElem? (i := 3) rfl)) e3 (g := (mkF m 90 #[.val (.int p0), .val (.int p1), .val (.int p2), .val (.int p3), .val (.int (0 : Int32)), .val (.int (0 : Int32)), .val (.ref b3), .unset, .unset, .unset] [])) rfl (hb hby at_90) (by decide) (by decide)
      obtain ⟨b7, gq7⟩ : ∃ z, z = h3.size := ⟨_, rfl⟩
      rw [← gq7] at A7 D7 st7
      have g8 : n0 ≤ b7 := (Nat.le_trans Z5 (Nat.le_of_eq gq7.symm))
      have ne9 : b3 ≠ b7 := (Nat.ne_of_lt (Nat.lt_of_lt_of_le f6.lt (Nat.le_of_eq gq7.symm)))
      have f10 := f6.ext E7
      have Z11 : n0 ≤ h7.size := (Nat.le_trans Z5 E7.1)
      have f12 : Fld Z h7 b7 "com/example/querant/querant/records/Packing$Reader" "bytes" "[B" .null := D7 (Or.inr (hw _ (List.mem_of_getElem? (i := 11) rfl))) (ty := (.array .byte)) (by decide)
      have f13 : Fld Z h7 b7 "com/example/querant/querant/records/Packing$Reader" "end" "I" (.int (0 : Int32)) := D7 (Or.inr (hw _ (List.mem_of_getElem? (i := 13) rfl))) (ty := .int) (by decide)
      have f14 : Fld Z h7 b7 "com/example/querant/querant/records/Packing$Reader" "position" "I" (.int (0 : Int32)) := D7 (Or.inl (hw _ (List.mem_of_getElem? (i := 20) rfl))) (ty := .int) (by decide)
      refine OFin.of (S' := T7.setTop (mkF m 93 #[.val (.int p0), .val (.int p1), .val (.int p2), .val (.int p3), .val (.int (0 : Int32)), .val (.int (0 : Int32)), .val (.ref b3), .unset, .unset, .unset] [(.ref b7)])) (fun t ht => st7 t ht) ?_
      refine OFin.of (S' := T7.setTop (mkF m 96 #[.val (.int p0), .val (.int p1), .val (.int p2), .val (.int p3), .val (.int (0 : Int32)), .val (.int (0 : Int32)), .val (.ref b3), .unset, .unset, .unset] [(.ref b3), (.ref b7), (.ref b7)])) (fun t ht => ?_) ?_
      · refine XS.dup X7.here hx rfl (hb hby at_93) rfl rfl ?_
        show Steps p.tables e below (T7.setTop (mkF m 94 _ [(.ref b7), (.ref b7)])) _
        refine XS.aload X7.here hx rfl (hb hby at_94) rfl rfl ?_
        exact ht
      obtain ⟨_, _, ⟨T15, L15, k15, n15⟩, -, X15, ⟨Lc15, hQ15, l15, y15, z15⟩, st15⟩ := X7.specialBack hx (y := (⟨"com/example/querant/querant/records/Packing$Reader", "<init>", "([B)V"⟩ : MethodName)) rfl hown (mvT hZ (hw _ (List.mem_of_getElem? (i := 4) rfl))) (mvT hZ (hw _ (List.mem_of_getElem? (i := 5) rfl))) (mvT hZ (hw _ (List.mem_of_getElem? (i := 6) rfl))) (by decide) (backOf (W := 1) (rmIni l Z _ hw [] b7 b3 k3 (0 : Int32) [] h7 n0 Z11 A7 f12 f13 f14 f10 g8 ne9) hZ (hw _ (List.mem_of_getElem? (i := 6) rfl)) (hw _ (List.mem_of_getElem? (i := 3) rfl)) (by decide) (by decide)) (g := (mkF m 96 #[.val (.int p0), .val (.int p1), .val (.int p2), .val (.int p3), .val (.int (0 : Int32)), .val (.int (0 : Int32)), .val (.ref b3), .unset, .unset, .unset] [(.ref b3), (.ref b7), (.ref b7)])) rfl (by rw [hml]; rfl) (Steps.refl _) (a := b7) (argsL := [(.ref b3)]) (rest := [(.ref b7)]) (lenOf pd_0 rfl) rfl (by show 2 * 0 + _ ≤ _; exact Nat.le_of_eq rfl) (hb hby at_96) (fun _ _ => ⟨rfl, e7, (by decide : 2 + 0 ≤ _), (by decide : 3 + 0 ≤ _)⟩)
      dsimp only [Pt.U, Pt.locs, Pt.cells, Pt.slots] at X15 l15 y15 z15 st15 hQ15
      subst l15 y15 z15
      obtain ⟨rfl, Nq15, Kq15, f16, f17, f18⟩ := hQ15
      have N19 := Fr.app N0 Nq15
      have f20 := (f10.keep Kq15 (ninS ne9 nin0))
      have f21 := (A7.keep Kq15)
      have Z22 : n0 ≤ T15.heap.size := (Nat.le_trans Z11 Kq15.1)
      refine OFin.to (S' := T15.setTop (mkF m 99 #[.val (.int p0), .val (.int p1), .val (.int p2), .val (.int p3), .val (.int (0 : Int32)), .val (.int (0 : Int32)), .val (.ref b3), .unset, .unset, .unset] [(.ref b7)])) st15 ?_
      refine OFin.of (S' := T15.setTop (mkF m 106 #[.val (.int p0), .val (.int p1), .val (.int p2), .val (.int p3), .val (.int (0 : Int32)), .val (.int (0 : Int32)), .val (.ref b3), .val (.ref b7), .val (.int (0 : Int32)), .unset] [(.ref b7)])) (fun t ht => ?_) ?_
      · refine XS.astore X15.here hx rfl (hb hby at_99) rfl rfl (l' := #[.val (.int p0), .val (.int p1), .val (.int p2), .val (.int p3), .val (.int (0 : Int32)), .val (.int (0 : Int32)), .val (.ref b3), .val (.ref b7), .unset, .unset]) rfl ?_
        show Steps p.tables e below (T15.setTop (mkF m 101 #[.val (.int p0), .val (.int p1), .val (.int p2), .val (.int p3), .val (.int (0 : Int32)), .val (.int (0 : Int32)), .val (.ref b3), .val (.ref b7), .unset, .unset] [])) _
        refine XS.iconst X15.here hx rfl (hb hby at_101) ?_
        show Steps p.tables e below (T15.setTop (mkF m 102 _ [(.int (0 : Int32))])) _
        refine XS.istore X15.here hx rfl (hb hby at_102) rfl (l' := #[.val (.int p0), .val (.int p1), .val (.int p2), .val (.int p3), .val (.int (0 : Int32)), .val (.int (0 : Int32)), .val (.ref b3), .val (.ref b7), .val (.int (0 : Int32)), .unset]) rfl ?_
        show Steps p.tables e below (T15.setTop (mkF m 104 #[.val (.int p0), .val (.int p1), .val (.int p2), .val (.int p3), .val (.int (0 : Int32)), .val (.int (0 : Int32)), .val (.ref b3), .val (.ref b7), .val (.int (0 : Int32)), .unset] [])) _
        refine XS.aload X15.here hx rfl (hb hby at_104) rfl rfl ?_
        exact ht
      obtain ⟨cq24, kq24, q24a, q24b, q24c⟩ := isOf hZ (rfl : T15.heap = T15.heap) f21
      obtain ⟨_, _, ⟨T23, L23, k23, n23⟩, -, X23, ⟨Lc23, hQ23, l23, y23, z23⟩, st23⟩ := X15.virtualBack hx (y := (⟨"com/example/querant/querant/records/Packing$Reader", "hasMore", "()Z"⟩ : MethodName)) (z := (⟨"com/example/querant/querant/records/Packing$Reader", "hasMore", "()Z"⟩ : MethodName)) hown (mvT hZ (hw _ (List.mem_of_getElem? (i := 14) rfl))) (mvT hZ (hw _ (List.mem_of_getElem? (i := 15) rfl))) (notFace_of_selects (args := #[]) (mvT hZ (hw _ (List.mem_of_getElem? (i := 17) rfl)))) (mvT hZ (hw _ (List.mem_of_getElem? (i := 17) rfl))) (mvT hZ (hw _ (List.mem_of_getElem? (i := 16) rfl))) (by decide) (backOf (W := 0) (rmHm l Z _ hw [] b7 (0 : Int32) (0 : Int32) T15.heap n0 Z22 f18 f17) hZ (hw _ (List.mem_of_getElem? (i := 18) rfl)) (hw _ (List.mem_of_getElem? (i := 3) rfl)) (by decide) (by decide)) q24a q24c (g := (mkF m 106 #[.val (.int p0), .val (.int p1), .val (.int p2), .val (.int p3), .val (.int (0 : Int32)), .val (.int (0 : Int32)), .val (.ref b3), .val (.ref b7), .val (.int (0 : Int32)), .unset] [(.ref b7)])) rfl (by rw [hml]; rfl) (Steps.refl _) (argsL := []) (rest := []) (lenOf pd_1 rfl) rfl (by show 2 * 0 + _ ≤ _; exact Nat.le_of_eq rfl) (hb hby at_106) (fun _ _ => ⟨rfl, (rfl : T15.heap = T15.heap), (by decide : 2 + 0 ≤ _), (by decide : 3 + 0 ≤ _)⟩)
      dsimp only [Pt.U, Pt.locs, Pt.cells, Pt.slots] at X23 l23 y23 z23 st23 hQ23
      subst l23 y23 z23
      obtain ⟨rfl, Nq23, hs23⟩ := hQ23
      have N25 := Fr.app N19 Nq23
      refine OFin.to (S' := T23.setTop (mkF m 109 #[.val (.int p0), .val (.int p1), .val (.int p2), .val (.int p3), .val (.int (0 : Int32)), .val (.int (0 : Int32)), .val (.ref b3), .val (.ref b7), .val (.int (0 : Int32)), .unset] [(.int (0 : Int32))])) st23 ?_
      refine OFin.of (S' := T23.setTop (mkF m 289 #[.val (.int p0), .val (.int p1), .val (.int p2), .val (.int p3), .val (.int (0 : Int32)), .val (.int (0 : Int32)), .val (.ref b3), .val (.ref b7), .val (.int (0 : Int32)), .val (.int (1 : Int32))] [(.int (1 : Int32))])) (fun t ht => ?_) ?_
      · refine XS.iload X23.here hx rfl (hb hby at_109) rfl ?_
        show Steps p.tables e below (T23.setTop (mkF m 111 _ [(.int (0 : Int32)), (.int (0 : Int32))])) _
        refine XS.iload X23.here hx rfl (hb hby at_111) rfl ?_
        show Steps p.tables e below (T23.setTop (mkF m 113 _ [(.int (0 : Int32)), (.int (0 : Int32)), (.int (0 : Int32))])) _
        refine XS.icmpYes X23.here hx rfl (pc0 := 113) (pc' := 120) rfl (hb hby at_113) rfl (flt (by decide : ¬ ((0 : Int32) < (0 : Int32)))).2.1 (by decide) (by decide) ?_
        show Steps p.tables e below (T23.setTop (mkF m 120 _ [(.int (0 : Int32))])) _
        refine XS.iconst X23.here hx rfl (hb hby at_120) ?_
        show Steps p.tables e below (T23.setTop (mkF m 121 _ [(.int (0 : Int32)), (.int (0 : Int32))])) _
        refine XS.icmpNo X23.here hx rfl (hb hby at_121) rfl (teq (by decide : (0 : Int32) = (0 : Int32))).2 ?_
        show Steps p.tables e below (T23.setTop (mkF m 124 _ [])) _
        refine XS.iconst X23.here hx rfl (hb hby at_124) ?_
        show Steps p.tables e below (T23.setTop (mkF m 125 _ [(.int (1 : Int32))])) _
        refine XS.goto X23.here hx rfl (pc0 := 125) (pc' := 129) rfl (hb hby at_125) (by decide) (by decide) ?_
        show Steps p.tables e below (T23.setTop (mkF m 129 _ [(.int (1 : Int32))])) _
        refine XS.istore X23.here hx rfl (hb hby at_129) rfl (l' := #[.val (.int p0), .val (.int p1), .val (.int p2), .val (.int p3), .val (.int (0 : Int32)), .val (.int (0 : Int32)), .val (.ref b3), .val (.ref b7), .val (.int (0 : Int32)), .val (.int (1 : Int32))]) rfl ?_
        show Steps p.tables e below (T23.setTop (mkF m 131 #[.val (.int p0), .val (.int p1), .val (.int p2), .val (.int p3), .val (.int (0 : Int32)), .val (.int (0 : Int32)), .val (.ref b3), .val (.ref b7), .val (.int (0 : Int32)), .val (.int (1 : Int32))] [])) _
        refine XS.iload X23.here hx rfl (hb hby at_131) rfl ?_
        show Steps p.tables e below (T23.setTop (mkF m 133 _ [(.int (0 : Int32))])) _
        refine XS.iload X23.here hx rfl (hb hby at_133) rfl ?_
        show Steps p.tables e below (T23.setTop (mkF m 135 _ [(.int (0 : Int32)), (.int (0 : Int32))])) _
        refine XS.icmpYes X23.here hx rfl (pc0 := 135) (pc' := 191) rfl (hb hby at_135) rfl (flt (by decide : ¬ ((0 : Int32) < (0 : Int32)))).2.1 (by decide) (by decide) ?_
        show Steps p.tables e below (T23.setTop (mkF m 191 _ [])) _
        refine XS.iload X23.here hx rfl (hb hby at_191) rfl ?_
        show Steps p.tables e below (T23.setTop (mkF m 193 _ [(.int (0 : Int32))])) _
        refine XS.iload X23.here hx rfl (hb hby at_193) rfl ?_
        show Steps p.tables e below (T23.setTop (mkF m 195 _ [(.int (0 : Int32)), (.int (0 : Int32))])) _
        refine XS.icmpYes X23.here hx rfl (pc0 := 195) (pc' := 239) rfl (hb hby at_195) rfl (flt (by decide : ¬ ((0 : Int32) < (0 : Int32)))).2.1 (by decide) (by decide) ?_
        show Steps p.tables e below (T23.setTop (mkF m 239 _ [])) _
        refine XS.iload X23.here hx rfl (hb hby at_239) rfl ?_
        show Steps p.tables e below (T23.setTop (mkF m 241 _ [(.int (0 : Int32))])) _
        refine XS.iload X23.here hx rfl (hb hby at_241) rfl ?_
        show Steps p.tables e below (T23.setTop (mkF m 243 _ [(.int (0 : Int32)), (.int (0 : Int32))])) _
        refine XS.icmpYes X23.here hx rfl (pc0 := 243) (pc' := 287) rfl (hb hby at_243) rfl (flt (by decide : ¬ ((0 : Int32) < (0 : Int32)))).2.1 (by decide) (by decide) ?_
        show Steps p.tables e below (T23.setTop (mkF m 287 _ [])) _
        refine XS.iload X23.here hx rfl (hb hby at_287) rfl ?_
        exact ht
      exact OFin.retB X23 hx hlk (t := .boolean) (by simp) hret (hb hby at_289) (by decide) (by decide) (by rw [hs23]; exact ⟨rfl, N25⟩)
    · refine OFin.of (S' := s₁.setTop (mkF m 28 #[.val (.int p0), .val (.int p1), .val (.int p2), .val (.int p3), .val (.int (0 : Int32)), .val (.int (0 : Int32)), .unset, .unset, .unset, .unset] [(.int (0 : Int32))])) (fun t ht => ?_) ?_
      · refine XS.ifNo X0.here hx rfl (hb hby at_10) rfl ((if0 _ _).trans (feq (hc2 : ¬ (((p0 >>> ((2 : Int32) &&& 31)) &&& (1 : Int32)) = (0 : Int32)))).1) ?_
        show Steps p.tables e below (s₁.setTop (mkF m 13 _ [])) _
        refine XS.iload X0.here hx rfl (hb hby at_13) rfl ?_
        show Steps p.tables e below (s₁.setTop (mkF m 15 _ [(.int (0 : Int32))])) _
        refine XS.iconst X0.here hx rfl (hb hby at_15) ?_
        show Steps p.tables e below (s₁.setTop (mkF m 16 _ [(.int (2 : Int32)), (.int (0 : Int32))])) _
        refine XS.icmpYes X0.here hx rfl (pc0 := 16) (pc' := 23) rfl (hb hby at_16) rfl (tlt (by decide : (0 : Int32) < (2 : Int32))).1 (by decide) (by decide) ?_
        show Steps p.tables e below (s₁.setTop (mkF m 23 _ [])) _
        refine XS.iconst X0.here hx rfl (hb hby at_23) ?_
        show Steps p.tables e below (s₁.setTop (mkF m 24 _ [(.int (0 : Int32))])) _
        refine XS.istore X0.here hx rfl (hb hby at_24) rfl (l' := #[.val (.int p0), .val (.int p1), .val (.int p2), .val (.int p3), .val (.int (0 : Int32)), .val (.int (0 : Int32)), .unset, .unset, .unset, .unset]) rfl ?_
        show Steps p.tables e below (s₁.setTop (mkF m 26 #[.val (.int p0), .val (.int p1), .val (.int p2), .val (.int p3), .val (.int (0 : Int32)), .val (.int (0 : Int32)), .unset, .unset, .unset, .unset] [])) _
        refine XS.iload X0.here hx rfl (hb hby at_26) rfl ?_
        exact ht
      obtain ⟨T26, h26, k26, X26, e26, E26, A26, st26⟩ := newP X0 hx hZ (hw _ (List.mem_of_getElem? (i := 0) rfl)) e0 (g := (mkF m 28 #[.val (.int p0), .val (.int p1), .val (.int p2), .val (.int p3), .val (.int (0 : Int32)), .val (.int (0 : Int32)), .unset, .unset, .unset, .unset] [(.int (0 : Int32))])) rfl (hb hby at_28) rfl (by decide) (cap := 0) (by decide) (by decide) (by decide) (by decide)
      obtain ⟨b26, gq26⟩ : ∃ z, z = h0.size := ⟨_, rfl⟩
      rw [← gq26] at A26 st26
      have g27 : n0 ≤ b26 := (Nat.le_trans Z0 (Nat.le_of_eq gq26.symm))
      have Z28 : n0 ≤ h26.size := (Nat.le_trans Z0 E26.1)
      have f29 : Arv Z h26 b26 k26 .byte (0 : Int32) [] (.int (0 : Int32)) := ((Arv.new A26 (by decide)).pad (pad_rep [] (.int (0 : Int32)) 0))
      refine OFin.of (S' := T26.setTop (mkF m 30 #[.val (.int p0), .val (.int p1), .val (.int p2), .val (.int p3), .val (.int (0 : Int32)), .val (.int (0 : Int32)), .unset, .unset, .unset, .unset] [(.ref b26)])) (fun t ht => st26 t ht) ?_
      refine OFin.of (S' := T26.setTop (mkF m 90 #[.val (.int p0), .val (.int p1), .val (.int p2), .val (.int p3), .val (.int (0 : Int32)), .val (.int (0 : Int32)), .val (.ref b26), .unset, .unset, .unset] [])) (fun t ht => ?_) ?_
      · refine XS.astore X26.here hx rfl (hb hby at_30) rfl rfl (l' := #[.val (.int p0), .val (.int p1), .val (.int p2), .val (.int p3), .val (.int (0 : Int32)), .val (.int (0 : Int32)), .val (.ref b26), .unset, .unset, .unset]) rfl ?_
        show Steps p.tables e below (T26.setTop (mkF m 32 #[.val (.int p0), .val (.int p1), .val (.int p2), .val (.int p3), .val (.int (0 : Int32)), .val (.int (0 : Int32)), .val (.ref b26), .unset, .unset, .unset] [])) _
        refine XS.iload X26.here hx rfl (hb hby at_32) rfl ?_
        show Steps p.tables e below (T26.setTop (mkF m 34 _ [(.int (0 : Int32))])) _
        refine XS.iconst X26.here hx rfl (hb hby at_34) ?_
        show Steps p.tables e below (T26.setTop (mkF m 35 _ [(.int (1 : Int32)), (.int (0 : Int32))])) _
        refine XS.icmpYes X26.here hx rfl (pc0 := 35) (pc' := 60) rfl (hb hby at_35) rfl (tlt (by decide : (0 : Int32) < (1 : Int32))).1 (by decide) (by decide) ?_
        show Steps p.tables e below (T26.setTop (mkF m 60 _ [])) _
        refine XS.iload X26.here hx rfl (hb hby at_60) rfl ?_
        show Steps p.tables e below (T26.setTop (mkF m 62 _ [(.int (0 : Int32))])) _
        refine XS.iconst X26.here hx rfl (hb hby at_62) ?_
        show Steps p.tables e below (T26.setTop (mkF m 63 _ [(.int (2 : Int32)), (.int (0 : Int32))])) _
        refine XS.icmpYes X26.here hx rfl (pc0 := 63) (pc' := 75) rfl (hb hby at_63) rfl (tlt (by decide : (0 : Int32) < (2 : Int32))).1 (by decide) (by decide) ?_
        show Steps p.tables e below (T26.setTop (mkF m 75 _ [])) _
        refine XS.iload X26.here hx rfl (hb hby at_75) rfl ?_
        show Steps p.tables e below (T26.setTop (mkF m 77 _ [(.int (0 : Int32))])) _
        refine XS.iconst X26.here hx rfl (hb hby at_77) ?_
        show Steps p.tables e below (T26.setTop (mkF m 78 _ [(.int (3 : Int32)), (.int (0 : Int32))])) _
        refine XS.icmpYes X26.here hx rfl (pc0 := 78) (pc' := 90) rfl (hb hby at_78) rfl (tlt (by decide : (0 : Int32) < (3 : Int32))).1 (by decide) (by decide) ?_
        exact ht
      obtain ⟨T30, h30, X30, e30, E30, A30, D30, -, st30⟩ := newO X26 hx hZ hown (hw _ (List.mem_of_getElem? (i := 1) rfl)) (hw _ (List.mem_of_getElem? (i := 2) rfl)) (hw _ (List.mem_of_getElem? (i := 3) rfl)) e26 (g := (mkF m 90 #[.val (.int p0), .val (.int p1), .val (.int p2), .val (.int p3), .val (.int (0 : Int32)), .val (.int (0 : Int32)), .val (.ref b26), .unset, .unset, .unset] [])) rfl (hb hby at_90) (by decide) (by decide)
      obtain ⟨b30, gq30⟩ : ∃ z, z = h26.size := ⟨_, rfl⟩
      rw [← gq30] at A30 D30 st30
      have g31 : n0 ≤ b30 := (Nat.le_trans Z28 (Nat.le_of_eq gq30.symm))
      have ne32 : b26 ≠ b30 := (Nat.ne_of_lt (Nat.lt_of_lt_of_le f29.lt (Nat.le_of_eq gq30.symm)))
      have f33 := f29.ext E30
      have Z34 : n0 ≤ h30.size := (Nat.le_trans Z28 E30.1)
      have f35 : Fld Z h30 b30 "com/example/querant/querant/records/Packing$Reader" "bytes" "[B" .null := D30 (Or.inr (hw _ (List.mem_of_getElem? (i := 11) rfl))) (ty := (.array .byte)) (by decide)
      have f36 : Fld Z h30 b30 "com/example/querant/querant/records/Packing$Reader" "end" "I" (.int (0 : Int32)) := D30 (Or.inr (hw _ (List.mem_of_getElem? (i := 13) rfl))) (ty := .int) (by decide)
      have f37 : Fld Z h30 b30 "com/example/querant/querant/records/Packing$Reader" "position" "I" (.int (0 : Int32)) := D30 (Or.inl (hw _ (List.mem_of_getElem? (i := 20) rfl))) (ty := .int) (by decide)
      refine OFin.of (S' := T30.setTop (mkF m 93 #[.val (.int p0), .val (.int p1), .val (.int p2), .val (.int p3), .val (.int (0 : Int32)), .val (.int (0 : Int32)), .val (.ref b26), .unset, .unset, .unset] [(.ref b30)])) (fun t ht => st30 t ht) ?_
      refine OFin.of (S' := T30.setTop (mkF m 96 #[.val (.int p0), .val (.int p1), .val (.int p2), .val (.int p3), .val (.int (0 : Int32)), .val (.int (0 : Int32)), .val (.ref b26), .unset, .unset, .unset] [(.ref b26), (.ref b30), (.ref b30)])) (fun t ht => ?_) ?_
      · refine XS.dup X30.here hx rfl (hb hby at_93) rfl rfl ?_
        show Steps p.tables e below (T30.setTop (mkF m 94 _ [(.ref b30), (.ref b30)])) _
        refine XS.aload X30.here hx rfl (hb hby at_94) rfl rfl ?_
        exact ht
      obtain ⟨_, _, ⟨T38, L38, k38, n38⟩, -, X38, ⟨Lc38, hQ38, l38, y38, z38⟩, st38⟩ := X30.specialBack hx (y := (⟨"com/example/querant/querant/records/Packing$Reader", "<init>", "([B)V"⟩ : MethodName)) rfl hown (mvT hZ (hw _ (List.mem_of_getElem? (i := 4) rfl))) (mvT hZ (hw _ (List.mem_of_getElem? (i := 5) rfl))) (mvT hZ (hw _ (List.mem_of_getElem? (i := 6) rfl))) (by decide) (backOf (W := 1) (rmIni l Z _ hw [] b30 b26 k26 (0 : Int32) [] h30 n0 Z34 A30 f35 f36 f37 f33 g31 ne32) hZ (hw _ (List.mem_of_getElem? (i := 6) rfl)) (hw _ (List.mem_of_getElem? (i := 3) rfl)) (by decide) (by decide)) (g := (mkF m 96 #[.val (.int p0), .val (.int p1), .val (.int p2), .val (.int p3), .val (.int (0 : Int32)), .val (.int (0 : Int32)), .val (.ref b26), .unset, .unset, .unset] [(.ref b26), (.ref b30), (.ref b30)])) rfl (by rw [hml]; rfl) (Steps.refl _) (a := b30) (argsL := [(.ref b26)]) (rest := [(.ref b30)]) (lenOf pd_0 rfl) rfl (by show 2 * 0 + _ ≤ _; exact Nat.le_of_eq rfl) (hb hby at_96) (fun _ _ => ⟨rfl, e30, (by decide : 2 + 0 ≤ _), (by decide : 3 + 0 ≤ _)⟩)
      dsimp only [Pt.U, Pt.locs, Pt.cells, Pt.slots] at X38 l38 y38 z38 st38 hQ38
      subst l38 y38 z38
      obtain ⟨rfl, Nq38, Kq38, f39, f40, f41⟩ := hQ38
      have N42 := Fr.app N0 Nq38
      have f43 := (f33.keep Kq38 (ninS ne32 nin0))
      have f44 := (A30.keep Kq38)
      have Z45 : n0 ≤ T38.heap.size := (Nat.le_trans Z34 Kq38.1)
      refine OFin.to (S' := T38.setTop (mkF m 99 #[.val (.int p0), .val (.int p1), .val (.int p2), .val (.int p3), .val (.int (0 : Int32)), .val (.int (0 : Int32)), .val (.ref b26), .unset, .unset, .unset] [(.ref b30)])) st38 ?_
      refine OFin.of (S' := T38.setTop (mkF m 106 #[.val (.int p0), .val (.int p1), .val (.int p2), .val (.int p3), .val (.int (0 : Int32)), .val (.int (0 : Int32)), .val (.ref b26), .val (.ref b30), .val (.int (0 : Int32)), .unset] [(.ref b30)])) (fun t ht => ?_) ?_
      · refine XS.astore X38.here hx rfl (hb hby at_99) rfl rfl (l' := #[.val (.int p0), .val (.int p1), .val (.int p2), .val (.int p3), .val (.int (0 : Int32)), .val (.int (0 : Int32)), .val (.ref b26), .val (.ref b30), .unset, .unset]) rfl ?_
        show Steps p.tables e below (T38.setTop (mkF m 101 #[.val (.int p0), .val (.int p1), .val (.int p2), .val (.int p3), .val (.int (0 : Int32)), .val (.int (0 : Int32)), .val (.ref b26), .val (.ref b30), .unset, .unset] [])) _
        refine XS.iconst X38.here hx rfl (hb hby at_101) ?_
        show Steps p.tables e below (T38.setTop (mkF m 102 _ [(.int (0 : Int32))])) _
        refine XS.istore X38.here hx rfl (hb hby at_102) rfl (l' := #[.val (.int p0), .val (.int p1), .val (.int p2), .val (.int p3), .val (.int (0 : Int32)), .val (.int (0 : Int32)), .val (.ref b26), .val (.ref b30), .val (.int (0 : Int32)), .unset]) rfl ?_
        show Steps p.tables e below (T38.setTop (mkF m 104 #[.val (.int p0), .val (.int p1), .val (.int p2), .val (.int p3), .val (.int (0 : Int32)), .val (.int (0 : Int32)), .val (.ref b26), .val (.ref b30), .val (.int (0 : Int32)), .unset] [])) _
        refine XS.aload X38.here hx rfl (hb hby at_104) rfl rfl ?_
        exact ht
      obtain ⟨cq47, kq47, q47a, q47b, q47c⟩ := isOf hZ (rfl : T38.heap = T38.heap) f44
      obtain ⟨_, _, ⟨T46, L46, k46, n46⟩, -, X46, ⟨Lc46, hQ46, l46, y46, z46⟩, st46⟩ := X38.virtualBack hx (y := (⟨"com/example/querant/querant/records/Packing$Reader", "hasMore", "()Z"⟩ : MethodName)) (z := (⟨"com/example/querant/querant/records/Packing$Reader", "hasMore", "()Z"⟩ : MethodName)) hown (mvT hZ (hw _ (List.mem_of_getElem? (i := 14) rfl))) (mvT hZ (hw _ (List.mem_of_getElem? (i := 15) rfl))) (notFace_of_selects (args := #[]) (mvT hZ (hw _ (List.mem_of_getElem? (i := 17) rfl)))) (mvT hZ (hw _ (List.mem_of_getElem? (i := 17) rfl))) (mvT hZ (hw _ (List.mem_of_getElem? (i := 16) rfl))) (by decide) (backOf (W := 0) (rmHm l Z _ hw [] b30 (0 : Int32) (0 : Int32) T38.heap n0 Z45 f41 f40) hZ (hw _ (List.mem_of_getElem? (i := 18) rfl)) (hw _ (List.mem_of_getElem? (i := 3) rfl)) (by decide) (by decide)) q47a q47c (g := (mkF m 106 #[.val (.int p0), .val (.int p1), .val (.int p2), .val (.int p3), .val (.int (0 : Int32)), .val (.int (0 : Int32)), .val (.ref b26), .val (.ref b30), .val (.int (0 : Int32)), .unset] [(.ref b30)])) rfl (by rw [hml]; rfl) (Steps.refl _) (argsL := []) (rest := []) (lenOf pd_1 rfl) rfl (by show 2 * 0 + _ ≤ _; exact Nat.le_of_eq rfl) (hb hby at_106) (fun _ _ => ⟨rfl, (rfl : T38.heap = T38.heap), (by decide : 2 + 0 ≤ _), (by decide : 3 + 0 ≤ _)⟩)
      dsimp only [Pt.U, Pt.locs, Pt.cells, Pt.slots] at X46 l46 y46 z46 st46 hQ46
      subst l46 y46 z46
      obtain ⟨rfl, Nq46, hs46⟩ := hQ46
      have N48 := Fr.app N42 Nq46
      refine OFin.to (S' := T46.setTop (mkF m 109 #[.val (.int p0), .val (.int p1), .val (.int p2), .val (.int p3), .val (.int (0 : Int32)), .val (.int (0 : Int32)), .val (.ref b26), .val (.ref b30), .val (.int (0 : Int32)), .unset] [(.int (0 : Int32))])) st46 ?_
      refine OFin.of (S' := T46.setTop (mkF m 289 #[.val (.int p0), .val (.int p1), .val (.int p2), .val (.int p3), .val (.int (0 : Int32)), .val (.int (0 : Int32)), .val (.ref b26), .val (.ref b30), .val (.int (0 : Int32)), .val (.int (1 : Int32))] [(.int (1 : Int32))])) (fun t ht => ?_) ?_
      · refine XS.iload X46.here hx rfl (hb hby at_109) rfl ?_
        show Steps p.tables e below (T46.setTop (mkF m 111 _ [(.int (0 : Int32)), (.int (0 : Int32))])) _
        refine XS.iload X46.here hx rfl (hb hby at_111) rfl ?_
        show Steps p.tables e below (T46.setTop (mkF m 113 _ [(.int (0 : Int32)), (.int (0 : Int32)), (.int (0 : Int32))])) _
        refine XS.icmpYes X46.here hx rfl (pc0 := 113) (pc' := 120) rfl (hb hby at_113) rfl (flt (by decide : ¬ ((0 : Int32) < (0 : Int32)))).2.1 (by decide) (by decide) ?_
        show Steps p.tables e below (T46.setTop (mkF m 120 _ [(.int (0 : Int32))])) _
        refine XS.iconst X46.here hx rfl (hb hby at_120) ?_
        show Steps p.tables e below (T46.setTop (mkF m 121 _ [(.int (0 : Int32)), (.int (0 : Int32))])) _
        refine XS.icmpNo X46.here hx rfl (hb hby at_121) rfl (teq (by decide : (0 : Int32) = (0 : Int32))).2 ?_
        show Steps p.tables e below (T46.setTop (mkF m 124 _ [])) _
        refine XS.iconst X46.here hx rfl (hb hby at_124) ?_
        show Steps p.tables e below (T46.setTop (mkF m 125 _ [(.int (1 : Int32))])) _
        refine XS.goto X46.here hx rfl (pc0 := 125) (pc' := 129) rfl (hb hby at_125) (by decide) (by decide) ?_
        show Steps p.tables e below (T46.setTop (mkF m 129 _ [(.int (1 : Int32))])) _
        refine XS.istore X46.here hx rfl (hb hby at_129) rfl (l' := #[.val (.int p0), .val (.int p1), .val (.int p2), .val (.int p3), .val (.int (0 : Int32)), .val (.int (0 : Int32)), .val (.ref b26), .val (.ref b30), .val (.int (0 : Int32)), .val (.int (1 : Int32))]) rfl ?_
        show Steps p.tables e below (T46.setTop (mkF m 131 #[.val (.int p0), .val (.int p1), .val (.int p2), .val (.int p3), .val (.int (0 : Int32)), .val (.int (0 : Int32)), .val (.ref b26), .val (.ref b30), .val (.int (0 : Int32)), .val (.int (1 : Int32))] [])) _
        refine XS.iload X46.here hx rfl (hb hby at_131) rfl ?_
        show Steps p.tables e below (T46.setTop (mkF m 133 _ [(.int (0 : Int32))])) _
        refine XS.iload X46.here hx rfl (hb hby at_133) rfl ?_
        show Steps p.tables e below (T46.setTop (mkF m 135 _ [(.int (0 : Int32)), (.int (0 : Int32))])) _
        refine XS.icmpYes X46.here hx rfl (pc0 := 135) (pc' := 191) rfl (hb hby at_135) rfl (flt (by decide : ¬ ((0 : Int32) < (0 : Int32)))).2.1 (by decide) (by decide) ?_
        show Steps p.tables e below (T46.setTop (mkF m 191 _ [])) _
        refine XS.iload X46.here hx rfl (hb hby at_191) rfl ?_
        show Steps p.tables e below (T46.setTop (mkF m 193 _ [(.int (0 : Int32))])) _
        refine XS.iload X46.here hx rfl (hb hby at_193) rfl ?_
        show Steps p.tables e below (T46.setTop (mkF m 195 _ [(.int (0 : Int32)), (.int (0 : Int32))])) _
        refine XS.icmpYes X46.here hx rfl (pc0 := 195) (pc' := 239) rfl (hb hby at_195) rfl (flt (by decide : ¬ ((0 : Int32) < (0 : Int32)))).2.1 (by decide) (by decide) ?_
        show Steps p.tables e below (T46.setTop (mkF m 239 _ [])) _
        refine XS.iload X46.here hx rfl (hb hby at_239) rfl ?_
        show Steps p.tables e below (T46.setTop (mkF m 241 _ [(.int (0 : Int32))])) _
        refine XS.iload X46.here hx rfl (hb hby at_241) rfl ?_
        show Steps p.tables e below (T46.setTop (mkF m 243 _ [(.int (0 : Int32)), (.int (0 : Int32))])) _
        refine XS.icmpYes X46.here hx rfl (pc0 := 243) (pc' := 287) rfl (hb hby at_243) rfl (flt (by decide : ¬ ((0 : Int32) < (0 : Int32)))).2.1 (by decide) (by decide) ?_
        show Steps p.tables e below (T46.setTop (mkF m 287 _ [])) _
        refine XS.iload X46.here hx rfl (hb hby at_287) rfl ?_
        exact ht
      exact OFin.retB X46 hx hlk (t := .boolean) (by simp) hret (hb hby at_289) (by decide) (by decide) (by rw [hs46]; exact ⟨rfl, N48⟩)
  · rw [hq1]
    refine OFin.of (S' := s₁.setTop (mkF m 10 #[.val (.int p0), .val (.int p1), .val (.int p2), .val (.int p3), .val (.int (1 : Int32)), .unset, .unset, .unset, .unset, .unset] [(.int ((p0 >>> ((2 : Int32) &&& 31)) &&& (1 : Int32)))])) (fun t ht => ?_) ?_
    · refine XS.istore X0.here hx rfl (hb hby at_3) rfl (l' := #[.val (.int p0), .val (.int p1), .val (.int p2), .val (.int p3), .val (.int (1 : Int32)), .unset, .unset, .unset, .unset, .unset]) rfl ?_
      show Steps p.tables e below (s₁.setTop (mkF m 5 #[.val (.int p0), .val (.int p1), .val (.int p2), .val (.int p3), .val (.int (1 : Int32)), .unset, .unset, .unset, .unset, .unset] [])) _
      refine XS.iloadN X0.here hx rfl (hb hby at_5) rfl ?_
      show Steps p.tables e below (s₁.setTop (mkF m 6 _ [(.int p0)])) _
      refine XS.iconst X0.here hx rfl (hb hby at_6) ?_
      show Steps p.tables e below (s₁.setTop (mkF m 7 _ [(.int (2 : Int32)), (.int p0)])) _
      refine XS.ishr X0.here hx rfl (hb hby at_7) rfl ?_
      show Steps p.tables e below (s₁.setTop (mkF m 8 _ [(.int (p0 >>> ((2 : Int32) &&& 31)))])) _
      refine XS.iconst X0.here hx rfl (hb hby at_8) ?_
      show Steps p.tables e below (s₁.setTop (mkF m 9 _ [(.int (1 : Int32)), (.int (p0 >>> ((2 : Int32) &&& 31)))])) _
      refine XS.iand X0.here hx rfl (hb hby at_9) rfl ?_
      exact ht
    by_cases hc49 : ((p0 >>> ((2 : Int32) &&& 31)) &&& (1 : Int32)) = (0 : Int32)
    · refine OFin.of (S' := s₁.setTop (mkF m 28 #[.val (.int p0), .val (.int p1), .val (.int p2), .val (.int p3), .val (.int (1 : Int32)), .val (.int (0 : Int32)), .unset, .unset, .unset, .unset] [(.int (1 : Int32))])) (fun t ht => ?_) ?_
      · refine XS.ifYes X0.here hx rfl (pc0 := 10) (pc' := 23) rfl (hb hby at_10) rfl ((if0 _ _).trans (teq (hc49 : ((p0 >>> ((2 : Int32) &&& 31)) &&& (1 : Int32)) = (0 : Int32))).1) (by decide) (by decide) ?_
        show Steps p.tables e below (s₁.setTop (mkF m 23 _ [])) _
        refine XS.iconst X0.here hx rfl (hb hby at_23) ?_
        show Steps p.tables e below (s₁.setTop (mkF m 24 _ [(.int (0 : Int32))])) _
        refine XS.istore X0.here hx rfl (hb hby at_24) rfl (l' := #[.val (.int p0), .val (.int p1), .val (.int p2), .val (.int p3), .val (.int (1 : Int32)), .val (.int (0 : Int32)), .unset, .unset, .unset, .unset]) rfl ?_
        show Steps p.tables e below (s₁.setTop (mkF m 26 #[.val (.int p0), .val (.int p1), .val (.int p2), .val (.int p3), .val (.int (1 : Int32)), .val (.int (0 : Int32)), .unset, .unset, .unset, .unset] [])) _
        refine XS.iload X0.here hx rfl (hb hby at_26) rfl ?_
        exact ht
      obtain ⟨T50, h50, k50, X50, e50, E50, A50, st50⟩ := newP X0 hx hZ (hw _ (List.mem_of_getElem? (i := 0) rfl)) e0 (g := (mkF m 28 #[.val (.int p0), .val (.int p1), .val (.int p2), .val (.int p3), .val (.int (1 : Int32)), .val (.int (0 : Int32)), .unset, .unset, .unset, .unset] [(.int (1 : Int32))])) rfl (hb hby at_28) rfl (by decide) (cap := 1) (by decide) (by decide) (by decide) (by decide)
      obtain ⟨b50, gq50⟩ : ∃ z, z = h0.size := ⟨_, rfl⟩
      rw [← gq50] at A50 st50
      have g51 : n0 ≤ b50 := (Nat.le_trans Z0 (Nat.le_of_eq gq50.symm))
      have Z52 : n0 ≤ h50.size := (Nat.le_trans Z0 E50.1)
      have f53 : Arv Z h50 b50 k50 .byte (1 : Int32) [(.int (0 : Int32))] (.int (0 : Int32)) := ((Arv.new A50 (by decide)).pad (pad_rep [] (.int (0 : Int32)) 1))
      refine OFin.of (S' := T50.setTop (mkF m 30 #[.val (.int p0), .val (.int p1), .val (.int p2), .val (.int p3), .val (.int (1 : Int32)), .val (.int (0 : Int32)), .unset, .unset, .unset, .unset] [(.ref b50)])) (fun t ht => st50 t ht) ?_
      refine OFin.of (S' := T50.setTop (mkF m 59 #[.val (.int p0), .val (.int p1), .val (.int p2), .val (.int p3), .val (.int (1 : Int32)), .val (.int (0 : Int32)), .val (.ref b50), .unset, .unset, .unset] [(.int (((p1 &&& (127 : Int32)) ||| (0 : Int32)).toInt8.toInt32)), (.int (0 : Int32)), (.ref b50)])) (fun t ht => ?_) ?_
      · refine XS.astore X50.here hx rfl (hb hby at_30) rfl rfl (l' := #[.val (.int p0), .val (.int p1), .val (.int p2), .val (.int p3), .val (.int (1 : Int32)), .val (.int (0 : Int32)), .val (.ref b50), .unset, .unset, .unset]) rfl ?_
        show Steps p.tables e below (T50.setTop (mkF m 32 #[.val (.int p0), .val (.int p1), .val (.int p2), .val (.int p3), .val (.int (1 : Int32)), .val (.int (0 : Int32)), .val (.ref b50), .unset, .unset, .unset] [])) _
        refine XS.iload X50.here hx rfl (hb hby at_32) rfl ?_
        show Steps p.tables e below (T50.setTop (mkF m 34 _ [(.int (1 : Int32))])) _
        refine XS.iconst X50.here hx rfl (hb hby at_34) ?_
        show Steps p.tables e below (T50.setTop (mkF m 35 _ [(.int (1 : Int32)), (.int (1 : Int32))])) _
        refine XS.icmpNo X50.here hx rfl (hb hby at_35) rfl (flt (by decide : ¬ ((1 : Int32) < (1 : Int32)))).1 ?_
        show Steps p.tables e below (T50.setTop (mkF m 38 _ [])) _
        refine XS.aload X50.here hx rfl (hb hby at_38) rfl rfl ?_
        show Steps p.tables e below (T50.setTop (mkF m 40 _ [(.ref b50)])) _
        refine XS.iconst X50.here hx rfl (hb hby at_40) ?_
        show Steps p.tables e below (T50.setTop (mkF m 41 _ [(.int (0 : Int32)), (.ref b50)])) _
        refine XS.iloadN X50.here hx rfl (hb hby at_41) rfl ?_
        show Steps p.tables e below (T50.setTop (mkF m 42 _ [(.int p1), (.int (0 : Int32)), (.ref b50)])) _
        refine XS.bipush X50.here hx rfl (hb hby at_42) ?_
        show Steps p.tables e below (T50.setTop (mkF m 44 _ [(.int (127 : Int32)), (.int p1), (.int (0 : Int32)), (.ref b50)])) _
        refine XS.iand X50.here hx rfl (hb hby at_44) rfl ?_
        show Steps p.tables e below (T50.setTop (mkF m 45 _ [(.int (p1 &&& (127 : Int32))), (.int (0 : Int32)), (.ref b50)])) _
        refine XS.iload X50.here hx rfl (hb hby at_45) rfl ?_
        show Steps p.tables e below (T50.setTop (mkF m 47 _ [(.int (0 : Int32)), (.int (p1 &&& (127 : Int32))), (.int (0 : Int32)), (.ref b50)])) _
        refine XS.ifYes X50.here hx rfl (pc0 := 47) (pc' := 56) rfl (hb hby at_47) rfl ((if0 _ _).trans (teq (by decide : (0 : Int32) = (0 : Int32))).1) (by decide) (by decide) ?_
        show Steps p.tables e below (T50.setTop (mkF m 56 _ [(.int (p1 &&& (127 : Int32))), (.int (0 : Int32)), (.ref b50)])) _
        refine XS.iconst X50.here hx rfl (hb hby at_56) ?_
        show Steps p.tables e below (T50.setTop (mkF m 57 _ [(.int (0 : Int32)), (.int (p1 &&& (127 : Int32))), (.int (0 : Int32)), (.ref b50)])) _
        refine XS.ior X50.here hx rfl (hb hby at_57) rfl ?_
        show Steps p.tables e below (T50.setTop (mkF m 58 _ [(.int ((p1 &&& (127 : Int32)) ||| (0 : Int32))), (.int (0 : Int32)), (.ref b50)])) _
        refine XS.i2b X50.here hx rfl (hb hby at_58) rfl ?_
        exact ht
      obtain ⟨cl54, Ar54, q54, S54, Ng54, H54, G54⟩ := id f53
      have hin54 := inb_of (j := (0 : Int32)) S54 ⟨by decide, by decide⟩
      obtain ⟨T54, h54, X54, e54, W54, st54⟩ := stB X50 hx hZ e50 Ar54 (j := (0 : Int32)) hin54 (g := (mkF m 59 #[.val (.int p0), .val (.int p1), .val (.int p2), .val (.int p3), .val (.int (1 : Int32)), .val (.int (0 : Int32)), .val (.ref b50), .unset, .unset, .unset] [(.int (((p1 &&& (127 : Int32)) ||| (0 : Int32)).toInt8.toInt32)), (.int (0 : Int32)), (.ref b50)])) rfl rfl (hb hby at_59)
      have Z55 : n0 ≤ h54.size := (Nat.le_trans Z52 (Keep.of_wr W54).1)
      have N56 := Fr.snoc X54 N0 g51
      have f57 : Arv Z h54 b50 k50 .byte (1 : Int32) [(.int ((((p1 &&& (127 : Int32)) ||| (0 : Int32)).toInt8.toInt32).toInt8.toInt32))] (.int (0 : Int32)) := Arv.set Ar54 q54 S54 Ng54 H54 G54 (fits_nar_byte _) W54 0 rfl (Nat.le_of_ble_eq_true rfl)
      refine OFin.of (S' := T54.setTop (mkF m 60 #[.val (.int p0), .val (.int p1), .val (.int p2), .val (.int p3), .val (.int (1 : Int32)), .val (.int (0 : Int32)), .val (.ref b50), .unset, .unset, .unset] [])) (fun t ht => st54 t ht) ?_
      refine OFin.of (S' := T54.setTop (mkF m 90 #[.val (.int p0), .val (.int p1), .val (.int p2), .val (.int p3), .val (.int (1 : Int32)), .val (.int (0 : Int32)), .val (.ref b50), .unset, .unset, .unset] [])) (fun t ht => ?_) ?_
      · refine XS.iload X54.here hx rfl (hb hby at_60) rfl ?_
        show Steps p.tables e below (T54.setTop (mkF m 62 _ [(.int (1 : Int32))])) _
        refine XS.iconst X54.here hx rfl (hb hby at_62) ?_
        show Steps p.tables e below (T54.setTop (mkF m 63 _ [(.int (2 : Int32)), (.int (1 : Int32))])) _
        refine XS.icmpYes X54.here hx rfl (pc0 := 63) (pc' := 75) rfl (hb hby at_63) rfl (tlt (by decide : (1 : Int32) < (2 : Int32))).1 (by decide) (by decide) ?_
        show Steps p.tables e below (T54.setTop (mkF m 75 _ [])) _
        refine XS.iload X54.here hx rfl (hb hby at_75) rfl ?_
        show Steps p.tables e below (T54.setTop (mkF m 77 _ [(.int (1 : Int32))])) _
        refine XS.iconst X54.here hx rfl (hb hby at_77) ?_
        show Steps p.tables e below (T54.setTop (mkF m 78 _ [(.int (3 : Int32)), (.int (1 : Int32))])) _
        refine XS.icmpYes X54.here hx rfl (pc0 := 78) (pc' := 90) rfl (hb hby at_78) rfl (tlt (by decide : (1 : Int32) < (3 : Int32))).1 (by decide) (by decide) ?_
        exact ht
      obtain ⟨T58, h58, X58, e58, E58, A58, D58, -, st58⟩ := newO X54 hx hZ hown (hw _ (List.mem_of_getElem? (i := 1) rfl)) (hw _ (List.mem_of_getElem? (i := 2) rfl)) (hw _ (List.mem_of_getElem? (i := 3) rfl)) e54 (g := (mkF m 90 #[.val (.int p0), .val (.int p1), .val (.int p2), .val (.int p3), .val (.int (1 : Int32)), .val (.int (0 : Int32)), .val (.ref b50), .unset, .unset, .unset] [])) rfl (hb hby at_90) (by decide) (by decide)
      obtain ⟨b58, gq58⟩ : ∃ z, z = h54.size := ⟨_, rfl⟩
      rw [← gq58] at A58 D58 st58
      have g59 : n0 ≤ b58 := (Nat.le_trans Z55 (Nat.le_of_eq gq58.symm))
      have ne60 : b50 ≠ b58 := (Nat.ne_of_lt (Nat.lt_of_lt_of_le f57.lt (Nat.le_of_eq gq58.symm)))
      have f61 := f57.ext E58
      have Z62 : n0 ≤ h58.size := (Nat.le_trans Z55 E58.1)
      have f63 : Fld Z h58 b58 "com/example/querant/querant/records/Packing$Reader" "bytes" "[B" .null := D58 (Or.inr (hw _ (List.mem_of_getElem? (i := 11) rfl))) (ty := (.array .byte)) (by decide)
      have f64 : Fld Z h58 b58 "com/example/querant/querant/records/Packing$Reader" "end" "I" (.int (0 : Int32)) := D58 (Or.inr (hw _ (List.mem_of_getElem? (i := 13) rfl))) (ty := .int) (by decide)
      have f65 : Fld Z h58 b58 "com/example/querant/querant/records/Packing$Reader" "position" "I" (.int (0 : Int32)) := D58 (Or.inl (hw _ (List.mem_of_getElem? (i := 20) rfl))) (ty := .int) (by decide)
      refine OFin.of (S' := T58.setTop (mkF m 93 #[.val (.int p0), .val (.int p1), .val (.int p2), .val (.int p3), .val (.int (1 : Int32)), .val (.int (0 : Int32)), .val (.ref b50), .unset, .unset, .unset] [(.ref b58)])) (fun t ht => st58 t ht) ?_
      refine OFin.of (S' := T58.setTop (mkF m 96 #[.val (.int p0), .val (.int p1), .val (.int p2), .val (.int p3), .val (.int (1 : Int32)), .val (.int (0 : Int32)), .val (.ref b50), .unset, .unset, .unset] [(.ref b50), (.ref b58), (.ref b58)])) (fun t ht => ?_) ?_
      · refine XS.dup X58.here hx rfl (hb hby at_93) rfl rfl ?_
        show Steps p.tables e below (T58.setTop (mkF m 94 _ [(.ref b58), (.ref b58)])) _
        refine XS.aload X58.here hx rfl (hb hby at_94) rfl rfl ?_
        exact ht
      obtain ⟨_, _, ⟨T66, L66, k66, n66⟩, -, X66, ⟨Lc66, hQ66, l66, y66, z66⟩, st66⟩ := X58.specialBack hx (y := (⟨"com/example/querant/querant/records/Packing$Reader", "<init>", "([B)V"⟩ : MethodName)) rfl hown (mvT hZ (hw _ (List.mem_of_getElem? (i := 4) rfl))) (mvT hZ (hw _ (List.mem_of_getElem? (i := 5) rfl))) (mvT hZ (hw _ (List.mem_of_getElem? (i := 6) rfl))) (by decide) (backOf (W := 1) (rmIni l Z _ hw [] b58 b50 k50 (1 : Int32) [(.int ((((p1 &&& (127 : Int32)) ||| (0 : Int32)).toInt8.toInt32).toInt8.toInt32))] h58 n0 Z62 A58 f63 f64 f65 f61 g59 ne60) hZ (hw _ (List.mem_of_getElem? (i := 6) rfl)) (hw _ (List.mem_of_getElem? (i := 3) rfl)) (by decide) (by decide)) (g := (mkF m 96 #[.val (.int p0), .val (.int p1), .val (.int p2), .val (.int p3), .val (.int (1 : Int32)), .val (.int (0 : Int32)), .val (.ref b50), .unset, .unset, .unset] [(.ref b50), (.ref b58), (.ref b58)])) rfl (by rw [hml]; rfl) (Steps.refl _) (a := b58) (argsL := [(.ref b50)]) (rest := [(.ref b58)]) (lenOf pd_0 rfl) rfl (by show 2 * 0 + _ ≤ _; exact Nat.le_of_eq rfl) (hb hby at_96) (fun _ _ => ⟨rfl, e58, (by decide : 2 + 0 ≤ _), (by decide : 4 + 0 ≤ _)⟩)
      dsimp only [Pt.U, Pt.locs, Pt.cells, Pt.slots] at X66 l66 y66 z66 st66 hQ66
      subst l66 y66 z66
      obtain ⟨rfl, Nq66, Kq66, f67, f68, f69⟩ := hQ66
      have N70 := Fr.app N56 Nq66
      have f71 := (f61.keep Kq66 (ninS ne60 nin0))
      have f72 := (A58.keep Kq66)
      have Z73 : n0 ≤ T66.heap.size := (Nat.le_trans Z62 Kq66.1)
      refine OFin.to (S' := T66.setTop (mkF m 99 #[.val (.int p0), .val (.int p1), .val (.int p2), .val (.int p3), .val (.int (1 : Int32)), .val (.int (0 : Int32)), .val (.ref b50), .unset, .unset, .unset] [(.ref b58)])) st66 ?_
      refine OFin.of (S' := T66.setTop (mkF m 106 #[.val (.int p0), .val (.int p1), .val (.int p2), .val (.int p3), .val (.int (1 : Int32)), .val (.int (0 : Int32)), .val (.ref b50), .val (.ref b58), .val (.int (0 : Int32)), .unset] [(.ref b58)])) (fun t ht => ?_) ?_
      · refine XS.astore X66.here hx rfl (hb hby at_99) rfl rfl (l' := #[.val (.int p0), .val (.int p1), .val (.int p2), .val (.int p3), .val (.int (1 : Int32)), .val (.int (0 : Int32)), .val (.ref b50), .val (.ref b58), .unset, .unset]) rfl ?_
        show Steps p.tables e below (T66.setTop (mkF m 101 #[.val (.int p0), .val (.int p1), .val (.int p2), .val (.int p3), .val (.int (1 : Int32)), .val (.int (0 : Int32)), .val (.ref b50), .val (.ref b58), .unset, .unset] [])) _
        refine XS.iconst X66.here hx rfl (hb hby at_101) ?_
        show Steps p.tables e below (T66.setTop (mkF m 102 _ [(.int (0 : Int32))])) _
        refine XS.istore X66.here hx rfl (hb hby at_102) rfl (l' := #[.val (.int p0), .val (.int p1), .val (.int p2), .val (.int p3), .val (.int (1 : Int32)), .val (.int (0 : Int32)), .val (.ref b50), .val (.ref b58), .val (.int (0 : Int32)), .unset]) rfl ?_
        show Steps p.tables e below (T66.setTop (mkF m 104 #[.val (.int p0), .val (.int p1), .val (.int p2), .val (.int p3), .val (.int (1 : Int32)), .val (.int (0 : Int32)), .val (.ref b50), .val (.ref b58), .val (.int (0 : Int32)), .unset] [])) _
        refine XS.aload X66.here hx rfl (hb hby at_104) rfl rfl ?_
        exact ht
      obtain ⟨cq75, kq75, q75a, q75b, q75c⟩ := isOf hZ (rfl : T66.heap = T66.heap) f72
      obtain ⟨_, _, ⟨T74, L74, k74, n74⟩, -, X74, ⟨Lc74, hQ74, l74, y74, z74⟩, st74⟩ := X66.virtualBack hx (y := (⟨"com/example/querant/querant/records/Packing$Reader", "hasMore", "()Z"⟩ : MethodName)) (z := (⟨"com/example/querant/querant/records/Packing$Reader", "hasMore", "()Z"⟩ : MethodName)) hown (mvT hZ (hw _ (List.mem_of_getElem? (i := 14) rfl))) (mvT hZ (hw _ (List.mem_of_getElem? (i := 15) rfl))) (notFace_of_selects (args := #[]) (mvT hZ (hw _ (List.mem_of_getElem? (i := 17) rfl)))) (mvT hZ (hw _ (List.mem_of_getElem? (i := 17) rfl))) (mvT hZ (hw _ (List.mem_of_getElem? (i := 16) rfl))) (by decide) (backOf (W := 0) (rmHm l Z _ hw [] b58 (0 : Int32) (1 : Int32) T66.heap n0 Z73 f69 f68) hZ (hw _ (List.mem_of_getElem? (i := 18) rfl)) (hw _ (List.mem_of_getElem? (i := 3) rfl)) (by decide) (by decide)) q75a q75c (g := (mkF m 106 #[.val (.int p0), .val (.int p1), .val (.int p2), .val (.int p3), .val (.int (1 : Int32)), .val (.int (0 : Int32)), .val (.ref b50), .val (.ref b58), .val (.int (0 : Int32)), .unset] [(.ref b58)])) rfl (by rw [hml]; rfl) (Steps.refl _) (argsL := []) (rest := []) (lenOf pd_1 rfl) rfl (by show 2 * 0 + _ ≤ _; exact Nat.le_of_eq rfl) (hb hby at_106) (fun _ _ => ⟨rfl, (rfl : T66.heap = T66.heap), (by decide : 2 + 0 ≤ _), (by decide : 4 + 0 ≤ _)⟩)
      dsimp only [Pt.U, Pt.locs, Pt.cells, Pt.slots] at X74 l74 y74 z74 st74 hQ74
      subst l74 y74 z74
      obtain ⟨rfl, Nq74, hs74⟩ := hQ74
      have N76 := Fr.app N70 Nq74
      refine OFin.to (S' := T74.setTop (mkF m 109 #[.val (.int p0), .val (.int p1), .val (.int p2), .val (.int p3), .val (.int (1 : Int32)), .val (.int (0 : Int32)), .val (.ref b50), .val (.ref b58), .val (.int (0 : Int32)), .unset] [(.int (1 : Int32))])) st74 ?_
      refine OFin.of (S' := T74.setTop (mkF m 140 #[.val (.int p0), .val (.int p1), .val (.int p2), .val (.int p3), .val (.int (1 : Int32)), .val (.int (0 : Int32)), .val (.ref b50), .val (.ref b58), .val (.int (0 : Int32)), .val (.int (1 : Int32))] [(.ref b58)])) (fun t ht => ?_) ?_
      · refine XS.iload X74.here hx rfl (hb hby at_109) rfl ?_
        show Steps p.tables e below (T74.setTop (mkF m 111 _ [(.int (0 : Int32)), (.int (1 : Int32))])) _
        refine XS.iload X74.here hx rfl (hb hby at_111) rfl ?_
        show Steps p.tables e below (T74.setTop (mkF m 113 _ [(.int (1 : Int32)), (.int (0 : Int32)), (.int (1 : Int32))])) _
        refine XS.icmpNo X74.here hx rfl (hb hby at_113) rfl (tlt (by decide : (0 : Int32) < (1 : Int32))).2.1 ?_
        show Steps p.tables e below (T74.setTop (mkF m 116 _ [(.int (1 : Int32))])) _
        refine XS.iconst X74.here hx rfl (hb hby at_116) ?_
        show Steps p.tables e below (T74.setTop (mkF m 117 _ [(.int (1 : Int32)), (.int (1 : Int32))])) _
        refine XS.goto X74.here hx rfl (pc0 := 117) (pc' := 121) rfl (hb hby at_117) (by decide) (by decide) ?_
        show Steps p.tables e below (T74.setTop (mkF m 121 _ [(.int (1 : Int32)), (.int (1 : Int32))])) _
        refine XS.icmpNo X74.here hx rfl (hb hby at_121) rfl (teq (by decide : (1 : Int32) = (1 : Int32))).2 ?_
        show Steps p.tables e below (T74.setTop (mkF m 124 _ [])) _
        refine XS.iconst X74.here hx rfl (hb hby at_124) ?_
        show Steps p.tables e below (T74.setTop (mkF m 125 _ [(.int (1 : Int32))])) _
        refine XS.goto X74.here hx rfl (pc0 := 125) (pc' := 129) rfl (hb hby at_125) (by decide) (by decide) ?_
        show Steps p.tables e below (T74.setTop (mkF m 129 _ [(.int (1 : Int32))])) _
        refine XS.istore X74.here hx rfl (hb hby at_129) rfl (l' := #[.val (.int p0), .val (.int p1), .val (.int p2), .val (.int p3), .val (.int (1 : Int32)), .val (.int (0 : Int32)), .val (.ref b50), .val (.ref b58), .val (.int (0 : Int32)), .val (.int (1 : Int32))]) rfl ?_
        show Steps p.tables e below (T74.setTop (mkF m 131 #[.val (.int p0), .val (.int p1), .val (.int p2), .val (.int p3), .val (.int (1 : Int32)), .val (.int (0 : Int32)), .val (.ref b50), .val (.ref b58), .val (.int (0 : Int32)), .val (.int (1 : Int32))] [])) _
        refine XS.iload X74.here hx rfl (hb hby at_131) rfl ?_
        show Steps p.tables e below (T74.setTop (mkF m 133 _ [(.int (0 : Int32))])) _
        refine XS.iload X74.here hx rfl (hb hby at_133) rfl ?_
        show Steps p.tables e below (T74.setTop (mkF m 135 _ [(.int (1 : Int32)), (.int (0 : Int32))])) _
        refine XS.icmpNo X74.here hx rfl (hb hby at_135) rfl (tlt (by decide : (0 : Int32) < (1 : Int32))).2.1 ?_
        show Steps p.tables e below (T74.setTop (mkF m 138 _ [])) _
        refine XS.aload X74.here hx rfl (hb hby at_138) rfl rfl ?_
        exact ht
      obtain ⟨cq78, kq78, q78a, q78b, q78c⟩ := isOf hZ hs74 f72
      obtain ⟨_, _, ⟨T77, L77, k77, n77⟩, -, X77, ⟨Lc77, hQ77, l77, y77, z77⟩, st77⟩ := X74.virtualBack hx (y := (⟨"com/example/querant/querant/records/Packing$Reader", "number", "()J"⟩ : MethodName)) (z := (⟨"com/example/querant/querant/records/Packing$Reader", "number", "()J"⟩ : MethodName)) hown (mvT hZ (hw _ (List.mem_of_getElem? (i := 21) rfl))) (mvT hZ (hw _ (List.mem_of_getElem? (i := 22) rfl))) (notFace_of_selects (args := #[]) (mvT hZ (hw _ (List.mem_of_getElem? (i := 24) rfl)))) (mvT hZ (hw _ (List.mem_of_getElem? (i := 24) rfl))) (mvT hZ (hw _ (List.mem_of_getElem? (i := 23) rfl))) (by decide) (backOf (W := 0) (rmNb1 l Z _ hw [] b58 b50 k50 (1 : Int32) [(.int ((((p1 &&& (127 : Int32)) ||| (0 : Int32)).toInt8.toInt32).toInt8.toInt32))] (0 : Int32) ((((p1 &&& (127 : Int32)) ||| (0 : Int32)).toInt8.toInt32).toInt8.toInt32) T66.heap n0 Z73 f72 f69 f68 f67 f71 g59 ne60 (by decide) (by decide) rfl (own_lo0 _)) hZ (hw _ (List.mem_of_getElem? (i := 25) rfl)) (hw _ (List.mem_of_getElem? (i := 3) rfl)) (by decide) (by decide)) q78a q78c (g := (mkF m 140 #[.val (.int p0), .val (.int p1), .val (.int p2), .val (.int p3), .val (.int (1 : Int32)), .val (.int (0 : Int32)), .val (.ref b50), .val (.ref b58), .val (.int (0 : Int32)), .val (.int (1 : Int32))] [(.ref b58)])) rfl (by rw [hml]; rfl) (Steps.refl _) (argsL := []) (rest := []) (lenOf pd_2 rfl) rfl (by show 2 * 0 + _ ≤ _; exact Nat.le_of_eq rfl) (hb hby at_140) (fun _ _ => ⟨rfl, hs74, (by decide : 2 + 0 ≤ _), (by decide : 4 + 0 ≤ _)⟩)
      dsimp only [Pt.U, Pt.locs, Pt.cells, Pt.slots] at X77 l77 y77 z77 st77 hQ77
      subst l77 y77 z77
      obtain ⟨rfl, Nq77, Kq77, f79, f80, f81⟩ := hQ77
      have N82 := Fr.app N76 Nq77
      have f83 := (f71.keep Kq77 (ninS ne60 nin0))
      have f84 := (f72.keep Kq77)
      have Z85 : n0 ≤ T77.heap.size := (Nat.le_trans Z73 Kq77.1)
      refine OFin.to (S' := T77.setTop (mkF m 143 #[.val (.int p0), .val (.int p1), .val (.int p2), .val (.int p3), .val (.int (1 : Int32)), .val (.int (0 : Int32)), .val (.ref b50), .val (.ref b58), .val (.int (0 : Int32)), .val (.int (1 : Int32))] [(.long ((0 : Int64) ||| (((((((p1 &&& (127 : Int32)) ||| (0 : Int32)).toInt8.toInt32).toInt8.toInt32) &&& (127 : Int32)).toInt64) <<< ((0 : Int32) &&& 0x3f).toInt64)))])) st77 ?_
      refine OFin.of (S' := T77.setTop (mkF m 166 #[.val (.int p0), .val (.int p1), .val (.int p2), .val (.int p3), .val (.int (1 : Int32)), .val (.int (0 : Int32)), .val (.ref b50), .val (.ref b58), .val (.int (1 : Int32)), .val (.int (1 : Int32))] [(.ref b58)])) (fun t ht => ?_) ?_
      · refine own_pop2L X77.here hx rfl (hb hby at_143) rfl ?_
        show Steps p.tables e below (T77.setTop (mkF m 144 _ [])) _
        refine XS.iload X77.here hx rfl (hb hby at_144) rfl ?_
        show Steps p.tables e below (T77.setTop (mkF m 146 _ [(.int (0 : Int32))])) _
        refine XS.iload X77.here hx rfl (hb hby at_146) rfl ?_
        show Steps p.tables e below (T77.setTop (mkF m 148 _ [(.int (0 : Int32)), (.int (0 : Int32))])) _
        refine XS.ifYes X77.here hx rfl (pc0 := 148) (pc' := 155) rfl (hb hby at_148) rfl ((if0 _ _).trans (teq (by decide : (0 : Int32) = (0 : Int32))).1) (by decide) (by decide) ?_
        show Steps p.tables e below (T77.setTop (mkF m 155 _ [(.int (0 : Int32))])) _
        refine XS.iconst X77.here hx rfl (hb hby at_155) ?_
        show Steps p.tables e below (T77.setTop (mkF m 156 _ [(.int (1 : Int32)), (.int (0 : Int32))])) _
        refine XS.iadd X77.here hx rfl (hb hby at_156) rfl ?_
        show Steps p.tables e below (T77.setTop (mkF m 157 _ [(.int (1 : Int32))])) _
        refine XS.istore X77.here hx rfl (hb hby at_157) rfl (l' := #[.val (.int p0), .val (.int p1), .val (.int p2), .val (.int p3), .val (.int (1 : Int32)), .val (.int (0 : Int32)), .val (.ref b50), .val (.ref b58), .val (.int (1 : Int32)), .val (.int (1 : Int32))]) rfl ?_
        show Steps p.tables e below (T77.setTop (mkF m 159 #[.val (.int p0), .val (.int p1), .val (.int p2), .val (.int p3), .val (.int (1 : Int32)), .val (.int (0 : Int32)), .val (.ref b50), .val (.ref b58), .val (.int (1 : Int32)), .val (.int (1 : Int32))] [])) _
        refine XS.iload X77.here hx rfl (hb hby at_159) rfl ?_
        show Steps p.tables e below (T77.setTop (mkF m 161 _ [(.int (1 : Int32))])) _
        refine XS.ifNo X77.here hx rfl (hb hby at_161) rfl ((if0 _ _).trans (feq (by decide : ¬ ((1 : Int32) = (0 : Int32)))).1) ?_
        show Steps p.tables e below (T77.setTop (mkF m 164 _ [])) _
        refine XS.aload X77.here hx rfl (hb hby at_164) rfl rfl ?_
        exact ht
      obtain ⟨cq87, kq87, q87a, q87b, q87c⟩ := isOf hZ (rfl : T77.heap = T77.heap) f84
      obtain ⟨_, _, ⟨T86, L86, k86, n86⟩, -, X86, ⟨Lc86, hQ86, l86, y86, z86⟩, st86⟩ := X77.virtualBack hx (y := (⟨"com/example/querant/querant/records/Packing$Reader", "hasMore", "()Z"⟩ : MethodName)) (z := (⟨"com/example/querant/querant/records/Packing$Reader", "hasMore", "()Z"⟩ : MethodName)) hown (mvT hZ (hw _ (List.mem_of_getElem? (i := 14) rfl))) (mvT hZ (hw _ (List.mem_of_getElem? (i := 15) rfl))) (notFace_of_selects (args := #[]) (mvT hZ (hw _ (List.mem_of_getElem? (i := 17) rfl)))) (mvT hZ (hw _ (List.mem_of_getElem? (i := 17) rfl))) (mvT hZ (hw _ (List.mem_of_getElem? (i := 16) rfl))) (by decide) (backOf (W := 0) (rmHm l Z _ hw [] b58 (1 : Int32) (1 : Int32) T77.heap n0 Z85 f81 f80) hZ (hw _ (List.mem_of_getElem? (i := 18) rfl)) (hw _ (List.mem_of_getElem? (i := 3) rfl)) (by decide) (by decide)) q87a q87c (g := (mkF m 166 #[.val (.int p0), .val (.int p1), .val (.int p2), .val (.int p3), .val (.int (1 : Int32)), .val (.int (0 : Int32)), .val (.ref b50), .val (.ref b58), .val (.int (1 : Int32)), .val (.int (1 : Int32))] [(.ref b58)])) rfl (by rw [hml]; rfl) (Steps.refl _) (argsL := []) (rest := []) (lenOf pd_1 rfl) rfl (by show 2 * 0 + _ ≤ _; exact Nat.le_of_eq rfl) (hb hby at_166) (fun _ _ => ⟨rfl, (rfl : T77.heap = T77.heap), (by decide : 2 + 0 ≤ _), (by decide : 4 + 0 ≤ _)⟩)
      dsimp only [Pt.U, Pt.locs, Pt.cells, Pt.slots] at X86 l86 y86 z86 st86 hQ86
      subst l86 y86 z86
      obtain ⟨rfl, Nq86, hs86⟩ := hQ86
      have N88 := Fr.app N82 Nq86
      refine OFin.to (S' := T86.setTop (mkF m 169 #[.val (.int p0), .val (.int p1), .val (.int p2), .val (.int p3), .val (.int (1 : Int32)), .val (.int (0 : Int32)), .val (.ref b50), .val (.ref b58), .val (.int (1 : Int32)), .val (.int (1 : Int32))] [(.int (0 : Int32))])) st86 ?_
      refine OFin.of (S' := T86.setTop (mkF m 289 #[.val (.int p0), .val (.int p1), .val (.int p2), .val (.int p3), .val (.int (1 : Int32)), .val (.int (0 : Int32)), .val (.ref b50), .val (.ref b58), .val (.int (1 : Int32)), .val (.int (1 : Int32))] [(.int (1 : Int32))])) (fun t ht => ?_) ?_
      · refine XS.iload X86.here hx rfl (hb hby at_169) rfl ?_
        show Steps p.tables e below (T86.setTop (mkF m 171 _ [(.int (1 : Int32)), (.int (0 : Int32))])) _
        refine XS.iload X86.here hx rfl (hb hby at_171) rfl ?_
        show Steps p.tables e below (T86.setTop (mkF m 173 _ [(.int (1 : Int32)), (.int (1 : Int32)), (.int (0 : Int32))])) _
        refine XS.icmpYes X86.here hx rfl (pc0 := 173) (pc' := 180) rfl (hb hby at_173) rfl (flt (by decide : ¬ ((1 : Int32) < (1 : Int32)))).2.1 (by decide) (by decide) ?_
        show Steps p.tables e below (T86.setTop (mkF m 180 _ [(.int (0 : Int32))])) _
        refine XS.iconst X86.here hx rfl (hb hby at_180) ?_
        show Steps p.tables e below (T86.setTop (mkF m 181 _ [(.int (0 : Int32)), (.int (0 : Int32))])) _
        refine XS.icmpNo X86.here hx rfl (hb hby at_181) rfl (teq (by decide : (0 : Int32) = (0 : Int32))).2 ?_
        show Steps p.tables e below (T86.setTop (mkF m 184 _ [])) _
        refine XS.iconst X86.here hx rfl (hb hby at_184) ?_
        show Steps p.tables e below (T86.setTop (mkF m 185 _ [(.int (1 : Int32))])) _
        refine XS.goto X86.here hx rfl (pc0 := 185) (pc' := 189) rfl (hb hby at_185) (by decide) (by decide) ?_
        show Steps p.tables e below (T86.setTop (mkF m 189 _ [(.int (1 : Int32))])) _
        refine XS.istore X86.here hx rfl (hb hby at_189) rfl (l' := #[.val (.int p0), .val (.int p1), .val (.int p2), .val (.int p3), .val (.int (1 : Int32)), .val (.int (0 : Int32)), .val (.ref b50), .val (.ref b58), .val (.int (1 : Int32)), .val (.int (1 : Int32))]) rfl ?_
        show Steps p.tables e below (T86.setTop (mkF m 191 _ [])) _
        refine XS.iload X86.here hx rfl (hb hby at_191) rfl ?_
        show Steps p.tables e below (T86.setTop (mkF m 193 _ [(.int (1 : Int32))])) _
        refine XS.iload X86.here hx rfl (hb hby at_193) rfl ?_
        show Steps p.tables e below (T86.setTop (mkF m 195 _ [(.int (1 : Int32)), (.int (1 : Int32))])) _
        refine XS.icmpYes X86.here hx rfl (pc0 := 195) (pc' := 239) rfl (hb hby at_195) rfl (flt (by decide : ¬ ((1 : Int32) < (1 : Int32)))).2.1 (by decide) (by decide) ?_
        show Steps p.tables e below (T86.setTop (mkF m 239 _ [])) _
        refine XS.iload X86.here hx rfl (hb hby at_239) rfl ?_
        show Steps p.tables e below (T86.setTop (mkF m 241 _ [(.int (1 : Int32))])) _
        refine XS.iload X86.here hx rfl (hb hby at_241) rfl ?_
        show Steps p.tables e below (T86.setTop (mkF m 243 _ [(.int (1 : Int32)), (.int (1 : Int32))])) _
        refine XS.icmpYes X86.here hx rfl (pc0 := 243) (pc' := 287) rfl (hb hby at_243) rfl (flt (by decide : ¬ ((1 : Int32) < (1 : Int32)))).2.1 (by decide) (by decide) ?_
        show Steps p.tables e below (T86.setTop (mkF m 287 _ [])) _
        refine XS.iload X86.here hx rfl (hb hby at_287) rfl ?_
        exact ht
      exact OFin.retB X86 hx hlk (t := .boolean) (by simp) hret (hb hby at_289) (by decide) (by decide) (by rw [hs86]; exact ⟨rfl, N88⟩)
    · refine OFin.of (S' := s₁.setTop (mkF m 28 #[.val (.int p0), .val (.int p1), .val (.int p2), .val (.int p3), .val (.int (1 : Int32)), .val (.int (0 : Int32)), .unset, .unset, .unset, .unset] [(.int (1 : Int32))])) (fun t ht => ?_) ?_
      · refine XS.ifNo X0.here hx rfl (hb hby at_10) rfl ((if0 _ _).trans (feq (hc49 : ¬ (((p0 >>> ((2 : Int32) &&& 31)) &&& (1 : Int32)) = (0 : Int32)))).1) ?_
        show Steps p.tables e below (s₁.setTop (mkF m 13 _ [])) _
        refine XS.iload X0.here hx rfl (hb hby at_13) rfl ?_
        show Steps p.tables e below (s₁.setTop (mkF m 15 _ [(.int (1 : Int32))])) _
        refine XS.iconst X0.here hx rfl (hb hby at_15) ?_
        show Steps p.tables e below (s₁.setTop (mkF m 16 _ [(.int (2 : Int32)), (.int (1 : Int32))])) _
        refine XS.icmpYes X0.here hx rfl (pc0 := 16) (pc' := 23) rfl (hb hby at_16) rfl (tlt (by decide : (1 : Int32) < (2 : Int32))).1 (by decide) (by decide) ?_
        show Steps p.tables e below (s₁.setTop (mkF m 23 _ [])) _
        refine XS.iconst X0.here hx rfl (hb hby at_23) ?_
        show Steps p.tables e below (s₁.setTop (mkF m 24 _ [(.int (0 : Int32))])) _
        refine XS.istore X0.here hx rfl (hb hby at_24) rfl (l' := #[.val (.int p0), .val (.int p1), .val (.int p2), .val (.int p3), .val (.int (1 : Int32)), .val (.int (0 : Int32)), .unset, .unset, .unset, .unset]) rfl ?_
        show Steps p.tables e below (s₁.setTop (mkF m 26 #[.val (.int p0), .val (.int p1), .val (.int p2), .val (.int p3), .val (.int (1 : Int32)), .val (.int (0 : Int32)), .unset, .unset, .unset, .unset] [])) _
        refine XS.iload X0.here hx rfl (hb hby at_26) rfl ?_
        exact ht
      obtain ⟨T89, h89, k89, X89, e89, E89, A89, st89⟩ := newP X0 hx hZ (hw _ (List.mem_of_getElem? (i := 0) rfl)) e0 (g := (mkF m 28 #[.val (.int p0), .val (.int p1), .val (.int p2), .val (.int p3), .val (.int (1 : Int32)), .val (.int (0 : Int32)), .unset, .unset, .unset, .unset] [(.int (1 : Int32))])) rfl (hb hby at_28) rfl (by decide) (cap := 1) (by decide) (by decide) (by decide) (by decide)
      obtain ⟨b89, gq89⟩ : ∃ z, z = h0.size := ⟨_, rfl⟩
      rw [← gq89] at A89 st89
      have g90 : n0 ≤ b89 := (Nat.le_trans Z0 (Nat.le_of_eq gq89.symm))
      have Z91 : n0 ≤ h89.size := (Nat.le_trans Z0 E89.1)
      have f92 : Arv Z h89 b89 k89 .byte (1 : Int32) [(.int (0 : Int32))] (.int (0 : Int32)) := ((Arv.new A89 (by decide)).pad (pad_rep [] (.int (0 : Int32)) 1))
      refine OFin.of (S' := T89.setTop (mkF m 30 #[.val (.int p0), .val (.int p1), .val (.int p2), .val (.int p3), .val (.int (1 : Int32)), .val (.int (0 : Int32)), .unset, .unset, .unset, .unset] [(.ref b89)])) (fun t ht => st89 t ht) ?_
      refine OFin.of (S' := T89.setTop (mkF m 59 #[.val (.int p0), .val (.int p1), .val (.int p2), .val (.int p3), .val (.int (1 : Int32)), .val (.int (0 : Int32)), .val (.ref b89), .unset, .unset, .unset] [(.int (((p1 &&& (127 : Int32)) ||| (0 : Int32)).toInt8.toInt32)), (.int (0 : Int32)), (.ref b89)])) (fun t ht => ?_) ?_
      · refine XS.astore X89.here hx rfl (hb hby at_30) rfl rfl (l' := #[.val (.int p0), .val (.int p1), .val (.int p2), .val (.int p3), .val (.int (1 : Int32)), .val (.int (0 : Int32)), .val (.ref b89), .unset, .unset, .unset]) rfl ?_
        show Steps p.tables e below (T89.setTop (mkF m 32 #[.val (.int p0), .val (.int p1), .val (.int p2), .val (.int p3), .val (.int (1 : Int32)), .val (.int (0 : Int32)), .val (.ref b89), .unset, .unset, .unset] [])) _
        refine XS.iload X89.here hx rfl (hb hby at_32) rfl ?_
        show Steps p.tables e below (T89.setTop (mkF m 34 _ [(.int (1 : Int32))])) _
        refine XS.iconst X89.here hx rfl (hb hby at_34) ?_
        show Steps p.tables e below (T89.setTop (mkF m 35 _ [(.int (1 : Int32)), (.int (1 : Int32))])) _
        refine XS.icmpNo X89.here hx rfl (hb hby at_35) rfl (flt (by decide : ¬ ((1 : Int32) < (1 : Int32)))).1 ?_
        show Steps p.tables e below (T89.setTop (mkF m 38 _ [])) _
        refine XS.aload X89.here hx rfl (hb hby at_38) rfl rfl ?_
        show Steps p.tables e below (T89.setTop (mkF m 40 _ [(.ref b89)])) _
        refine XS.iconst X89.here hx rfl (hb hby at_40) ?_
        show Steps p.tables e below (T89.setTop (mkF m 41 _ [(.int (0 : Int32)), (.ref b89)])) _
        refine XS.iloadN X89.here hx rfl (hb hby at_41) rfl ?_
        show Steps p.tables e below (T89.setTop (mkF m 42 _ [(.int p1), (.int (0 : Int32)), (.ref b89)])) _
        refine XS.bipush X89.here hx rfl (hb hby at_42) ?_
        show Steps p.tables e below (T89.setTop (mkF m 44 _ [(.int (127 : Int32)), (.int p1), (.int (0 : Int32)), (.ref b89)])) _
        refine XS.iand X89.here hx rfl (hb hby at_44) rfl ?_
        show Steps p.tables e below (T89.setTop (mkF m 45 _ [(.int (p1 &&& (127 : Int32))), (.int (0 : Int32)), (.ref b89)])) _
        refine XS.iload X89.here hx rfl (hb hby at_45) rfl ?_
        show Steps p.tables e below (T89.setTop (mkF m 47 _ [(.int (0 : Int32)), (.int (p1 &&& (127 : Int32))), (.int (0 : Int32)), (.ref b89)])) _
        refine XS.ifYes X89.here hx rfl (pc0 := 47) (pc' := 56) rfl (hb hby at_47) rfl ((if0 _ _).trans (teq (by decide : (0 : Int32) = (0 : Int32))).1) (by decide) (by decide) ?_
        show Steps p.tables e below (T89.setTop (mkF m 56 _ [(.int (p1 &&& (127 : Int32))), (.int (0 : Int32)), (.ref b89)])) _
        refine XS.iconst X89.here hx rfl (hb hby at_56) ?_
        show Steps p.tables e below (T89.setTop (mkF m 57 _ [(.int (0 : Int32)), (.int (p1 &&& (127 : Int32))), (.int (0 : Int32)), (.ref b89)])) _
        refine XS.ior X89.here hx rfl (hb hby at_57) rfl ?_
        show Steps p.tables e below (T89.setTop (mkF m 58 _ [(.int ((p1 &&& (127 : Int32)) ||| (0 : Int32))), (.int (0 : Int32)), (.ref b89)])) _
        refine XS.i2b X89.here hx rfl (hb hby at_58) rfl ?_
        exact ht
      obtain ⟨cl93, Ar93, q93, S93, Ng93, H93, G93⟩ := id f92
      have hin93 := inb_of (j := (0 : Int32)) S93 ⟨by decide, by decide⟩
      obtain ⟨T93, h93, X93, e93, W93, st93⟩ := stB X89 hx hZ e89 Ar93 (j := (0 : Int32)) hin93 (g := (mkF m 59 #[.val (.int p0), .val (.int p1), .val (.int p2), .val (.int p3), .val (.int (1 : Int32)), .val (.int (0 : Int32)), .val (.ref b89), .unset, .unset, .unset] [(.int (((p1 &&& (127 : Int32)) ||| (0 : Int32)).toInt8.toInt32)), (.int (0 : Int32)), (.ref b89)])) rfl rfl (hb hby at_59)
      have Z94 : n0 ≤ h93.size := (Nat.le_trans Z91 (Keep.of_wr W93).1)
      have N95 := Fr.snoc X93 N0 g90
      have f96 : Arv Z h93 b89 k89 .byte (1 : Int32) [(.int ((((p1 &&& (127 : Int32)) ||| (0 : Int32)).toInt8.toInt32).toInt8.toInt32))] (.int (0 : Int32)) := Arv.set Ar93 q93 S93 Ng93 H93 G93 (fits_nar_byte _) W93 0 rfl (Nat.le_of_ble_eq_true rfl)
      refine OFin.of (S' := T93.setTop (mkF m 60 #[.val (.int p0), .val (.int p1), .val (.int p2), .val (.int p3), .val (.int (1 : Int32)), .val (.int (0 : Int32)), .val (.ref b89), .unset, .unset, .unset] [])) (fun t ht => st93 t ht) ?_
      refine OFin.of (S' := T93.setTop (mkF m 90 #[.val (.int p0), .val (.int p1), .val (.int p2), .val (.int p3), .val (.int (1 : Int32)), .val (.int (0 : Int32)), .val (.ref b89), .unset, .unset, .unset] [])) (fun t ht => ?_) ?_
      · refine XS.iload X93.here hx rfl (hb hby at_60) rfl ?_
        show Steps p.tables e below (T93.setTop (mkF m 62 _ [(.int (1 : Int32))])) _
        refine XS.iconst X93.here hx rfl (hb hby at_62) ?_
        show Steps p.tables e below (T93.setTop (mkF m 63 _ [(.int (2 : Int32)), (.int (1 : Int32))])) _
        refine XS.icmpYes X93.here hx rfl (pc0 := 63) (pc' := 75) rfl (hb hby at_63) rfl (tlt (by decide : (1 : Int32) < (2 : Int32))).1 (by decide) (by decide) ?_
        show Steps p.tables e below (T93.setTop (mkF m 75 _ [])) _
        refine XS.iload X93.here hx rfl (hb hby at_75) rfl ?_
        show Steps p.tables e below (T93.setTop (mkF m 77 _ [(.int (1 : Int32))])) _
        refine XS.iconst X93.here hx rfl (hb hby at_77) ?_
        show Steps p.tables e below (T93.setTop (mkF m 78 _ [(.int (3 : Int32)), (.int (1 : Int32))])) _
        refine XS.icmpYes X93.here hx rfl (pc0 := 78) (pc' := 90) rfl (hb hby at_78) rfl (tlt (by decide : (1 : Int32) < (3 : Int32))).1 (by decide) (by decide) ?_
        exact ht
      obtain ⟨T97, h97, X97, e97, E97, A97, D97, -, st97⟩ := newO X93 hx hZ hown (hw _ (List.mem_of_getElem? (i := 1) rfl)) (hw _ (List.mem_of_getElem? (i := 2) rfl)) (hw _ (List.mem_of_getElem? (i := 3) rfl)) e93 (g := (mkF m 90 #[.val (.int p0), .val (.int p1), .val (.int p2), .val (.int p3), .val (.int (1 : Int32)), .val (.int (0 : Int32)), .val (.ref b89), .unset, .unset, .unset] [])) rfl (hb hby at_90) (by decide) (by decide)
      obtain ⟨b97, gq97⟩ : ∃ z, z = h93.size := ⟨_, rfl⟩
      rw [← gq97] at A97 D97 st97
      have g98 : n0 ≤ b97 := (Nat.le_trans Z94 (Nat.le_of_eq gq97.symm))
      have ne99 : b89 ≠ b97 := (Nat.ne_of_lt (Nat.lt_of_lt_of_le f96.lt (Nat.le_of_eq gq97.symm)))
      have f100 := f96.ext E97
      have Z101 : n0 ≤ h97.size := (Nat.le_trans Z94 E97.1)
      have f102 : Fld Z h97 b97 "com/example/querant/querant/records/Packing$Reader" "bytes" "[B" .null := D97 (Or.inr (hw _ (List.mem_of_getElem? (i := 11) rfl))) (ty := (.array .byte)) (by decide)
      have f103 : Fld Z h97 b97 "com/example/querant/querant/records/Packing$Reader" "end" "I" (.int (0 : Int32)) := D97 (Or.inr (hw _ (List.mem_of_getElem? (i := 13) rfl))) (ty := .int) (by decide)
      have f104 : Fld Z h97 b97 "com/example/querant/querant/records/Packing$Reader" "position" "I" (.int (0 : Int32)) := D97 (Or.inl (hw _ (List.mem_of_getElem? (i := 20) rfl))) (ty := .int) (by decide)
      refine OFin.of (S' := T97.setTop (mkF m 93 #[.val (.int p0), .val (.int p1), .val (.int p2), .val (.int p3), .val (.int (1 : Int32)), .val (.int (0 : Int32)), .val (.ref b89), .unset, .unset, .unset] [(.ref b97)])) (fun t ht => st97 t ht) ?_
      refine OFin.of (S' := T97.setTop (mkF m 96 #[.val (.int p0), .val (.int p1), .val (.int p2), .val (.int p3), .val (.int (1 : Int32)), .val (.int (0 : Int32)), .val (.ref b89), .unset, .unset, .unset] [(.ref b89), (.ref b97), (.ref b97)])) (fun t ht => ?_) ?_
      · refine XS.dup X97.here hx rfl (hb hby at_93) rfl rfl ?_
        show Steps p.tables e below (T97.setTop (mkF m 94 _ [(.ref b97), (.ref b97)])) _
        refine XS.aload X97.here hx rfl (hb hby at_94) rfl rfl ?_
        exact ht
      obtain ⟨_, _, ⟨T105, L105, k105, n105⟩, -, X105, ⟨Lc105, hQ105, l105, y105, z105⟩, st105⟩ := X97.specialBack hx (y := (⟨"com/example/querant/querant/records/Packing$Reader", "<init>", "([B)V"⟩ : MethodName)) rfl hown (mvT hZ (hw _ (List.mem_of_getElem? (i := 4) rfl))) (mvT hZ (hw _ (List.mem_of_getElem? (i := 5) rfl))) (mvT hZ (hw _ (List.mem_of_getElem? (i := 6) rfl))) (by decide) (backOf (W := 1) (rmIni l Z _ hw [] b97 b89 k89 (1 : Int32) [(.int ((((p1 &&& (127 : Int32)) ||| (0 : Int32)).toInt8.toInt32).toInt8.toInt32))] h97 n0 Z101 A97 f102 f103 f104 f100 g98 ne99) hZ (hw _ (List.mem_of_getElem? (i := 6) rfl)) (hw _ (List.mem_of_getElem? (i := 3) rfl)) (by decide) (by decide)) (g := (mkF m 96 #[.val (.int p0), .val (.int p1), .val (.int p2), .val (.int p3), .val (.int (1 : Int32)), .val (.int (0 : Int32)), .val (.ref b89), .unset, .unset, .unset] [(.ref b89), (.ref b97), (.ref b97)])) rfl (by rw [hml]; rfl) (Steps.refl _) (a := b97) (argsL := [(.ref b89)]) (rest := [(.ref b97)]) (lenOf pd_0 rfl) rfl (by show 2 * 0 + _ ≤ _; exact Nat.le_of_eq rfl) (hb hby at_96) (fun _ _ => ⟨rfl, e97, (by decide : 2 + 0 ≤ _), (by decide : 4 + 0 ≤ _)⟩)
      dsimp only [Pt.U, Pt.locs, Pt.cells, Pt.slots] at X105 l105 y105 z105 st105 hQ105
      subst l105 y105 z105
      obtain ⟨rfl, Nq105, Kq105, f106, f107, f108⟩ := hQ105
      have N109 := Fr.app N95 Nq105
      have f110 := (f100.keep Kq105 (ninS ne99 nin0))
      have f111 := (A97.keep Kq105)
      have Z112 : n0 ≤ T105.heap.size := (Nat.le_trans Z101 Kq105.1)
      refine OFin.to (S' := T105.setTop (mkF m 99 #[.val (.int p0), .val (.int p1), .val (.int p2), .val (.int p3), .val (.int (1 : Int32)), .val (.int (0 : Int32)), .val (.ref b89), .unset, .unset, .unset] [(.ref b97)])) st105 ?_
      refine OFin.of (S' := T105.setTop (mkF m 106 #[.val (.int p0), .val (.int p1), .val (.int p2), .val (.int p3), .val (.int (1 : Int32)), .val (.int (0 : Int32)), .val (.ref b89), .val (.ref b97), .val (.int (0 : Int32)), .unset] [(.ref b97)])) (fun t ht => ?_) ?_
      · refine XS.astore X105.here hx rfl (hb hby at_99) rfl rfl (l' := #[.val (.int p0), .val (.int p1), .val (.int p2), .val (.int p3), .val (.int (1 : Int32)), .val (.int (0 : Int32)), .val (.ref b89), .val (.ref b97), .unset, .unset]) rfl ?_
        show Steps p.tables e below (T105.setTop (mkF m 101 #[.val (.int p0), .val (.int p1), .val (.int p2), .val (.int p3), .val (.int (1 : Int32)), .val (.int (0 : Int32)), .val (.ref b89), .val (.ref b97), .unset, .unset] [])) _
        refine XS.iconst X105.here hx rfl (hb hby at_101) ?_
        show Steps p.tables e below (T105.setTop (mkF m 102 _ [(.int (0 : Int32))])) _
        refine XS.istore X105.here hx rfl (hb hby at_102) rfl (l' := #[.val (.int p0), .val (.int p1), .val (.int p2), .val (.int p3), .val (.int (1 : Int32)), .val (.int (0 : Int32)), .val (.ref b89), .val (.ref b97), .val (.int (0 : Int32)), .unset]) rfl ?_
        show Steps p.tables e below (T105.setTop (mkF m 104 #[.val (.int p0), .val (.int p1), .val (.int p2), .val (.int p3), .val (.int (1 : Int32)), .val (.int (0 : Int32)), .val (.ref b89), .val (.ref b97), .val (.int (0 : Int32)), .unset] [])) _
        refine XS.aload X105.here hx rfl (hb hby at_104) rfl rfl ?_
        exact ht
      obtain ⟨cq114, kq114, q114a, q114b, q114c⟩ := isOf hZ (rfl : T105.heap = T105.heap) f111
      obtain ⟨_, _, ⟨T113, L113, k113, n113⟩, -, X113, ⟨Lc113, hQ113, l113, y113, z113⟩, st113⟩ := X105.virtualBack hx (y := (⟨"com/example/querant/querant/records/Packing$Reader", "hasMore", "()Z"⟩ : MethodName)) (z := (⟨"com/example/querant/querant/records/Packing$Reader", "hasMore", "()Z"⟩ : MethodName)) hown (mvT hZ (hw _ (List.mem_of_getElem? (i := 14) rfl))) (mvT hZ (hw _ (List.mem_of_getElem? (i := 15) rfl))) (notFace_of_selects (args := #[]) (mvT hZ (hw _ (List.mem_of_getElem? (i := 17) rfl)))) (mvT hZ (hw _ (List.mem_of_getElem? (i := 17) rfl))) (mvT hZ (hw _ (List.mem_of_getElem? (i := 16) rfl))) (by decide) (backOf (W := 0) (rmHm l Z _ hw [] b97 (0 : Int32) (1 : Int32) T105.heap n0 Z112 f108 f107) hZ (hw _ (List.mem_of_getElem? (i := 18) rfl)) (hw _ (List.mem_of_getElem? (i := 3) rfl)) (by decide) (by decide)) q114a q114c (g := (mkF m 106 #[.val (.int p0), .val (.int p1), .val (.int p2), .val (.int p3), .val (.int (1 : Int32)), .val (.int (0 : Int32)), .val (.ref b89), .val (.ref b97), .val (.int (0 : Int32)), .unset] [(.ref b97)])) rfl (by rw [hml]; rfl) (Steps.refl _) (argsL := []) (rest := []) (lenOf pd_1 rfl) rfl (by show 2 * 0 + _ ≤ _; exact Nat.le_of_eq rfl) (hb hby at_106) (fun _ _ => ⟨rfl, (rfl : T105.heap = T105.heap), (by decide : 2 + 0 ≤ _), (by decide : 4 + 0 ≤ _)⟩)
      dsimp only [Pt.U, Pt.locs, Pt.cells, Pt.slots] at X113 l113 y113 z113 st113 hQ113
      subst l113 y113 z113
      obtain ⟨rfl, Nq113, hs113⟩ := hQ113
      have N115 := Fr.app N109 Nq113
      refine OFin.to (S' := T113.setTop (mkF m 109 #[.val (.int p0), .val (.int p1), .val (.int p2), .val (.int p3), .val (.int (1 : Int32)), .val (.int (0 : Int32)), .val (.ref b89), .val (.ref b97), .val (.int (0 : Int32)), .unset] [(.int (1 : Int32))])) st113 ?_
      refine OFin.of (S' := T113.setTop (mkF m 140 #[.val (.int p0), .val (.int p1), .val (.int p2), .val (.int p3), .val (.int (1 : Int32)), .val (.int (0 : Int32)), .val (.ref b89), .val (.ref b97), .val (.int (0 : Int32)), .val (.int (1 : Int32))] [(.ref b97)])) (fun t ht => ?_) ?_
      · refine XS.iload X113.here hx rfl (hb hby at_109) rfl ?_
        show Steps p.tables e below (T113.setTop (mkF m 111 _ [(.int (0 : Int32)), (.int (1 : Int32))])) _
        refine XS.iload X113.here hx rfl (hb hby at_111) rfl ?_
        show Steps p.tables e below (T113.setTop (mkF m 113 _ [(.int (1 : Int32)), (.int (0 : Int32)), (.int (1 : Int32))])) _
        refine XS.icmpNo X113.here hx rfl (hb hby at_113) rfl (tlt (by decide : (0 : Int32) < (1 : Int32))).2.1 ?_
        show Steps p.tables e below (T113.setTop (mkF m 116 _ [(.int (1 : Int32))])) _
        refine XS.iconst X113.here hx rfl (hb hby at_116) ?_
        show Steps p.tables e below (T113.setTop (mkF m 117 _ [(.int (1 : Int32)), (.int (1 : Int32))])) _
        refine XS.goto X113.here hx rfl (pc0 := 117) (pc' := 121) rfl (hb hby at_117) (by decide) (by decide) ?_
        show Steps p.tables e below (T113.setTop (mkF m 121 _ [(.int (1 : Int32)), (.int (1 : Int32))])) _
        refine XS.icmpNo X113.here hx rfl (hb hby at_121) rfl (teq (by decide : (1 : Int32) = (1 : Int32))).2 ?_
        show Steps p.tables e below (T113.setTop (mkF m 124 _ [])) _
        refine XS.iconst X113.here hx rfl (hb hby at_124) ?_
        show Steps p.tables e below (T113.setTop (mkF m 125 _ [(.int (1 : Int32))])) _
        refine XS.goto X113.here hx rfl (pc0 := 125) (pc' := 129) rfl (hb hby at_125) (by decide) (by decide) ?_
        show Steps p.tables e below (T113.setTop (mkF m 129 _ [(.int (1 : Int32))])) _
        refine XS.istore X113.here hx rfl (hb hby at_129) rfl (l' := #[.val (.int p0), .val (.int p1), .val (.int p2), .val (.int p3), .val (.int (1 : Int32)), .val (.int (0 : Int32)), .val (.ref b89), .val (.ref b97), .val (.int (0 : Int32)), .val (.int (1 : Int32))]) rfl ?_
        show Steps p.tables e below (T113.setTop (mkF m 131 #[.val (.int p0), .val (.int p1), .val (.int p2), .val (.int p3), .val (.int (1 : Int32)), .val (.int (0 : Int32)), .val (.ref b89), .val (.ref b97), .val (.int (0 : Int32)), .val (.int (1 : Int32))] [])) _
        refine XS.iload X113.here hx rfl (hb hby at_131) rfl ?_
        show Steps p.tables e below (T113.setTop (mkF m 133 _ [(.int (0 : Int32))])) _
        refine XS.iload X113.here hx rfl (hb hby at_133) rfl ?_
        show Steps p.tables e below (T113.setTop (mkF m 135 _ [(.int (1 : Int32)), (.int (0 : Int32))])) _
        refine XS.icmpNo X113.here hx rfl (hb hby at_135) rfl (tlt (by decide : (0 : Int32) < (1 : Int32))).2.1 ?_
        show Steps p.tables e below (T113.setTop (mkF m 138 _ [])) _
        refine XS.aload X113.here hx rfl (hb hby at_138) rfl rfl ?_
        exact ht
      obtain ⟨cq117, kq117, q117a, q117b, q117c⟩ := isOf hZ hs113 f111
      obtain ⟨_, _, ⟨T116, L116, k116, n116⟩, -, X116, ⟨Lc116, hQ116, l116, y116, z116⟩, st116⟩ := X113.virtualBack hx (y := (⟨"com/example/querant/querant/records/Packing$Reader", "number", "()J"⟩ : MethodName)) (z := (⟨"com/example/querant/querant/records/Packing$Reader", "number", "()J"⟩ : MethodName)) hown (mvT hZ (hw _ (List.mem_of_getElem? (i := 21) rfl))) (mvT hZ (hw _ (List.mem_of_getElem? (i := 22) rfl))) (notFace_of_selects (args := #[]) (mvT hZ (hw _ (List.mem_of_getElem? (i := 24) rfl)))) (mvT hZ (hw _ (List.mem_of_getElem? (i := 24) rfl))) (mvT hZ (hw _ (List.mem_of_getElem? (i := 23) rfl))) (by decide) (backOf (W := 0) (rmNb1 l Z _ hw [] b97 b89 k89 (1 : Int32) [(.int ((((p1 &&& (127 : Int32)) ||| (0 : Int32)).toInt8.toInt32).toInt8.toInt32))] (0 : Int32) ((((p1 &&& (127 : Int32)) ||| (0 : Int32)).toInt8.toInt32).toInt8.toInt32) T105.heap n0 Z112 f111 f108 f107 f106 f110 g98 ne99 (by decide) (by decide) rfl (own_lo0 _)) hZ (hw _ (List.mem_of_getElem? (i := 25) rfl)) (hw _ (List.mem_of_getElem? (i := 3) rfl)) (by decide) (by decide)) q117a q117c (g := (mkF m 140 #[.val (.int p0), .val (.int p1), .val (.int p2), .val (.int p3), .val (.int (1 : Int32)), .val (.int (0 : Int32)), .val (.ref b89), .val (.ref b97), .val (.int (0 : Int32)), .val (.int (1 : Int32))] [(.ref b97)])) rfl (by rw [hml]; rfl) (Steps.refl _) (argsL := []) (rest := []) (lenOf pd_2 rfl) rfl (by show 2 * 0 + _ ≤ _; exact Nat.le_of_eq rfl) (hb hby at_140) (fun _ _ => ⟨rfl, hs113, (by decide : 2 + 0 ≤ _), (by decide : 4 + 0 ≤ _)⟩)
      dsimp only [Pt.U, Pt.locs, Pt.cells, Pt.slots] at X116 l116 y116 z116 st116 hQ116
      subst l116 y116 z116
      obtain ⟨rfl, Nq116, Kq116, f118, f119, f120⟩ := hQ116
      have N121 := Fr.app N115 Nq116
      have f122 := (f110.keep Kq116 (ninS ne99 nin0))
      have f123 := (f111.keep Kq116)
      have Z124 : n0 ≤ T116.heap.size := (Nat.le_trans Z112 Kq116.1)
      refine OFin.to (S' := T116.setTop (mkF m 143 #[.val (.int p0), .val (.int p1), .val (.int p2), .val (.int p3), .val (.int (1 : Int32)), .val (.int (0 : Int32)), .val (.ref b89), .val (.ref b97), .val (.int (0 : Int32)), .val (.int (1 : Int32))] [(.long ((0 : Int64) ||| (((((((p1 &&& (127 : Int32)) ||| (0 : Int32)).toInt8.toInt32).toInt8.toInt32) &&& (127 : Int32)).toInt64) <<< ((0 : Int32) &&& 0x3f).toInt64)))])) st116 ?_
      refine OFin.of (S' := T116.setTop (mkF m 166 #[.val (.int p0), .val (.int p1), .val (.int p2), .val (.int p3), .val (.int (1 : Int32)), .val (.int (0 : Int32)), .val (.ref b89), .val (.ref b97), .val (.int (1 : Int32)), .val (.int (1 : Int32))] [(.ref b97)])) (fun t ht => ?_) ?_
      · refine own_pop2L X116.here hx rfl (hb hby at_143) rfl ?_
        show Steps p.tables e below (T116.setTop (mkF m 144 _ [])) _
        refine XS.iload X116.here hx rfl (hb hby at_144) rfl ?_
        show Steps p.tables e below (T116.setTop (mkF m 146 _ [(.int (0 : Int32))])) _
        refine XS.iload X116.here hx rfl (hb hby at_146) rfl ?_
        show Steps p.tables e below (T116.setTop (mkF m 148 _ [(.int (0 : Int32)), (.int (0 : Int32))])) _
        refine XS.ifYes X116.here hx rfl (pc0 := 148) (pc' := 155) rfl (hb hby at_148) rfl ((if0 _ _).trans (teq (by decide : (0 : Int32) = (0 : Int32))).1) (by decide) (by decide) ?_
        show Steps p.tables e below (T116.setTop (mkF m 155 _ [(.int (0 : Int32))])) _
        refine XS.iconst X116.here hx rfl (hb hby at_155) ?_
        show Steps p.tables e below (T116.setTop (mkF m 156 _ [(.int (1 : Int32)), (.int (0 : Int32))])) _
        refine XS.iadd X116.here hx rfl (hb hby at_156) rfl ?_
        show Steps p.tables e below (T116.setTop (mkF m 157 _ [(.int (1 : Int32))])) _
        refine XS.istore X116.here hx rfl (hb hby at_157) rfl (l' := #[.val (.int p0), .val (.int p1), .val (.int p2), .val (.int p3), .val (.int (1 : Int32)), .val (.int (0 : Int32)), .val (.ref b89), .val (.ref b97), .val (.int (1 : Int32)), .val (.int (1 : Int32))]) rfl ?_
        show Steps p.tables e below (T116.setTop (mkF m 159 #[.val (.int p0), .val (.int p1), .val (.int p2), .val (.int p3), .val (.int (1 : Int32)), .val (.int (0 : Int32)), .val (.ref b89), .val (.ref b97), .val (.int (1 : Int32)), .val (.int (1 : Int32))] [])) _
        refine XS.iload X116.here hx rfl (hb hby at_159) rfl ?_
        show Steps p.tables e below (T116.setTop (mkF m 161 _ [(.int (1 : Int32))])) _
        refine XS.ifNo X116.here hx rfl (hb hby at_161) rfl ((if0 _ _).trans (feq (by decide : ¬ ((1 : Int32) = (0 : Int32)))).1) ?_
        show Steps p.tables e below (T116.setTop (mkF m 164 _ [])) _
        refine XS.aload X116.here hx rfl (hb hby at_164) rfl rfl ?_
        exact ht
      obtain ⟨cq126, kq126, q126a, q126b, q126c⟩ := isOf hZ (rfl : T116.heap = T116.heap) f123
      obtain ⟨_, _, ⟨T125, L125, k125, n125⟩, -, X125, ⟨Lc125, hQ125, l125, y125, z125⟩, st125⟩ := X116.virtualBack hx (y := (⟨"com/example/querant/querant/records/Packing$Reader", "hasMore", "()Z"⟩ : MethodName)) (z := (⟨"com/example/querant/querant/records/Packing$Reader", "hasMore", "()Z"⟩ : MethodName)) hown (mvT hZ (hw _ (List.mem_of_getElem? (i := 14) rfl))) (mvT hZ (hw _ (List.mem_of_getElem? (i := 15) rfl))) (notFace_of_selects (args := #[]) (mvT hZ (hw _ (List.mem_of_getElem? (i := 17) rfl)))) (mvT hZ (hw _ (List.mem_of_getElem? (i := 17) rfl))) (mvT hZ (hw _ (List.mem_of_getElem? (i := 16) rfl))) (by decide) (backOf (W := 0) (rmHm l Z _ hw [] b97 (1 : Int32) (1 : Int32) T116.heap n0 Z124 f120 f119) hZ (hw _ (List.mem_of_getElem? (i := 18) rfl)) (hw _ (List.mem_of_getElem? (i := 3) rfl)) (by decide) (by decide)) q126a q126c (g := (mkF m 166 #[.val (.int p0), .val (.int p1), .val (.int p2), .val (.int p3), .val (.int (1 : Int32)), .val (.int (0 : Int32)), .val (.ref b89), .val (.ref b97), .val (.int (1 : Int32)), .val (.int (1 : Int32))] [(.ref b97)])) rfl (by rw [hml]; rfl) (Steps.refl _) (argsL := []) (rest := []) (lenOf pd_1 rfl) rfl (by show 2 * 0 + _ ≤ _; exact Nat.le_of_eq rfl) (hb hby at_166) (fun _ _ => ⟨rfl, (rfl : T116.heap = T116.heap), (by decide : 2 + 0 ≤ _), (by decide : 4 + 0 ≤ _)⟩)
      dsimp only [Pt.U, Pt.locs, Pt.cells, Pt.slots] at X125 l125 y125 z125 st125 hQ125
      subst l125 y125 z125
      obtain ⟨rfl, Nq125, hs125⟩ := hQ125
      have N127 := Fr.app N121 Nq125
      refine OFin.to (S' := T125.setTop (mkF m 169 #[.val (.int p0), .val (.int p1), .val (.int p2), .val (.int p3), .val (.int (1 : Int32)), .val (.int (0 : Int32)), .val (.ref b89), .val (.ref b97), .val (.int (1 : Int32)), .val (.int (1 : Int32))] [(.int (0 : Int32))])) st125 ?_
      refine OFin.of (S' := T125.setTop (mkF m 289 #[.val (.int p0), .val (.int p1), .val (.int p2), .val (.int p3), .val (.int (1 : Int32)), .val (.int (0 : Int32)), .val (.ref b89), .val (.ref b97), .val (.int (1 : Int32)), .val (.int (1 : Int32))] [(.int (1 : Int32))])) (fun t ht => ?_) ?_
      · refine XS.iload X125.here hx rfl (hb hby at_169) rfl ?_
        show Steps p.tables e below (T125.setTop (mkF m 171 _ [(.int (1 : Int32)), (.int (0 : Int32))])) _
        refine XS.iload X125.here hx rfl (hb hby at_171) rfl ?_
        show Steps p.tables e below (T125.setTop (mkF m 173 _ [(.int (1 : Int32)), (.int (1 : Int32)), (.int (0 : Int32))])) _
        refine XS.icmpYes X125.here hx rfl (pc0 := 173) (pc' := 180) rfl (hb hby at_173) rfl (flt (by decide : ¬ ((1 : Int32) < (1 : Int32)))).2.1 (by decide) (by decide) ?_
        show Steps p.tables e below (T125.setTop (mkF m 180 _ [(.int (0 : Int32))])) _
        refine XS.iconst X125.here hx rfl (hb hby at_180) ?_
        show Steps p.tables e below (T125.setTop (mkF m 181 _ [(.int (0 : Int32)), (.int (0 : Int32))])) _
        refine XS.icmpNo X125.here hx rfl (hb hby at_181) rfl (teq (by decide : (0 : Int32) = (0 : Int32))).2 ?_
        show Steps p.tables e below (T125.setTop (mkF m 184 _ [])) _
        refine XS.iconst X125.here hx rfl (hb hby at_184) ?_
        show Steps p.tables e below (T125.setTop (mkF m 185 _ [(.int (1 : Int32))])) _
        refine XS.goto X125.here hx rfl (pc0 := 185) (pc' := 189) rfl (hb hby at_185) (by decide) (by decide) ?_
        show Steps p.tables e below (T125.setTop (mkF m 189 _ [(.int (1 : Int32))])) _
        refine XS.istore X125.here hx rfl (hb hby at_189) rfl (l' := #[.val (.int p0), .val (.int p1), .val (.int p2), .val (.int p3), .val (.int (1 : Int32)), .val (.int (0 : Int32)), .val (.ref b89), .val (.ref b97), .val (.int (1 : Int32)), .val (.int (1 : Int32))]) rfl ?_
        show Steps p.tables e below (T125.setTop (mkF m 191 _ [])) _
        refine XS.iload X125.here hx rfl (hb hby at_191) rfl ?_
        show Steps p.tables e below (T125.setTop (mkF m 193 _ [(.int (1 : Int32))])) _
        refine XS.iload X125.here hx rfl (hb hby at_193) rfl ?_
        show Steps p.tables e below (T125.setTop (mkF m 195 _ [(.int (1 : Int32)), (.int (1 : Int32))])) _
        refine XS.icmpYes X125.here hx rfl (pc0 := 195) (pc' := 239) rfl (hb hby at_195) rfl (flt (by decide : ¬ ((1 : Int32) < (1 : Int32)))).2.1 (by decide) (by decide) ?_
        show Steps p.tables e below (T125.setTop (mkF m 239 _ [])) _
        refine XS.iload X125.here hx rfl (hb hby at_239) rfl ?_
        show Steps p.tables e below (T125.setTop (mkF m 241 _ [(.int (1 : Int32))])) _
        refine XS.iload X125.here hx rfl (hb hby at_241) rfl ?_
        show Steps p.tables e below (T125.setTop (mkF m 243 _ [(.int (1 : Int32)), (.int (1 : Int32))])) _
        refine XS.icmpYes X125.here hx rfl (pc0 := 243) (pc' := 287) rfl (hb hby at_243) rfl (flt (by decide : ¬ ((1 : Int32) < (1 : Int32)))).2.1 (by decide) (by decide) ?_
        show Steps p.tables e below (T125.setTop (mkF m 287 _ [])) _
        refine XS.iload X125.here hx rfl (hb hby at_287) rfl ?_
        exact ht
      exact OFin.retB X125 hx hlk (t := .boolean) (by simp) hret (hb hby at_289) (by decide) (by decide) (by rw [hs125]; exact ⟨rfl, N127⟩)
  · rw [hq1]
    refine OFin.of (S' := s₁.setTop (mkF m 10 #[.val (.int p0), .val (.int p1), .val (.int p2), .val (.int p3), .val (.int (2 : Int32)), .unset, .unset, .unset, .unset, .unset] [(.int ((p0 >>> ((2 : Int32) &&& 31)) &&& (1 : Int32)))])) (fun t ht => ?_) ?_
    · refine XS.istore X0.here hx rfl (hb hby at_3) rfl (l' := #[.val (.int p0), .val (.int p1), .val (.int p2), .val (.int p3), .val (.int (2 : Int32)), .unset, .unset, .unset, .unset, .unset]) rfl ?_
      show Steps p.tables e below (s₁.setTop (mkF m 5 #[.val (.int p0), .val (.int p1), .val (.int p2), .val (.int p3), .val (.int (2 : Int32)), .unset, .unset, .unset, .unset, .unset] [])) _
      refine XS.iloadN X0.here hx rfl (hb hby at_5) rfl ?_
      show Steps p.tables e below (s₁.setTop (mkF m 6 _ [(.int p0)])) _
      refine XS.iconst X0.here hx rfl (hb hby at_6) ?_
      show Steps p.tables e below (s₁.setTop (mkF m 7 _ [(.int (2 : Int32)), (.int p0)])) _
      refine XS.ishr X0.here hx rfl (hb hby at_7) rfl ?_
      show Steps p.tables e below (s₁.setTop (mkF m 8 _ [(.int (p0 >>> ((2 : Int32) &&& 31)))])) _
      refine XS.iconst X0.here hx rfl (hb hby at_8) ?_
      show Steps p.tables e below (s₁.setTop (mkF m 9 _ [(.int (1 : Int32)), (.int (p0 >>> ((2 : Int32) &&& 31)))])) _
      refine XS.iand X0.here hx rfl (hb hby at_9) rfl ?_
      exact ht
    by_cases hc128 : ((p0 >>> ((2 : Int32) &&& 31)) &&& (1 : Int32)) = (0 : Int32)
    · refine OFin.of (S' := s₁.setTop (mkF m 28 #[.val (.int p0), .val (.int p1), .val (.int p2), .val (.int p3), .val (.int (2 : Int32)), .val (.int (0 : Int32)), .unset, .unset, .unset, .unset] [(.int (2 : Int32))])) (fun t ht => ?_) ?_
      · refine XS.ifYes X0.here hx rfl (pc0 := 10) (pc' := 23) rfl (hb hby at_10) rfl ((if0 _ _).trans (teq (hc128 : ((p0 >>> ((2 : Int32) &&& 31)) &&& (1 : Int32)) = (0 : Int32))).1) (by decide) (by decide) ?_
        show Steps p.tables e below (s₁.setTop (mkF m 23 _ [])) _
        refine XS.iconst X0.here hx rfl (hb hby at_23) ?_
        show Steps p.tables e below (s₁.setTop (mkF m 24 _ [(.int (0 : Int32))])) _
        refine XS.istore X0.here hx rfl (hb hby at_24) rfl (l' := #[.val (.int p0), .val (.int p1), .val (.int p2), .val (.int p3), .val (.int (2 : Int32)), .val (.int (0 : Int32)), .unset, .unset, .unset, .unset]) rfl ?_
        show Steps p.tables e below (s₁.setTop (mkF m 26 #[.val (.int p0), .val (.int p1), .val (.int p2), .val (.int p3), .val (.int (2 : Int32)), .val (.int (0 : Int32)), .unset, .unset, .unset, .unset] [])) _
        refine XS.iload X0.here hx rfl (hb hby at_26) rfl ?_
        exact ht
      obtain ⟨T129, h129, k129, X129, e129, E129, A129, st129⟩ := newP X0 hx hZ (hw _ (List.mem_of_getElem? (i := 0) rfl)) e0 (g := (mkF m 28 #[.val (.int p0), .val (.int p1), .val (.int p2), .val (.int p3), .val (.int (2 : Int32)), .val (.int (0 : Int32)), .unset, .unset, .unset, .unset] [(.int (2 : Int32))])) rfl (hb hby at_28) rfl (by decide) (cap := 2) (by decide) (by decide) (by decide) (by decide)
      obtain ⟨b129, gq129⟩ : ∃ z, z = h0.size := ⟨_, rfl⟩
      rw [← gq129] at A129 st129
      have g130 : n0 ≤ b129 := (Nat.le_trans Z0 (Nat.le_of_eq gq129.symm))
      have Z131 : n0 ≤ h129.size := (Nat.le_trans Z0 E129.1)
      have f132 : Arv Z h129 b129 k129 .byte (2 : Int32) [(.int (0 : Int32)), (.int (0 : Int32))] (.int (0 : Int32)) := ((Arv.new A129 (by decide)).pad (pad_rep [] (.int (0 : Int32)) 2))
      refine OFin.of (S' := T129.setTop (mkF m 30 #[.val (.int p0), .val (.int p1), .val (.int p2), .val (.int p3), .val (.int (2 : Int32)), .val (.int (0 : Int32)), .unset, .unset, .unset, .unset] [(.ref b129)])) (fun t ht => st129 t ht) ?_
      refine OFin.of (S' := T129.setTop (mkF m 59 #[.val (.int p0), .val (.int p1), .val (.int p2), .val (.int p3), .val (.int (2 : Int32)), .val (.int (0 : Int32)), .val (.ref b129), .unset, .unset, .unset] [(.int (((p1 &&& (127 : Int32)) ||| (0 : Int32)).toInt8.toInt32)), (.int (0 : Int32)), (.ref b129)])) (fun t ht => ?_) ?_
      · refine XS.astore X129.here hx rfl (hb hby at_30) rfl rfl (l' := #[.val (.int p0), .val (.int p1), .val (.int p2), .val (.int p3), .val (.int (2 : Int32)), .val (.int (0 : Int32)), .val (.ref b129), .unset, .unset, .unset]) rfl ?_
        show Steps p.tables e below (T129.setTop (mkF m 32 #[.val (.int p0), .val (.int p1), .val (.int p2), .val (.int p3), .val (.int (2 : Int32)), .val (.int (0 : Int32)), .val (.ref b129), .unset, .unset, .unset] [])) _
        refine XS.iload X129.here hx rfl (hb hby at_32) rfl ?_
        show Steps p.tables e below (T129.setTop (mkF m 34 _ [(.int (2 : Int32))])) _
        refine XS.iconst X129.here hx rfl (hb hby at_34) ?_
        show Steps p.tables e below (T129.setTop (mkF m 35 _ [(.int (1 : Int32)), (.int (2 : Int32))])) _
        refine XS.icmpNo X129.here hx rfl (hb hby at_35) rfl (flt (by decide : ¬ ((2 : Int32) < (1 : Int32)))).1 ?_
        show Steps p.tables e below (T129.setTop (mkF m 38 _ [])) _
        refine XS.aload X129.here hx rfl (hb hby at_38) rfl rfl ?_
        show Steps p.tables e below (T129.setTop (mkF m 40 _ [(.ref b129)])) _
        refine XS.iconst X129.here hx rfl (hb hby at_40) ?_
        show Steps p.tables e below (T129.setTop (mkF m 41 _ [(.int (0 : Int32)), (.ref b129)])) _
        refine XS.iloadN X129.here hx rfl (hb hby at_41) rfl ?_
        show Steps p.tables e below (T129.setTop (mkF m 42 _ [(.int p1), (.int (0 : Int32)), (.ref b129)])) _
        refine XS.bipush X129.here hx rfl (hb hby at_42) ?_
        show Steps p.tables e below (T129.setTop (mkF m 44 _ [(.int (127 : Int32)), (.int p1), (.int (0 : Int32)), (.ref b129)])) _
        refine XS.iand X129.here hx rfl (hb hby at_44) rfl ?_
        show Steps p.tables e below (T129.setTop (mkF m 45 _ [(.int (p1 &&& (127 : Int32))), (.int (0 : Int32)), (.ref b129)])) _
        refine XS.iload X129.here hx rfl (hb hby at_45) rfl ?_
        show Steps p.tables e below (T129.setTop (mkF m 47 _ [(.int (0 : Int32)), (.int (p1 &&& (127 : Int32))), (.int (0 : Int32)), (.ref b129)])) _
        refine XS.ifYes X129.here hx rfl (pc0 := 47) (pc' := 56) rfl (hb hby at_47) rfl ((if0 _ _).trans (teq (by decide : (0 : Int32) = (0 : Int32))).1) (by decide) (by decide) ?_
        show Steps p.tables e below (T129.setTop (mkF m 56 _ [(.int (p1 &&& (127 : Int32))), (.int (0 : Int32)), (.ref b129)])) _
        refine XS.iconst X129.here hx rfl (hb hby at_56) ?_
        show Steps p.tables e below (T129.setTop (mkF m 57 _ [(.int (0 : Int32)), (.int (p1 &&& (127 : Int32))), (.int (0 : Int32)), (.ref b129)])) _
        refine XS.ior X129.here hx rfl (hb hby at_57) rfl ?_
        show Steps p.tables e below (T129.setTop (mkF m 58 _ [(.int ((p1 &&& (127 : Int32)) ||| (0 : Int32))), (.int (0 : Int32)), (.ref b129)])) _
        refine XS.i2b X129.here hx rfl (hb hby at_58) rfl ?_
        exact ht
      obtain ⟨cl133, Ar133, q133, S133, Ng133, H133, G133⟩ := id f132
      have hin133 := inb_of (j := (0 : Int32)) S133 ⟨by decide, by decide⟩
      obtain ⟨T133, h133, X133, e133, W133, st133⟩ := stB X129 hx hZ e129 Ar133 (j := (0 : Int32)) hin133 (g := (mkF m 59 #[.val (.int p0), .val (.int p1), .val (.int p2), .val (.int p3), .val (.int (2 : Int32)), .val (.int (0 : Int32)), .val (.ref b129), .unset, .unset, .unset] [(.int (((p1 &&& (127 : Int32)) ||| (0 : Int32)).toInt8.toInt32)), (.int (0 : Int32)), (.ref b129)])) rfl rfl (hb hby at_59)
      have Z134 : n0 ≤ h133.size := (Nat.le_trans Z131 (Keep.of_wr W133).1)
      have N135 := Fr.snoc X133 N0 g130
      have f136 : Arv Z h133 b129 k129 .byte (2 : Int32) [(.int ((((p1 &&& (127 : Int32)) ||| (0 : Int32)).toInt8.toInt32).toInt8.toInt32)), (.int (0 : Int32))] (.int (0 : Int32)) := Arv.set Ar133 q133 S133 Ng133 H133 G133 (fits_nar_byte _) W133 0 rfl (Nat.le_of_ble_eq_true rfl)
      refine OFin.of (S' := T133.setTop (mkF m 60 #[.val (.int p0), .val (.int p1), .val (.int p2), .val (.int p3), .val (.int (2 : Int32)), .val (.int (0 : Int32)), .val (.ref b129), .unset, .unset, .unset] [])) (fun t ht => st133 t ht) ?_
      refine OFin.of (S' := T133.setTop (mkF m 74 #[.val (.int p0), .val (.int p1), .val (.int p2), .val (.int p3), .val (.int (2 : Int32)), .val (.int (0 : Int32)), .val (.ref b129), .unset, .unset, .unset] [(.int ((p2 &&& (127 : Int32)).toInt8.toInt32)), (.int (1 : Int32)), (.ref b129)])) (fun t ht => ?_) ?_
      · refine XS.iload X133.here hx rfl (hb hby at_60) rfl ?_
        show Steps p.tables e below (T133.setTop (mkF m 62 _ [(.int (2 : Int32))])) _
        refine XS.iconst X133.here hx rfl (hb hby at_62) ?_
        show Steps p.tables e below (T133.setTop (mkF m 63 _ [(.int (2 : Int32)), (.int (2 : Int32))])) _
        refine XS.icmpNo X133.here hx rfl (hb hby at_63) rfl (flt (by decide : ¬ ((2 : Int32) < (2 : Int32)))).1 ?_
        show Steps p.tables e below (T133.setTop (mkF m 66 _ [])) _
        refine XS.aload X133.here hx rfl (hb hby at_66) rfl rfl ?_
        show Steps p.tables e below (T133.setTop (mkF m 68 _ [(.ref b129)])) _
        refine XS.iconst X133.here hx rfl (hb hby at_68) ?_
        show Steps p.tables e below (T133.setTop (mkF m 69 _ [(.int (1 : Int32)), (.ref b129)])) _
        refine XS.iloadN X133.here hx rfl (hb hby at_69) rfl ?_
        show Steps p.tables e below (T133.setTop (mkF m 70 _ [(.int p2), (.int (1 : Int32)), (.ref b129)])) _
        refine XS.bipush X133.here hx rfl (hb hby at_70) ?_
        show Steps p.tables e below (T133.setTop (mkF m 72 _ [(.int (127 : Int32)), (.int p2), (.int (1 : Int32)), (.ref b129)])) _
        refine XS.iand X133.here hx rfl (hb hby at_72) rfl ?_
        show Steps p.tables e below (T133.setTop (mkF m 73 _ [(.int (p2 &&& (127 : Int32))), (.int (1 : Int32)), (.ref b129)])) _
        refine XS.i2b X133.here hx rfl (hb hby at_73) rfl ?_
        exact ht
      obtain ⟨cl137, Ar137, q137, S137, Ng137, H137, G137⟩ := id f136
      have hin137 := inb_of (j := (1 : Int32)) S137 ⟨by decide, by decide⟩
      obtain ⟨T137, h137, X137, e137, W137, st137⟩ := stB X133 hx hZ e133 Ar137 (j := (1 : Int32)) hin137 (g := (mkF m 74 #[.val (.int p0), .val (.int p1), .val (.int p2), .val (.int p3), .val (.int (2 : Int32)), .val (.int (0 : Int32)), .val (.ref b129), .unset, .unset, .unset] [(.int ((p2 &&& (127 : Int32)).toInt8.toInt32)), (.int (1 : Int32)), (.ref b129)])) rfl rfl (hb hby at_74)
      have Z138 : n0 ≤ h137.size := (Nat.le_trans Z134 (Keep.of_wr W137).1)
      have N139 := Fr.snoc X137 N135 g130
      have f140 : Arv Z h137 b129 k129 .byte (2 : Int32) [(.int ((((p1 &&& (127 : Int32)) ||| (0 : Int32)).toInt8.toInt32).toInt8.toInt32)), (.int (((p2 &&& (127 : Int32)).toInt8.toInt32).toInt8.toInt32))] (.int (0 : Int32)) := Arv.set Ar137 q137 S137 Ng137 H137 G137 (fits_nar_byte _) W137 1 rfl (Nat.le_of_ble_eq_true rfl)
      refine OFin.of (S' := T137.setTop (mkF m 75 #[.val (.int p0), .val (.int p1), .val (.int p2), .val (.int p3), .val (.int (2 : Int32)), .val (.int (0 : Int32)), .val (.ref b129), .unset, .unset, .unset] [])) (fun t ht => st137 t ht) ?_
      refine OFin.of (S' := T137.setTop (mkF m 90 #[.val (.int p0), .val (.int p1), .val (.int p2), .val (.int p3), .val (.int (2 : Int32)), .val (.int (0 : Int32)), .val (.ref b129), .unset, .unset, .unset] [])) (fun t ht => ?_) ?_
      · refine XS.iload X137.here hx rfl (hb hby at_75) rfl ?_
        show Steps p.tables e below (T137.setTop (mkF m 77 _ [(.int (2 : Int32))])) _
        refine XS.iconst X137.here hx rfl (hb hby at_77) ?_
        show Steps p.tables e below (T137.setTop (mkF m 78 _ [(.int (3 : Int32)), (.int (2 : Int32))])) _
        refine XS.icmpYes X137.here hx rfl (pc0 := 78) (pc' := 90) rfl (hb hby at_78) rfl (tlt (by decide : (2 : Int32) < (3 : Int32))).1 (by decide) (by decide) ?_
        exact ht
      obtain ⟨T141, h141, X141, e141, E141, A141, D141, -, st141⟩ := newO X137 hx hZ hown (hw _ (List.mem_of_getElem? (i := 1) rfl)) (hw _ (List.mem_of_getElem? (i := 2) rfl)) (hw _ (List.mem_of_getElem? (i := 3) rfl)) e137 (g := (mkF m 90 #[.val (.int p0), .val (.int p1), .val (.int p2), .val (.int p3), .val (.int (2 : Int32)), .val (.int (0 : Int32)), .val (.ref b129), .unset, .unset, .unset] [])) rfl (hb hby at_90) (by decide) (by decide)
      obtain ⟨b141, gq141⟩ : ∃ z, z = h137.size := ⟨_, rfl⟩
      rw [← gq141] at A141 D141 st141
      have g142 : n0 ≤ b141 := (Nat.le_trans Z138 (Nat.le_of_eq gq141.symm))
      have ne143 : b129 ≠ b141 := (Nat.ne_of_lt (Nat.lt_of_lt_of_le f140.lt (Nat.le_of_eq gq141.symm)))
      have f144 := f140.ext E141
      have Z145 : n0 ≤ h141.size := (Nat.le_trans Z138 E141.1)
      have f146 : Fld Z h141 b141 "com/example/querant/querant/records/Packing$Reader" "bytes" "[B" .null := D141 (Or.inr (hw _ (List.mem_of_getElem? (i := 11) rfl))) (ty := (.array .byte)) (by decide)
      have f147 : Fld Z h141 b141 "com/example/querant/querant/records/Packing$Reader" "end" "I" (.int (0 : Int32)) := D141 (Or.inr (hw _ (List.mem_of_getElem? (i := 13) rfl))) (ty := .int) (by decide)
      have f148 : Fld Z h141 b141 "com/example/querant/querant/records/Packing$Reader" "position" "I" (.int (0 : Int32)) := D141 (Or.inl (hw _ (List.mem_of_getElem? (i := 20) rfl))) (ty := .int) (by decide)
      refine OFin.of (S' := T141.setTop (mkF m 93 #[.val (.int p0), .val (.int p1), .val (.int p2), .val (.int p3), .val (.int (2 : Int32)), .val (.int (0 : Int32)), .val (.ref b129), .unset, .unset, .unset] [(.ref b141)])) (fun t ht => st141 t ht) ?_
      refine OFin.of (S' := T141.setTop (mkF m 96 #[.val (.int p0), .val (.int p1), .val (.int p2), .val (.int p3), .val (.int (2 : Int32)), .val (.int (0 : Int32)), .val (.ref b129), .unset, .unset, .unset] [(.ref b129), (.ref b141), (.ref b141)])) (fun t ht => ?_) ?_
      · refine XS.dup X141.here hx rfl (hb hby at_93) rfl rfl ?_
        show Steps p.tables e below (T141.setTop (mkF m 94 _ [(.ref b141), (.ref b141)])) _
        refine XS.aload X141.here hx rfl (hb hby at_94) rfl rfl ?_
        exact ht
      obtain ⟨_, _, ⟨T149, L149, k149, n149⟩, -, X149, ⟨Lc149, hQ149, l149, y149, z149⟩, st149⟩ := X141.specialBack hx (y := (⟨"com/example/querant/querant/records/Packing$Reader", "<init>", "([B)V"⟩ : MethodName)) rfl hown (mvT hZ (hw _ (List.mem_of_getElem? (i := 4) rfl))) (mvT hZ (hw _ (List.mem_of_getElem? (i := 5) rfl))) (mvT hZ (hw _ (List.mem_of_getElem? (i := 6) rfl))) (by decide) (backOf (W := 1) (rmIni l Z _ hw [] b141 b129 k129 (2 : Int32) [(.int ((((p1 &&& (127 : Int32)) ||| (0 : Int32)).toInt8.toInt32).toInt8.toInt32)), (.int (((p2 &&& (127 : Int32)).toInt8.toInt32).toInt8.toInt32))] h141 n0 Z145 A141 f146 f147 f148 f144 g142 ne143) hZ (hw _ (List.mem_of_getElem? (i := 6) rfl)) (hw _ (List.mem_of_getElem? (i := 3) rfl)) (by decide) (by decide)) (g := (mkF m 96 #[.val (.int p0), .val (.int p1), .val (.int p2), .val (.int p3), .val (.int (2 : Int32)), .val (.int (0 : Int32)), .val (.ref b129), .unset, .unset, .unset] [(.ref b129), (.ref b141), (.ref b141)])) rfl (by rw [hml]; rfl) (Steps.refl _) (a := b141) (argsL := [(.ref b129)]) (rest := [(.ref b141)]) (lenOf pd_0 rfl) rfl (by show 2 * 0 + _ ≤ _; exact Nat.le_of_eq rfl) (hb hby at_96) (fun _ _ => ⟨rfl, e141, (by decide : 2 + 0 ≤ _), (by decide : 5 + 0 ≤ _)⟩)
      dsimp only [Pt.U, Pt.locs, Pt.cells, Pt.slots] at X149 l149 y149 z149 st149 hQ149
      subst l149 y149 z149
      obtain ⟨rfl, Nq149, Kq149, f150, f151, f152⟩ := hQ149
      have N153 := Fr.app N139 Nq149
      have f154 := (f144.keep Kq149 (ninS ne143 nin0))
      have f155 := (A141.keep Kq149)
      have Z156 : n0 ≤ T149.heap.size := (Nat.le_trans Z145 Kq149.1)
      refine OFin.to (S' := T149.setTop (mkF m 99 #[.val (.int p0), .val (.int p1), .val (.int p2), .val (.int p3), .val (.int (2 : Int32)), .val (.int (0 : Int32)), .val (.ref b129), .unset, .unset, .unset] [(.ref b141)])) st149 ?_
      refine OFin.of (S' := T149.setTop (mkF m 106 #[.val (.int p0), .val (.int p1), .val (.int p2), .val (.int p3), .val (.int (2 : Int32)), .val (.int (0 : Int32)), .val (.ref b129), .val (.ref b141), .val (.int (0 : Int32)), .unset] [(.ref b141)])) (fun t ht => ?_) ?_
      · refine XS.astore X149.here hx rfl (hb hby at_99) rfl rfl (l' := #[.val (.int p0), .val (.int p1), .val (.int p2), .val (.int p3), .val (.int (2 : Int32)), .val (.int (0 : Int32)), .val (.ref b129), .val (.ref b141), .unset, .unset]) rfl ?_
        show Steps p.tables e below (T149.setTop (mkF m 101 #[.val (.int p0), .val (.int p1), .val (.int p2), .val (.int p3), .val (.int (2 : Int32)), .val (.int (0 : Int32)), .val (.ref b129), .val (.ref b141), .unset, .unset] [])) _
        refine XS.iconst X149.here hx rfl (hb hby at_101) ?_
        show Steps p.tables e below (T149.setTop (mkF m 102 _ [(.int (0 : Int32))])) _
        refine XS.istore X149.here hx rfl (hb hby at_102) rfl (l' := #[.val (.int p0), .val (.int p1), .val (.int p2), .val (.int p3), .val (.int (2 : Int32)), .val (.int (0 : Int32)), .val (.ref b129), .val (.ref b141), .val (.int (0 : Int32)), .unset]) rfl ?_
        show Steps p.tables e below (T149.setTop (mkF m 104 #[.val (.int p0), .val (.int p1), .val (.int p2), .val (.int p3), .val (.int (2 : Int32)), .val (.int (0 : Int32)), .val (.ref b129), .val (.ref b141), .val (.int (0 : Int32)), .unset] [])) _
        refine XS.aload X149.here hx rfl (hb hby at_104) rfl rfl ?_
        exact ht
      obtain ⟨cq158, kq158, q158a, q158b, q158c⟩ := isOf hZ (rfl : T149.heap = T149.heap) f155
      obtain ⟨_, _, ⟨T157, L157, k157, n157⟩, -, X157, ⟨Lc157, hQ157, l157, y157, z157⟩, st157⟩ := X149.virtualBack hx (y := (⟨"com/example/querant/querant/records/Packing$Reader", "hasMore", "()Z"⟩ : MethodName)) (z := (⟨"com/example/querant/querant/records/Packing$Reader", "hasMore", "()Z"⟩ : MethodName)) hown (mvT hZ (hw _ (List.mem_of_getElem? (i := 14) rfl))) (mvT hZ (hw _ (List.mem_of_getElem? (i := 15) rfl))) (notFace_of_selects (args := #[]) (mvT hZ (hw _ (List.mem_of_getElem? (i := 17) rfl)))) (mvT hZ (hw _ (List.mem_of_getElem? (i := 17) rfl))) (mvT hZ (hw _ (List.mem_of_getElem? (i := 16) rfl))) (by decide) (backOf (W := 0) (rmHm l Z _ hw [] b141 (0 : Int32) (2 : Int32) T149.heap n0 Z156 f152 f151) hZ (hw _ (List.mem_of_getElem? (i := 18) rfl)) (hw _ (List.mem_of_getElem? (i := 3) rfl)) (by decide) (by decide)) q158a q158c (g := (mkF m 106 #[.val (.int p0), .val (.int p1), .val (.int p2), .val (.int p3), .val (.int (2 : Int32)), .val (.int (0 : Int32)), .val (.ref b129), .val (.ref b141), .val (.int (0 : Int32)), .unset] [(.ref b141)])) rfl (by rw [hml]; rfl) (Steps.refl _) (argsL := []) (rest := []) (lenOf pd_1 rfl) rfl (by show 2 * 0 + _ ≤ _; exact Nat.le_of_eq rfl) (hb hby at_106) (fun _ _ => ⟨rfl, (rfl : T149.heap = T149.heap), (by decide : 2 + 0 ≤ _), (by decide : 5 + 0 ≤ _)⟩)
      dsimp only [Pt.U, Pt.locs, Pt.cells, Pt.slots] at X157 l157 y157 z157 st157 hQ157
      subst l157 y157 z157
      obtain ⟨rfl, Nq157, hs157⟩ := hQ157
      have N159 := Fr.app N153 Nq157
      refine OFin.to (S' := T157.setTop (mkF m 109 #[.val (.int p0), .val (.int p1), .val (.int p2), .val (.int p3), .val (.int (2 : Int32)), .val (.int (0 : Int32)), .val (.ref b129), .val (.ref b141), .val (.int (0 : Int32)), .unset] [(.int (1 : Int32))])) st157 ?_
      refine OFin.of (S' := T157.setTop (mkF m 140 #[.val (.int p0), .val (.int p1), .val (.int p2), .val (.int p3), .val (.int (2 : Int32)), .val (.int (0 : Int32)), .val (.ref b129), .val (.ref b141), .val (.int (0 : Int32)), .val (.int (1 : Int32))] [(.ref b141)])) (fun t ht => ?_) ?_
      · refine XS.iload X157.here hx rfl (hb hby at_109) rfl ?_
        show Steps p.tables e below (T157.setTop (mkF m 111 _ [(.int (0 : Int32)), (.int (1 : Int32))])) _
        refine XS.iload X157.here hx rfl (hb hby at_111) rfl ?_
        show Steps p.tables e below (T157.setTop (mkF m 113 _ [(.int (2 : Int32)), (.int (0 : Int32)), (.int (1 : Int32))])) _
        refine XS.icmpNo X157.here hx rfl (hb hby at_113) rfl (tlt (by decide : (0 : Int32) < (2 : Int32))).2.1 ?_
        show Steps p.tables e below (T157.setTop (mkF m 116 _ [(.int (1 : Int32))])) _
        refine XS.iconst X157.here hx rfl (hb hby at_116) ?_
        show Steps p.tables e below (T157.setTop (mkF m 117 _ [(.int (1 : Int32)), (.int (1 : Int32))])) _
        refine XS.goto X157.here hx rfl (pc0 := 117) (pc' := 121) rfl (hb hby at_117) (by decide) (by decide) ?_
        show Steps p.tables e below (T157.setTop (mkF m 121 _ [(.int (1 : Int32)), (.int (1 : Int32))])) _
        refine XS.icmpNo X157.here hx rfl (hb hby at_121) rfl (teq (by decide : (1 : Int32) = (1 : Int32))).2 ?_
        show Steps p.tables e below (T157.setTop (mkF m 124 _ [])) _
        refine XS.iconst X157.here hx rfl (hb hby at_124) ?_
        show Steps p.tables e below (T157.setTop (mkF m 125 _ [(.int (1 : Int32))])) _
        refine XS.goto X157.here hx rfl (pc0 := 125) (pc' := 129) rfl (hb hby at_125) (by decide) (by decide) ?_
        show Steps p.tables e below (T157.setTop (mkF m 129 _ [(.int (1 : Int32))])) _
        refine XS.istore X157.here hx rfl (hb hby at_129) rfl (l' := #[.val (.int p0), .val (.int p1), .val (.int p2), .val (.int p3), .val (.int (2 : Int32)), .val (.int (0 : Int32)), .val (.ref b129), .val (.ref b141), .val (.int (0 : Int32)), .val (.int (1 : Int32))]) rfl ?_
        show Steps p.tables e below (T157.setTop (mkF m 131 #[.val (.int p0), .val (.int p1), .val (.int p2), .val (.int p3), .val (.int (2 : Int32)), .val (.int (0 : Int32)), .val (.ref b129), .val (.ref b141), .val (.int (0 : Int32)), .val (.int (1 : Int32))] [])) _
        refine XS.iload X157.here hx rfl (hb hby at_131) rfl ?_
        show Steps p.tables e below (T157.setTop (mkF m 133 _ [(.int (0 : Int32))])) _
        refine XS.iload X157.here hx rfl (hb hby at_133) rfl ?_
        show Steps p.tables e below (T157.setTop (mkF m 135 _ [(.int (2 : Int32)), (.int (0 : Int32))])) _
        refine XS.icmpNo X157.here hx rfl (hb hby at_135) rfl (tlt (by decide : (0 : Int32) < (2 : Int32))).2.1 ?_
        show Steps p.tables e below (T157.setTop (mkF m 138 _ [])) _
        refine XS.aload X157.here hx rfl (hb hby at_138) rfl rfl ?_
        exact ht
      obtain ⟨cq161, kq161, q161a, q161b, q161c⟩ := isOf hZ hs157 f155
      obtain ⟨_, _, ⟨T160, L160, k160, n160⟩, -, X160, ⟨Lc160, hQ160, l160, y160, z160⟩, st160⟩ := X157.virtualBack hx (y := (⟨"com/example/querant/querant/records/Packing$Reader", "number", "()J"⟩ : MethodName)) (z := (⟨"com/example/querant/querant/records/Packing$Reader", "number", "()J"⟩ : MethodName)) hown (mvT hZ (hw _ (List.mem_of_getElem? (i := 21) rfl))) (mvT hZ (hw _ (List.mem_of_getElem? (i := 22) rfl))) (notFace_of_selects (args := #[]) (mvT hZ (hw _ (List.mem_of_getElem? (i := 24) rfl)))) (mvT hZ (hw _ (List.mem_of_getElem? (i := 24) rfl))) (mvT hZ (hw _ (List.mem_of_getElem? (i := 23) rfl))) (by decide) (backOf (W := 0) (rmNb1 l Z _ hw [] b141 b129 k129 (2 : Int32) [(.int ((((p1 &&& (127 : Int32)) ||| (0 : Int32)).toInt8.toInt32).toInt8.toInt32)), (.int (((p2 &&& (127 : Int32)).toInt8.toInt32).toInt8.toInt32))] (0 : Int32) ((((p1 &&& (127 : Int32)) ||| (0 : Int32)).toInt8.toInt32).toInt8.toInt32) T149.heap n0 Z156 f155 f152 f151 f150 f154 g142 ne143 (by decide) (by decide) rfl (own_lo0 _)) hZ (hw _ (List.mem_of_getElem? (i := 25) rfl)) (hw _ (List.mem_of_getElem? (i := 3) rfl)) (by decide) (by decide)) q161a q161c (g := (mkF m 140 #[.val (.int p0), .val (.int p1), .val (.int p2), .val (.int p3), .val (.int (2 : Int32)), .val (.int (0 : Int32)), .val (.ref b129), .val (.ref b141), .val (.int (0 : Int32)), .val (.int (1 : Int32))] [(.ref b141)])) rfl (by rw [hml]; rfl) (Steps.refl _) (argsL := []) (rest := []) (lenOf pd_2 rfl) rfl (by show 2 * 0 + _ ≤ _; exact Nat.le_of_eq rfl) (hb hby at_140) (fun _ _ => ⟨rfl, hs157, (by decide : 2 + 0 ≤ _), (by decide : 5 + 0 ≤ _)⟩)
      dsimp only [Pt.U, Pt.locs, Pt.cells, Pt.slots] at X160 l160 y160 z160 st160 hQ160
      subst l160 y160 z160
      obtain ⟨rfl, Nq160, Kq160, f162, f163, f164⟩ := hQ160
      have N165 := Fr.app N159 Nq160
      have f166 := (f154.keep Kq160 (ninS ne143 nin0))
      have f167 := (f155.keep Kq160)
      have Z168 : n0 ≤ T160.heap.size := (Nat.le_trans Z156 Kq160.1)
      refine OFin.to (S' := T160.setTop (mkF m 143 #[.val (.int p0), .val (.int p1), .val (.int p2), .val (.int p3), .val (.int (2 : Int32)), .val (.int (0 : Int32)), .val (.ref b129), .val (.ref b141), .val (.int (0 : Int32)), .val (.int (1 : Int32))] [(.long ((0 : Int64) ||| (((((((p1 &&& (127 : Int32)) ||| (0 : Int32)).toInt8.toInt32).toInt8.toInt32) &&& (127 : Int32)).toInt64) <<< ((0 : Int32) &&& 0x3f).toInt64)))])) st160 ?_
      refine OFin.of (S' := T160.setTop (mkF m 166 #[.val (.int p0), .val (.int p1), .val (.int p2), .val (.int p3), .val (.int (2 : Int32)), .val (.int (0 : Int32)), .val (.ref b129), .val (.ref b141), .val (.int (1 : Int32)), .val (.int (1 : Int32))] [(.ref b141)])) (fun t ht => ?_) ?_
      · refine own_pop2L X160.here hx rfl (hb hby at_143) rfl ?_
        show Steps p.tables e below (T160.setTop (mkF m 144 _ [])) _
        refine XS.iload X160.here hx rfl (hb hby at_144) rfl ?_
        show Steps p.tables e below (T160.setTop (mkF m 146 _ [(.int (0 : Int32))])) _
        refine XS.iload X160.here hx rfl (hb hby at_146) rfl ?_
        show Steps p.tables e below (T160.setTop (mkF m 148 _ [(.int (0 : Int32)), (.int (0 : Int32))])) _
        refine XS.ifYes X160.here hx rfl (pc0 := 148) (pc' := 155) rfl (hb hby at_148) rfl ((if0 _ _).trans (teq (by decide : (0 : Int32) = (0 : Int32))).1) (by decide) (by decide) ?_
        show Steps p.tables e below (T160.setTop (mkF m 155 _ [(.int (0 : Int32))])) _
        refine XS.iconst X160.here hx rfl (hb hby at_155) ?_
        show Steps p.tables e below (T160.setTop (mkF m 156 _ [(.int (1 : Int32)), (.int (0 : Int32))])) _
        refine XS.iadd X160.here hx rfl (hb hby at_156) rfl ?_
        show Steps p.tables e below (T160.setTop (mkF m 157 _ [(.int (1 : Int32))])) _
        refine XS.istore X160.here hx rfl (hb hby at_157) rfl (l' := #[.val (.int p0), .val (.int p1), .val (.int p2), .val (.int p3), .val (.int (2 : Int32)), .val (.int (0 : Int32)), .val (.ref b129), .val (.ref b141), .val (.int (1 : Int32)), .val (.int (1 : Int32))]) rfl ?_
        show Steps p.tables e below (T160.setTop (mkF m 159 #[.val (.int p0), .val (.int p1), .val (.int p2), .val (.int p3), .val (.int (2 : Int32)), .val (.int (0 : Int32)), .val (.ref b129), .val (.ref b141), .val (.int (1 : Int32)), .val (.int (1 : Int32))] [])) _
        refine XS.iload X160.here hx rfl (hb hby at_159) rfl ?_
        show Steps p.tables e below (T160.setTop (mkF m 161 _ [(.int (1 : Int32))])) _
        refine XS.ifNo X160.here hx rfl (hb hby at_161) rfl ((if0 _ _).trans (feq (by decide : ¬ ((1 : Int32) = (0 : Int32)))).1) ?_
        show Steps p.tables e below (T160.setTop (mkF m 164 _ [])) _
        refine XS.aload X160.here hx rfl (hb hby at_164) rfl rfl ?_
        exact ht
      obtain ⟨cq170, kq170, q170a, q170b, q170c⟩ := isOf hZ (rfl : T160.heap = T160.heap) f167
      obtain ⟨_, _, ⟨T169, L169, k169, n169⟩, -, X169, ⟨Lc169, hQ169, l169, y169, z169⟩, st169⟩ := X160.virtualBack hx (y := (⟨"com/example/querant/querant/records/Packing$Reader", "hasMore", "()Z"⟩ : MethodName)) (z := (⟨"com/example/querant/querant/records/Packing$Reader", "hasMore", "()Z"⟩ : MethodName)) hown (mvT hZ (hw _ (List.mem_of_getElem? (i := 14) rfl))) (mvT hZ (hw _ (List.mem_of_getElem? (i := 15) rfl))) (notFace_of_selects (args := #[]) (mvT hZ (hw _ (List.mem_of_getElem? (i := 17) rfl)))) (mvT hZ (hw _ (List.mem_of_getElem? (i := 17) rfl))) (mvT hZ (hw _ (List.mem_of_getElem? (i := 16) rfl))) (by decide) (backOf (W := 0) (rmHm l Z _ hw [] b141 (1 : Int32) (2 : Int32) T160.heap n0 Z168 f164 f163) hZ (hw _ (List.mem_of_getElem? (i := 18) rfl)) (hw _ (List.mem_of_getElem? (i := 3) rfl)) (by decide) (by decide)) q170a q170c (g := (mkF m 166 #[.val (.int p0), .val (.int p1), .val (.int p2), .val (.int p3), .val (.int (2 : Int32)), .val (.int (0 : Int32)), .val (.ref b129), .val (.ref b141), .val (.int (1 : Int32)), .val (.int (1 : Int32))] [(.ref b141)])) rfl (by rw [hml]; rfl) (Steps.refl _) (argsL := []) (rest := []) (lenOf pd_1 rfl) rfl (by show 2 * 0 + _ ≤ _; exact Nat.le_of_eq rfl) (hb hby at_166) (fun _ _ => ⟨rfl, (rfl : T160.heap = T160.heap), (by decide : 2 + 0 ≤ _), (by decide : 5 + 0 ≤ _)⟩)
      dsimp only [Pt.U, Pt.locs, Pt.cells, Pt.slots] at X169 l169 y169 z169 st169 hQ169
      subst l169 y169 z169
      obtain ⟨rfl, Nq169, hs169⟩ := hQ169
      have N171 := Fr.app N165 Nq169
      refine OFin.to (S' := T169.setTop (mkF m 169 #[.val (.int p0), .val (.int p1), .val (.int p2), .val (.int p3), .val (.int (2 : Int32)), .val (.int (0 : Int32)), .val (.ref b129), .val (.ref b141), .val (.int (1 : Int32)), .val (.int (1 : Int32))] [(.int (1 : Int32))])) st169 ?_
      refine OFin.of (S' := T169.setTop (mkF m 200 #[.val (.int p0), .val (.int p1), .val (.int p2), .val (.int p3), .val (.int (2 : Int32)), .val (.int (0 : Int32)), .val (.ref b129), .val (.ref b141), .val (.int (1 : Int32)), .val (.int (1 : Int32))] [(.ref b141)])) (fun t ht => ?_) ?_
      · refine XS.iload X169.here hx rfl (hb hby at_169) rfl ?_
        show Steps p.tables e below (T169.setTop (mkF m 171 _ [(.int (1 : Int32)), (.int (1 : Int32))])) _
        refine XS.iload X169.here hx rfl (hb hby at_171) rfl ?_
        show Steps p.tables e below (T169.setTop (mkF m 173 _ [(.int (2 : Int32)), (.int (1 : Int32)), (.int (1 : Int32))])) _
        refine XS.icmpNo X169.here hx rfl (hb hby at_173) rfl (tlt (by decide : (1 : Int32) < (2 : Int32))).2.1 ?_
        show Steps p.tables e below (T169.setTop (mkF m 176 _ [(.int (1 : Int32))])) _
        refine XS.iconst X169.here hx rfl (hb hby at_176) ?_
        show Steps p.tables e below (T169.setTop (mkF m 177 _ [(.int (1 : Int32)), (.int (1 : Int32))])) _
        refine XS.goto X169.here hx rfl (pc0 := 177) (pc' := 181) rfl (hb hby at_177) (by decide) (by decide) ?_
        show Steps p.tables e below (T169.setTop (mkF m 181 _ [(.int (1 : Int32)), (.int (1 : Int32))])) _
        refine XS.icmpNo X169.here hx rfl (hb hby at_181) rfl (teq (by decide : (1 : Int32) = (1 : Int32))).2 ?_
        show Steps p.tables e below (T169.setTop (mkF m 184 _ [])) _
        refine XS.iconst X169.here hx rfl (hb hby at_184) ?_
        show Steps p.tables e below (T169.setTop (mkF m 185 _ [(.int (1 : Int32))])) _
        refine XS.goto X169.here hx rfl (pc0 := 185) (pc' := 189) rfl (hb hby at_185) (by decide) (by decide) ?_
        show Steps p.tables e below (T169.setTop (mkF m 189 _ [(.int (1 : Int32))])) _
        refine XS.istore X169.here hx rfl (hb hby at_189) rfl (l' := #[.val (.int p0), .val (.int p1), .val (.int p2), .val (.int p3), .val (.int (2 : Int32)), .val (.int (0 : Int32)), .val (.ref b129), .val (.ref b141), .val (.int (1 : Int32)), .val (.int (1 : Int32))]) rfl ?_
        show Steps p.tables e below (T169.setTop (mkF m 191 _ [])) _
        refine XS.iload X169.here hx rfl (hb hby at_191) rfl ?_
        show Steps p.tables e below (T169.setTop (mkF m 193 _ [(.int (1 : Int32))])) _
        refine XS.iload X169.here hx rfl (hb hby at_193) rfl ?_
        show Steps p.tables e below (T169.setTop (mkF m 195 _ [(.int (2 : Int32)), (.int (1 : Int32))])) _
        refine XS.icmpNo X169.here hx rfl (hb hby at_195) rfl (tlt (by decide : (1 : Int32) < (2 : Int32))).2.1 ?_
        show Steps p.tables e below (T169.setTop (mkF m 198 _ [])) _
        refine XS.aload X169.here hx rfl (hb hby at_198) rfl rfl ?_
        exact ht
      obtain ⟨cq173, kq173, q173a, q173b, q173c⟩ := isOf hZ hs169 f167
      obtain ⟨_, _, ⟨T172, L172, k172, n172⟩, -, X172, ⟨Lc172, hQ172, l172, y172, z172⟩, st172⟩ := X169.virtualBack hx (y := (⟨"com/example/querant/querant/records/Packing$Reader", "number", "()J"⟩ : MethodName)) (z := (⟨"com/example/querant/querant/records/Packing$Reader", "number", "()J"⟩ : MethodName)) hown (mvT hZ (hw _ (List.mem_of_getElem? (i := 21) rfl))) (mvT hZ (hw _ (List.mem_of_getElem? (i := 22) rfl))) (notFace_of_selects (args := #[]) (mvT hZ (hw _ (List.mem_of_getElem? (i := 24) rfl)))) (mvT hZ (hw _ (List.mem_of_getElem? (i := 24) rfl))) (mvT hZ (hw _ (List.mem_of_getElem? (i := 23) rfl))) (by decide) (backOf (W := 0) (rmNb1 l Z _ hw [] b141 b129 k129 (2 : Int32) [(.int ((((p1 &&& (127 : Int32)) ||| (0 : Int32)).toInt8.toInt32).toInt8.toInt32)), (.int (((p2 &&& (127 : Int32)).toInt8.toInt32).toInt8.toInt32))] (1 : Int32) (((p2 &&& (127 : Int32)).toInt8.toInt32).toInt8.toInt32) T160.heap n0 Z168 f167 f164 f163 f162 f166 g142 ne143 (by decide) (by decide) rfl (own_lo _)) hZ (hw _ (List.mem_of_getElem? (i := 25) rfl)) (hw _ (List.mem_of_getElem? (i := 3) rfl)) (by decide) (by decide)) q173a q173c (g := (mkF m 200 #[.val (.int p0), .val (.int p1), .val (.int p2), .val (.int p3), .val (.int (2 : Int32)), .val (.int (0 : Int32)), .val (.ref b129), .val (.ref b141), .val (.int (1 : Int32)), .val (.int (1 : Int32))] [(.ref b141)])) rfl (by rw [hml]; rfl) (Steps.refl _) (argsL := []) (rest := []) (lenOf pd_2 rfl) rfl (by show 2 * 0 + _ ≤ _; exact Nat.le_of_eq rfl) (hb hby at_200) (fun _ _ => ⟨rfl, hs169, (by decide : 2 + 0 ≤ _), (by decide : 5 + 0 ≤ _)⟩)
      dsimp only [Pt.U, Pt.locs, Pt.cells, Pt.slots] at X172 l172 y172 z172 st172 hQ172
      subst l172 y172 z172
      obtain ⟨rfl, Nq172, Kq172, f174, f175, f176⟩ := hQ172
      have N177 := Fr.app N171 Nq172
      have f178 := (f166.keep Kq172 (ninS ne143 nin0))
      have f179 := (f167.keep Kq172)
      have Z180 : n0 ≤ T172.heap.size := (Nat.le_trans Z168 Kq172.1)
      refine OFin.to (S' := T172.setTop (mkF m 203 #[.val (.int p0), .val (.int p1), .val (.int p2), .val (.int p3), .val (.int (2 : Int32)), .val (.int (0 : Int32)), .val (.ref b129), .val (.ref b141), .val (.int (1 : Int32)), .val (.int (1 : Int32))] [(.long ((0 : Int64) ||| ((((((p2 &&& (127 : Int32)).toInt8.toInt32).toInt8.toInt32) &&& (127 : Int32)).toInt64) <<< ((0 : Int32) &&& 0x3f).toInt64)))])) st172 ?_
      refine OFin.of (S' := T172.setTop (mkF m 214 #[.val (.int p0), .val (.int p1), .val (.int p2), .val (.int p3), .val (.int (2 : Int32)), .val (.int (0 : Int32)), .val (.ref b129), .val (.ref b141), .val (.int (2 : Int32)), .val (.int (1 : Int32))] [(.ref b141)])) (fun t ht => ?_) ?_
      · refine own_pop2L X172.here hx rfl (hb hby at_203) rfl ?_
        show Steps p.tables e below (T172.setTop (mkF m 204 _ [])) _
        refine XS.iinc X172.here hx rfl (hb hby at_204) rfl (l' := #[.val (.int p0), .val (.int p1), .val (.int p2), .val (.int p3), .val (.int (2 : Int32)), .val (.int (0 : Int32)), .val (.ref b129), .val (.ref b141), .val (.int (2 : Int32)), .val (.int (1 : Int32))]) rfl ?_
        show Steps p.tables e below (T172.setTop (mkF m 207 #[.val (.int p0), .val (.int p1), .val (.int p2), .val (.int p3), .val (.int (2 : Int32)), .val (.int (0 : Int32)), .val (.ref b129), .val (.ref b141), .val (.int (2 : Int32)), .val (.int (1 : Int32))] [])) _
        refine XS.iload X172.here hx rfl (hb hby at_207) rfl ?_
        show Steps p.tables e below (T172.setTop (mkF m 209 _ [(.int (1 : Int32))])) _
        refine XS.ifNo X172.here hx rfl (hb hby at_209) rfl ((if0 _ _).trans (feq (by decide : ¬ ((1 : Int32) = (0 : Int32)))).1) ?_
        show Steps p.tables e below (T172.setTop (mkF m 212 _ [])) _
        refine XS.aload X172.here hx rfl (hb hby at_212) rfl rfl ?_
        exact ht
      obtain ⟨cq182, kq182, q182a, q182b, q182c⟩ := isOf hZ (rfl : T172.heap = T172.heap) f179
      obtain ⟨_, _, ⟨T181, L181, k181, n181⟩, -, X181, ⟨Lc181, hQ181, l181, y181, z181⟩, st181⟩ := X172.virtualBack hx (y := (⟨"com/example/querant/querant/records/Packing$Reader", "hasMore", "()Z"⟩ : MethodName)) (z := (⟨"com/example/querant/querant/records/Packing$Reader", "hasMore", "()Z"⟩ : MethodName)) hown (mvT hZ (hw _ (List.mem_of_getElem? (i := 14) rfl))) (mvT hZ (hw _ (List.mem_of_getElem? (i := 15) rfl))) (notFace_of_selects (args := #[]) (mvT hZ (hw _ (List.mem_of_getElem? (i := 17) rfl)))) (mvT hZ (hw _ (List.mem_of_getElem? (i := 17) rfl))) (mvT hZ (hw _ (List.mem_of_getElem? (i := 16) rfl))) (by decide) (backOf (W := 0) (rmHm l Z _ hw [] b141 (2 : Int32) (2 : Int32) T172.heap n0 Z180 f176 f175) hZ (hw _ (List.mem_of_getElem? (i := 18) rfl)) (hw _ (List.mem_of_getElem? (i := 3) rfl)) (by decide) (by decide)) q182a q182c (g := (mkF m 214 #[.val (.int p0), .val (.int p1), .val (.int p2), .val (.int p3), .val (.int (2 : Int32)), .val (.int (0 : Int32)), .val (.ref b129), .val (.ref b141), .val (.int (2 : Int32)), .val (.int (1 : Int32))] [(.ref b141)])) rfl (by rw [hml]; rfl) (Steps.refl _) (argsL := []) (rest := []) (lenOf pd_1 rfl) rfl (by show 2 * 0 + _ ≤ _; exact Nat.le_of_eq rfl) (hb hby at_214) (fun _ _ => ⟨rfl, (rfl : T172.heap = T172.heap), (by decide : 2 + 0 ≤ _), (by decide : 5 + 0 ≤ _)⟩)
      dsimp only [Pt.U, Pt.locs, Pt.cells, Pt.slots] at X181 l181 y181 z181 st181 hQ181
      subst l181 y181 z181
      obtain ⟨rfl, Nq181, hs181⟩ := hQ181
      have N183 := Fr.app N177 Nq181
      refine OFin.to (S' := T181.setTop (mkF m 217 #[.val (.int p0), .val (.int p1), .val (.int p2), .val (.int p3), .val (.int (2 : Int32)), .val (.int (0 : Int32)), .val (.ref b129), .val (.ref b141), .val (.int (2 : Int32)), .val (.int (1 : Int32))] [(.int (0 : Int32))])) st181 ?_
      refine OFin.of (S' := T181.setTop (mkF m 289 #[.val (.int p0), .val (.int p1), .val (.int p2), .val (.int p3), .val (.int (2 : Int32)), .val (.int (0 : Int32)), .val (.ref b129), .val (.ref b141), .val (.int (2 : Int32)), .val (.int (1 : Int32))] [(.int (1 : Int32))])) (fun t ht => ?_) ?_
      · refine XS.iload X181.here hx rfl (hb hby at_217) rfl ?_
        show Steps p.tables e below (T181.setTop (mkF m 219 _ [(.int (2 : Int32)), (.int (0 : Int32))])) _
        refine XS.iload X181.here hx rfl (hb hby at_219) rfl ?_
        show Steps p.tables e below (T181.setTop (mkF m 221 _ [(.int (2 : Int32)), (.int (2 : Int32)), (.int (0 : Int32))])) _
        refine XS.icmpYes X181.here hx rfl (pc0 := 221) (pc' := 228) rfl (hb hby at_221) rfl (flt (by decide : ¬ ((2 : Int32) < (2 : Int32)))).2.1 (by decide) (by decide) ?_
        show Steps p.tables e below (T181.setTop (mkF m 228 _ [(.int (0 : Int32))])) _
        refine XS.iconst X181.here hx rfl (hb hby at_228) ?_
        show Steps p.tables e below (T181.setTop (mkF m 229 _ [(.int (0 : Int32)), (.int (0 : Int32))])) _
        refine XS.icmpNo X181.here hx rfl (hb hby at_229) rfl (teq (by decide : (0 : Int32) = (0 : Int32))).2 ?_
        show Steps p.tables e below (T181.setTop (mkF m 232 _ [])) _
        refine XS.iconst X181.here hx rfl (hb hby at_232) ?_
        show Steps p.tables e below (T181.setTop (mkF m 233 _ [(.int (1 : Int32))])) _
        refine XS.goto X181.here hx rfl (pc0 := 233) (pc' := 237) rfl (hb hby at_233) (by decide) (by decide) ?_
        show Steps p.tables e below (T181.setTop (mkF m 237 _ [(.int (1 : Int32))])) _
        refine XS.istore X181.here hx rfl (hb hby at_237) rfl (l' := #[.val (.int p0), .val (.int p1), .val (.int p2), .val (.int p3), .val (.int (2 : Int32)), .val (.int (0 : Int32)), .val (.ref b129), .val (.ref b141), .val (.int (2 : Int32)), .val (.int (1 : Int32))]) rfl ?_
        show Steps p.tables e below (T181.setTop (mkF m 239 _ [])) _
        refine XS.iload X181.here hx rfl (hb hby at_239) rfl ?_
        show Steps p.tables e below (T181.setTop (mkF m 241 _ [(.int (2 : Int32))])) _
        refine XS.iload X181.here hx rfl (hb hby at_241) rfl ?_
        show Steps p.tables e below (T181.setTop (mkF m 243 _ [(.int (2 : Int32)), (.int (2 : Int32))])) _
        refine XS.icmpYes X181.here hx rfl (pc0 := 243) (pc' := 287) rfl (hb hby at_243) rfl (flt (by decide : ¬ ((2 : Int32) < (2 : Int32)))).2.1 (by decide) (by decide) ?_
        show Steps p.tables e below (T181.setTop (mkF m 287 _ [])) _
        refine XS.iload X181.here hx rfl (hb hby at_287) rfl ?_
        exact ht
      exact OFin.retB X181 hx hlk (t := .boolean) (by simp) hret (hb hby at_289) (by decide) (by decide) (by rw [hs181]; exact ⟨rfl, N183⟩)
    · refine OFin.of (S' := s₁.setTop (mkF m 28 #[.val (.int p0), .val (.int p1), .val (.int p2), .val (.int p3), .val (.int (2 : Int32)), .val (.int (1 : Int32)), .unset, .unset, .unset, .unset] [(.int (2 : Int32))])) (fun t ht => ?_) ?_
      · refine XS.ifNo X0.here hx rfl (hb hby at_10) rfl ((if0 _ _).trans (feq (hc128 : ¬ (((p0 >>> ((2 : Int32) &&& 31)) &&& (1 : Int32)) = (0 : Int32)))).1) ?_
        show Steps p.tables e below (s₁.setTop (mkF m 13 _ [])) _
        refine XS.iload X0.here hx rfl (hb hby at_13) rfl ?_
        show Steps p.tables e below (s₁.setTop (mkF m 15 _ [(.int (2 : Int32))])) _
        refine XS.iconst X0.here hx rfl (hb hby at_15) ?_
        show Steps p.tables e below (s₁.setTop (mkF m 16 _ [(.int (2 : Int32)), (.int (2 : Int32))])) _
        refine XS.icmpNo X0.here hx rfl (hb hby at_16) rfl (flt (by decide : ¬ ((2 : Int32) < (2 : Int32)))).1 ?_
        show Steps p.tables e below (s₁.setTop (mkF m 19 _ [])) _
        refine XS.iconst X0.here hx rfl (hb hby at_19) ?_
        show Steps p.tables e below (s₁.setTop (mkF m 20 _ [(.int (1 : Int32))])) _
        refine XS.goto X0.here hx rfl (pc0 := 20) (pc' := 24) rfl (hb hby at_20) (by decide) (by decide) ?_
        show Steps p.tables e below (s₁.setTop (mkF m 24 _ [(.int (1 : Int32))])) _
        refine XS.istore X0.here hx rfl (hb hby at_24) rfl (l' := #[.val (.int p0), .val (.int p1), .val (.int p2), .val (.int p3), .val (.int (2 : Int32)), .val (.int (1 : Int32)), .unset, .unset, .unset, .unset]) rfl ?_
        show Steps p.tables e below (s₁.setTop (mkF m 26 #[.val (.int p0), .val (.int p1), .val (.int p2), .val (.int p3), .val (.int (2 : Int32)), .val (.int (1 : Int32)), .unset, .unset, .unset, .unset] [])) _
        refine XS.iload X0.here hx rfl (hb hby at_26) rfl ?_
        exact ht
      obtain ⟨T184, h184, k184, X184, e184, E184, A184, st184⟩ := newP X0 hx hZ (hw _ (List.mem_of_getElem? (i := 0) rfl)) e0 (g := (mkF m 28 #[.val (.int p0), .val (.int p1), .val (.int p2), .val (.int p3), .val (.int (2 : Int32)), .val (.int (1 : Int32)), .unset, .unset, .unset, .unset] [(.int (2 : Int32))])) rfl (hb hby at_28) rfl (by decide) (cap := 2) (by decide) (by decide) (by decide) (by decide)
      obtain ⟨b184, gq184⟩ : ∃ z, z = h0.size := ⟨_, rfl⟩
      rw [← gq184] at A184 st184
      have g185 : n0 ≤ b184 := (Nat.le_trans Z0 (Nat.le_of_eq gq184.symm))
      have Z186 : n0 ≤ h184.size := (Nat.le_trans Z0 E184.1)
      have f187 : Arv Z h184 b184 k184 .byte (2 : Int32) [(.int (0 : Int32)), (.int (0 : Int32))] (.int (0 : Int32)) := ((Arv.new A184 (by decide)).pad (pad_rep [] (.int (0 : Int32)) 2))
      refine OFin.of (S' := T184.setTop (mkF m 30 #[.val (.int p0), .val (.int p1), .val (.int p2), .val (.int p3), .val (.int (2 : Int32)), .val (.int (1 : Int32)), .unset, .unset, .unset, .unset] [(.ref b184)])) (fun t ht => st184 t ht) ?_
      refine OFin.of (S' := T184.setTop (mkF m 59 #[.val (.int p0), .val (.int p1), .val (.int p2), .val (.int p3), .val (.int (2 : Int32)), .val (.int (1 : Int32)), .val (.ref b184), .unset, .unset, .unset] [(.int (((p1 &&& (127 : Int32)) ||| (128 : Int32)).toInt8.toInt32)), (.int (0 : Int32)), (.ref b184)])) (fun t ht => ?_) ?_
      · refine XS.astore X184.here hx rfl (hb hby at_30) rfl rfl (l' := #[.val (.int p0), .val (.int p1), .val (.int p2), .val (.int p3), .val (.int (2 : Int32)), .val (.int (1 : Int32)), .val (.ref b184), .unset, .unset, .unset]) rfl ?_
        show Steps p.tables e below (T184.setTop (mkF m 32 #[.val (.int p0), .val (.int p1), .val (.int p2), .val (.int p3), .val (.int (2 : Int32)), .val (.int (1 : Int32)), .val (.ref b184), .unset, .unset, .unset] [])) _
        refine XS.iload X184.here hx rfl (hb hby at_32) rfl ?_
        show Steps p.tables e below (T184.setTop (mkF m 34 _ [(.int (2 : Int32))])) _
        refine XS.iconst X184.here hx rfl (hb hby at_34) ?_
        show Steps p.tables e below (T184.setTop (mkF m 35 _ [(.int (1 : Int32)), (.int (2 : Int32))])) _
        refine XS.icmpNo X184.here hx rfl (hb hby at_35) rfl (flt (by decide : ¬ ((2 : Int32) < (1 : Int32)))).1 ?_
        show Steps p.tables e below (T184.setTop (mkF m 38 _ [])) _
        refine XS.aload X184.here hx rfl (hb hby at_38) rfl rfl ?_
        show Steps p.tables e below (T184.setTop (mkF m 40 _ [(.ref b184)])) _
        refine XS.iconst X184.here hx rfl (hb hby at_40) ?_
        show Steps p.tables e below (T184.setTop (mkF m 41 _ [(.int (0 : Int32)), (.ref b184)])) _
        refine XS.iloadN X184.here hx rfl (hb hby at_41) rfl ?_
        show Steps p.tables e below (T184.setTop (mkF m 42 _ [(.int p1), (.int (0 : Int32)), (.ref b184)])) _
        refine XS.bipush X184.here hx rfl (hb hby at_42) ?_
        show Steps p.tables e below (T184.setTop (mkF m 44 _ [(.int (127 : Int32)), (.int p1), (.int (0 : Int32)), (.ref b184)])) _
        refine XS.iand X184.here hx rfl (hb hby at_44) rfl ?_
        show Steps p.tables e below (T184.setTop (mkF m 45 _ [(.int (p1 &&& (127 : Int32))), (.int (0 : Int32)), (.ref b184)])) _
        refine XS.iload X184.here hx rfl (hb hby at_45) rfl ?_
        show Steps p.tables e below (T184.setTop (mkF m 47 _ [(.int (1 : Int32)), (.int (p1 &&& (127 : Int32))), (.int (0 : Int32)), (.ref b184)])) _
        refine XS.ifNo X184.here hx rfl (hb hby at_47) rfl ((if0 _ _).trans (feq (by decide : ¬ ((1 : Int32) = (0 : Int32)))).1) ?_
        show Steps p.tables e below (T184.setTop (mkF m 50 _ [(.int (p1 &&& (127 : Int32))), (.int (0 : Int32)), (.ref b184)])) _
        refine XS.sipush X184.here hx rfl (hb hby at_50) ?_
        show Steps p.tables e below (T184.setTop (mkF m 53 _ [(.int (128 : Int32)), (.int (p1 &&& (127 : Int32))), (.int (0 : Int32)), (.ref b184)])) _
        refine XS.goto X184.here hx rfl (pc0 := 53) (pc' := 57) rfl (hb hby at_53) (by decide) (by decide) ?_
        show Steps p.tables e below (T184.setTop (mkF m 57 _ [(.int (128 : Int32)), (.int (p1 &&& (127 : Int32))), (.int (0 : Int32)), (.ref b184)])) _
        refine XS.ior X184.here hx rfl (hb hby at_57) rfl ?_
        show Steps p.tables e below (T184.setTop (mkF m 58 _ [(.int ((p1 &&& (127 : Int32)) ||| (128 : Int32))), (.int (0 : Int32)), (.ref b184)])) _
        refine XS.i2b X184.here hx rfl (hb hby at_58) rfl ?_
        exact ht
      obtain ⟨cl188, Ar188, q188, S188, Ng188, H188, G188⟩ := id f187
      have hin188 := inb_of (j := (0 : Int32)) S188 ⟨by decide, by decide⟩
      obtain ⟨T188, h188, X188, e188, W188, st188⟩ := stB X184 hx hZ e184 Ar188 (j := (0 : Int32)) hin188 (g := (mkF m 59 #[.val (.int p0), .val (.int p1), .val (.int p2), .val (.int p3), .val (.int (2 : Int32)), .val (.int (1 : Int32)), .val (.ref b184), .unset, .unset, .unset] [(.int (((p1 &&& (127 : Int32)) ||| (128 : Int32)).toInt8.toInt32)), (.int (0 : Int32)), (.ref b184)])) rfl rfl (hb hby at_59)
      have Z189 : n0 ≤ h188.size := (Nat.le_trans Z186 (Keep.of_wr W188).1)
      have N190 := Fr.snoc X188 N0 g185
      have f191 : Arv Z h188 b184 k184 .byte (2 : Int32) [(.int ((((p1 &&& (127 : Int32)) ||| (128 : Int32)).toInt8.toInt32).toInt8.toInt32)), (.int (0 : Int32))] (.int (0 : Int32)) := Arv.set Ar188 q188 S188 Ng188 H188 G188 (fits_nar_byte _) W188 0 rfl (Nat.le_of_ble_eq_true rfl)
      refine OFin.of (S' := T188.setTop (mkF m 60 #[.val (.int p0), .val (.int p1), .val (.int p2), .val (.int p3), .val (.int (2 : Int32)), .val (.int (1 : Int32)), .val (.ref b184), .unset, .unset, .unset] [])) (fun t ht => st188 t ht) ?_
      refine OFin.of (S' := T188.setTop (mkF m 74 #[.val (.int p0), .val (.int p1), .val (.int p2), .val (.int p3), .val (.int (2 : Int32)), .val (.int (1 : Int32)), .val (.ref b184), .unset, .unset, .unset] [(.int ((p2 &&& (127 : Int32)).toInt8.toInt32)), (.int (1 : Int32)), (.ref b184)])) (fun t ht => ?_) ?_
      · refine XS.iload X188.here hx rfl (hb hby at_60) rfl ?_
        show Steps p.tables e below (T188.setTop (mkF m 62 _ [(.int (2 : Int32))])) _
        refine XS.iconst X188.here hx rfl (hb hby at_62) ?_
        show Steps p.tables e below (T188.setTop (mkF m 63 _ [(.int (2 : Int32)), (.int (2 : Int32))])) _
        refine XS.icmpNo X188.here hx rfl (hb hby at_63) rfl (flt (by decide : ¬ ((2 : Int32) < (2 : Int32)))).1 ?_
        show Steps p.tables e below (T188.setTop (mkF m 66 _ [])) _
        refine XS.aload X188.here hx rfl (hb hby at_66) rfl rfl ?_
        show Steps p.tables e below (T188.setTop (mkF m 68 _ [(.ref b184)])) _
        refine XS.iconst X188.here hx rfl (hb hby at_68) ?_
        show Steps p.tables e below (T188.setTop (mkF m 69 _ [(.int (1 : Int32)), (.ref b184)])) _
        refine XS.iloadN X188.here hx rfl (hb hby at_69) rfl ?_
        show Steps p.tables e below (T188.setTop (mkF m 70 _ [(.int p2), (.int (1 : Int32)), (.ref b184)])) _
        refine XS.bipush X188.here hx rfl (hb hby at_70) ?_
        show Steps p.tables e below (T188.setTop (mkF m 72 _ [(.int (127 : Int32)), (.int p2), (.int (1 : Int32)), (.ref b184)])) _
        refine XS.iand X188.here hx rfl (hb hby at_72) rfl ?_
        show Steps p.tables e below (T188.setTop (mkF m 73 _ [(.int (p2 &&& (127 : Int32))), (.int (1 : Int32)), (.ref b184)])) _
        refine XS.i2b X188.here hx rfl (hb hby at_73) rfl ?_
        exact ht
      obtain ⟨cl192, Ar192, q192, S192, Ng192, H192, G192⟩ := id f191
      have hin192 := inb_of (j := (1 : Int32)) S192 ⟨by decide, by decide⟩
      obtain ⟨T192, h192, X192, e192, W192, st192⟩ := stB X188 hx hZ e188 Ar192 (j := (1 : Int32)) hin192 (g := (mkF m 74 #[.val (.int p0), .val (.int p1), .val (.int p2), .val (.int p3), .val (.int (2 : Int32)), .val (.int (1 : Int32)), .val (.ref b184), .unset, .unset, .unset] [(.int ((p2 &&& (127 : Int32)).toInt8.toInt32)), (.int (1 : Int32)), (.ref b184)])) rfl rfl (hb hby at_74)
      have Z193 : n0 ≤ h192.size := (Nat.le_trans Z189 (Keep.of_wr W192).1)
      have N194 := Fr.snoc X192 N190 g185
      have f195 : Arv Z h192 b184 k184 .byte (2 : Int32) [(.int ((((p1 &&& (127 : Int32)) ||| (128 : Int32)).toInt8.toInt32).toInt8.toInt32)), (.int (((p2 &&& (127 : Int32)).toInt8.toInt32).toInt8.toInt32))] (.int (0 : Int32)) := Arv.set Ar192 q192 S192 Ng192 H192 G192 (fits_nar_byte _) W192 1 rfl (Nat.le_of_ble_eq_true rfl)
      refine OFin.of (S' := T192.setTop (mkF m 75 #[.val (.int p0), .val (.int p1), .val (.int p2), .val (.int p3), .val (.int (2 : Int32)), .val (.int (1 : Int32)), .val (.ref b184), .unset, .unset, .unset] [])) (fun t ht => st192 t ht) ?_
      refine OFin.of (S' := T192.setTop (mkF m 90 #[.val (.int p0), .val (.int p1), .val (.int p2), .val (.int p3), .val (.int (2 : Int32)), .val (.int (1 : Int32)), .val (.ref b184), .unset, .unset, .unset] [])) (fun t ht => ?_) ?_
      · refine XS.iload X192.here hx rfl (hb hby at_75) rfl ?_
        show Steps p.tables e below (T192.setTop (mkF m 77 _ [(.int (2 : Int32))])) _
        refine XS.iconst X192.here hx rfl (hb hby at_77) ?_
        show Steps p.tables e below (T192.setTop (mkF m 78 _ [(.int (3 : Int32)), (.int (2 : Int32))])) _
        refine XS.icmpYes X192.here hx rfl (pc0 := 78) (pc' := 90) rfl (hb hby at_78) rfl (tlt (by decide : (2 : Int32) < (3 : Int32))).1 (by decide) (by decide) ?_
        exact ht
      obtain ⟨T196, h196, X196, e196, E196, A196, D196, -, st196⟩ := newO X192 hx hZ hown (hw _ (List.mem_of_getElem? (i := 1) rfl)) (hw _ (List.mem_of_getElem? (i := 2) rfl)) (hw _ (List.mem_of_getElem? (i := 3) rfl)) e192 (g := (mkF m 90 #[.val (.int p0), .val (.int p1), .val (.int p2), .val (.int p3), .val (.int (2 : Int32)), .val (.int (1 : Int32)), .val (.ref b184), .unset, .unset, .unset] [])) rfl (hb hby at_90) (by decide) (by decide)
      obtain ⟨b196, gq196⟩ : ∃ z, z = h192.size := ⟨_, rfl⟩
      rw [← gq196] at A196 D196 st196
      have g197 : n0 ≤ b196 := (Nat.le_trans Z193 (Nat.le_of_eq gq196.symm))
      have ne198 : b184 ≠ b196 := (Nat.ne_of_lt (Nat.lt_of_lt_of_le f195.lt (Nat.le_of_eq gq196.symm)))
      have f199 := f195.ext E196
      have Z200 : n0 ≤ h196.size := (Nat.le_trans Z193 E196.1)
      have f201 : Fld Z h196 b196 "com/example/querant/querant/records/Packing$Reader" "bytes" "[B" .null := D196 (Or.inr (hw _ (List.mem_of_getElem? (i := 11) rfl))) (ty := (.array .byte)) (by decide)
      have f202 : Fld Z h196 b196 "com/example/querant/querant/records/Packing$Reader" "end" "I" (.int (0 : Int32)) := D196 (Or.inr (hw _ (List.mem_of_getElem? (i := 13) rfl))) (ty := .int) (by decide)
      have f203 : Fld Z h196 b196 "com/example/querant/querant/records/Packing$Reader" "position" "I" (.int (0 : Int32)) := D196 (Or.inl (hw _ (List.mem_of_getElem? (i := 20) rfl))) (ty := .int) (by decide)
      refine OFin.of (S' := T196.setTop (mkF m 93 #[.val (.int p0), .val (.int p1), .val (.int p2), .val (.int p3), .val (.int (2 : Int32)), .val (.int (1 : Int32)), .val (.ref b184), .unset, .unset, .unset] [(.ref b196)])) (fun t ht => st196 t ht) ?_
      refine OFin.of (S' := T196.setTop (mkF m 96 #[.val (.int p0), .val (.int p1), .val (.int p2), .val (.int p3), .val (.int (2 : Int32)), .val (.int (1 : Int32)), .val (.ref b184), .unset, .unset, .unset] [(.ref b184), (.ref b196), (.ref b196)])) (fun t ht => ?_) ?_
      · refine XS.dup X196.here hx rfl (hb hby at_93) rfl rfl ?_
        show Steps p.tables e below (T196.setTop (mkF m 94 _ [(.ref b196), (.ref b196)])) _
        refine XS.aload X196.here hx rfl (hb hby at_94) rfl rfl ?_
        exact ht
      obtain ⟨_, _, ⟨T204, L204, k204, n204⟩, -, X204, ⟨Lc204, hQ204, l204, y204, z204⟩, st204⟩ := X196.specialBack hx (y := (⟨"com/example/querant/querant/records/Packing$Reader", "<init>", "([B)V"⟩ : MethodName)) rfl hown (mvT hZ (hw _ (List.mem_of_getElem? (i := 4) rfl))) (mvT hZ (hw _ (List.mem_of_getElem? (i := 5) rfl))) (mvT hZ (hw _ (List.mem_of_getElem? (i := 6) rfl))) (by decide) (backOf (W := 1) (rmIni l Z _ hw [] b196 b184 k184 (2 : Int32) [(.int ((((p1 &&& (127 : Int32)) ||| (128 : Int32)).toInt8.toInt32).toInt8.toInt32)), (.int (((p2 &&& (127 : Int32)).toInt8.toInt32).toInt8.toInt32))] h196 n0 Z200 A196 f201 f202 f203 f199 g197 ne198) hZ (hw _ (List.mem_of_getElem? (i := 6) rfl)) (hw _ (List.mem_of_getElem? (i := 3) rfl)) (by decide) (by decide)) (g := (mkF m 96 #[.val (.int p0), .val (.int p1), .val (.int p2), .val (.int p3), .val (.int (2 : Int32)), .val (.int (1 : Int32)), .val (.ref b184), .unset, .unset, .unset] [(.ref b184), (.ref b196), (.ref b196)])) rfl (by rw [hml]; rfl) (Steps.refl _) (a := b196) (argsL := [(.ref b184)]) (rest := [(.ref b196)]) (lenOf pd_0 rfl) rfl (by show 2 * 0 + _ ≤ _; exact Nat.le_of_eq rfl) (hb hby at_96) (fun _ _ => ⟨rfl, e196, (by decide : 2 + 0 ≤ _), (by decide : 5 + 0 ≤ _)⟩)
      dsimp only [Pt.U, Pt.locs, Pt.cells, Pt.slots] at X204 l204 y204 z204 st204 hQ204
      subst l204 y204 z204
      obtain ⟨rfl, Nq204, Kq204, f205, f206, f207⟩ := hQ204
      have N208 := Fr.app N194 Nq204
      have f209 := (f199.keep Kq204 (ninS ne198 nin0))
      have f210 := (A196.keep Kq204)
      have Z211 : n0 ≤ T204.heap.size := (Nat.le_trans Z200 Kq204.1)
      refine OFin.to (S' := T204.setTop (mkF m 99 #[.val (.int p0), .val (.int p1), .val (.int p2), .val (.int p3), .val (.int (2 : Int32)), .val (.int (1 : Int32)), .val (.ref b184), .unset, .unset, .unset] [(.ref b196)])) st204 ?_
      refine OFin.of (S' := T204.setTop (mkF m 106 #[.val (.int p0), .val (.int p1), .val (.int p2), .val (.int p3), .val (.int (2 : Int32)), .val (.int (1 : Int32)), .val (.ref b184), .val (.ref b196), .val (.int (0 : Int32)), .unset] [(.ref b196)])) (fun t ht => ?_) ?_
      · refine XS.astore X204.here hx rfl (hb hby at_99) rfl rfl (l' := #[.val (.int p0), .val (.int p1), .val (.int p2), .val (.int p3), .val (.int (2 : Int32)), .val (.int (1 : Int32)), .val (.ref b184), .val (.ref b196), .unset, .unset]) rfl ?_
        show Steps p.tables e below (T204.setTop (mkF m 101 #[.val (.int p0), .val (.int p1), .val (.int p2), .val (.int p3), .val (.int (2 : Int32)), .val (.int (1 : Int32)), .val (.ref b184), .val (.ref b196), .unset, .unset] [])) _
        refine XS.iconst X204.here hx rfl (hb hby at_101) ?_
        show Steps p.tables e below (T204.setTop (mkF m 102 _ [(.int (0 : Int32))])) _
        refine XS.istore X204.here hx rfl (hb hby at_102) rfl (l' := #[.val (.int p0), .val (.int p1), .val (.int p2), .val (.int p3), .val (.int (2 : Int32)), .val (.int (1 : Int32)), .val (.ref b184), .val (.ref b196), .val (.int (0 : Int32)), .unset]) rfl ?_
        show Steps p.tables e below (T204.setTop (mkF m 104 #[.val (.int p0), .val (.int p1), .val (.int p2), .val (.int p3), .val (.int (2 : Int32)), .val (.int (1 : Int32)), .val (.ref b184), .val (.ref b196), .val (.int (0 : Int32)), .unset] [])) _
        refine XS.aload X204.here hx rfl (hb hby at_104) rfl rfl ?_
        exact ht
      obtain ⟨cq213, kq213, q213a, q213b, q213c⟩ := isOf hZ (rfl : T204.heap = T204.heap) f210
      obtain ⟨_, _, ⟨T212, L212, k212, n212⟩, -, X212, ⟨Lc212, hQ212, l212, y212, z212⟩, st212⟩ := X204.virtualBack hx (y := (⟨"com/example/querant/querant/records/Packing$Reader", "hasMore", "()Z"⟩ : MethodName)) (z := (⟨"com/example/querant/querant/records/Packing$Reader", "hasMore", "()Z"⟩ : MethodName)) hown (mvT hZ (hw _ (List.mem_of_getElem? (i := 14) rfl))) (mvT hZ (hw _ (List.mem_of_getElem? (i := 15) rfl))) (notFace_of_selects (args := #[]) (mvT hZ (hw _ (List.mem_of_getElem? (i := 17) rfl)))) (mvT hZ (hw _ (List.mem_of_getElem? (i := 17) rfl))) (mvT hZ (hw _ (List.mem_of_getElem? (i := 16) rfl))) (by decide) (backOf (W := 0) (rmHm l Z _ hw [] b196 (0 : Int32) (2 : Int32) T204.heap n0 Z211 f207 f206) hZ (hw _ (List.mem_of_getElem? (i := 18) rfl)) (hw _ (List.mem_of_getElem? (i := 3) rfl)) (by decide) (by decide)) q213a q213c (g := (mkF m 106 #[.val (.int p0), .val (.int p1), .val (.int p2), .val (.int p3), .val (.int (2 : Int32)), .val (.int (1 : Int32)), .val (.ref b184), .val (.ref b196), .val (.int (0 : Int32)), .unset] [(.ref b196)])) rfl (by rw [hml]; rfl) (Steps.refl _) (argsL := []) (rest := []) (lenOf pd_1 rfl) rfl (by show 2 * 0 + _ ≤ _; exact Nat.le_of_eq rfl) (hb hby at_106) (fun _ _ => ⟨rfl, (rfl : T204.heap = T204.heap), (by decide : 2 + 0 ≤ _), (by decide : 5 + 0 ≤ _)⟩)
      dsimp only [Pt.U, Pt.locs, Pt.cells, Pt.slots] at X212 l212 y212 z212 st212 hQ212
      subst l212 y212 z212
      obtain ⟨rfl, Nq212, hs212⟩ := hQ212
      have N214 := Fr.app N208 Nq212
      refine OFin.to (S' := T212.setTop (mkF m 109 #[.val (.int p0), .val (.int p1), .val (.int p2), .val (.int p3), .val (.int (2 : Int32)), .val (.int (1 : Int32)), .val (.ref b184), .val (.ref b196), .val (.int (0 : Int32)), .unset] [(.int (1 : Int32))])) st212 ?_
      refine OFin.of (S' := T212.setTop (mkF m 140 #[.val (.int p0), .val (.int p1), .val (.int p2), .val (.int p3), .val (.int (2 : Int32)), .val (.int (1 : Int32)), .val (.ref b184), .val (.ref b196), .val (.int (0 : Int32)), .val (.int (1 : Int32))] [(.ref b196)])) (fun t ht => ?_) ?_
      · refine XS.iload X212.here hx rfl (hb hby at_109) rfl ?_
        show Steps p.tables e below (T212.setTop (mkF m 111 _ [(.int (0 : Int32)), (.int (1 : Int32))])) _
        refine XS.iload X212.here hx rfl (hb hby at_111) rfl ?_
        show Steps p.tables e below (T212.setTop (mkF m 113 _ [(.int (2 : Int32)), (.int (0 : Int32)), (.int (1 : Int32))])) _
        refine XS.icmpNo X212.here hx rfl (hb hby at_113) rfl (tlt (by decide : (0 : Int32) < (2 : Int32))).2.1 ?_
        show Steps p.tables e below (T212.setTop (mkF m 116 _ [(.int (1 : Int32))])) _
        refine XS.iconst X212.here hx rfl (hb hby at_116) ?_
        show Steps p.tables e below (T212.setTop (mkF m 117 _ [(.int (1 : Int32)), (.int (1 : Int32))])) _
        refine XS.goto X212.here hx rfl (pc0 := 117) (pc' := 121) rfl (hb hby at_117) (by decide) (by decide) ?_
        show Steps p.tables e below (T212.setTop (mkF m 121 _ [(.int (1 : Int32)), (.int (1 : Int32))])) _
        refine XS.icmpNo X212.here hx rfl (hb hby at_121) rfl (teq (by decide : (1 : Int32) = (1 : Int32))).2 ?_
        show Steps p.tables e below (T212.setTop (mkF m 124 _ [])) _
        refine XS.iconst X212.here hx rfl (hb hby at_124) ?_
        show Steps p.tables e below (T212.setTop (mkF m 125 _ [(.int (1 : Int32))])) _
        refine XS.goto X212.here hx rfl (pc0 := 125) (pc' := 129) rfl (hb hby at_125) (by decide) (by decide) ?_
        show Steps p.tables e below (T212.setTop (mkF m 129 _ [(.int (1 : Int32))])) _
        refine XS.istore X212.here hx rfl (hb hby at_129) rfl (l' := #[.val (.int p0), .val (.int p1), .val (.int p2), .val (.int p3), .val (.int (2 : Int32)), .val (.int (1 : Int32)), .val (.ref b184), .val (.ref b196), .val (.int (0 : Int32)), .val (.int (1 : Int32))]) rfl ?_
        show Steps p.tables e below (T212.setTop (mkF m 131 #[.val (.int p0), .val (.int p1), .val (.int p2), .val (.int p3), .val (.int (2 : Int32)), .val (.int (1 : Int32)), .val (.ref b184), .val (.ref b196), .val (.int (0 : Int32)), .val (.int (1 : Int32))] [])) _
        refine XS.iload X212.here hx rfl (hb hby at_131) rfl ?_
        show Steps p.tables e below (T212.setTop (mkF m 133 _ [(.int (0 : Int32))])) _
        refine XS.iload X212.here hx rfl (hb hby at_133) rfl ?_
        show Steps p.tables e below (T212.setTop (mkF m 135 _ [(.int (2 : Int32)), (.int (0 : Int32))])) _
        refine XS.icmpNo X212.here hx rfl (hb hby at_135) rfl (tlt (by decide : (0 : Int32) < (2 : Int32))).2.1 ?_
        show Steps p.tables e below (T212.setTop (mkF m 138 _ [])) _
        refine XS.aload X212.here hx rfl (hb hby at_138) rfl rfl ?_
        exact ht
      obtain ⟨cq216, kq216, q216a, q216b, q216c⟩ := isOf hZ hs212 f210
      obtain ⟨_, _, ⟨T215, L215, k215, n215⟩, -, X215, ⟨Lc215, hQ215, l215, y215, z215⟩, st215⟩ := X212.virtualBack hx (y := (⟨"com/example/querant/querant/records/Packing$Reader", "number", "()J"⟩ : MethodName)) (z := (⟨"com/example/querant/querant/records/Packing$Reader", "number", "()J"⟩ : MethodName)) hown (mvT hZ (hw _ (List.mem_of_getElem? (i := 21) rfl))) (mvT hZ (hw _ (List.mem_of_getElem? (i := 22) rfl))) (notFace_of_selects (args := #[]) (mvT hZ (hw _ (List.mem_of_getElem? (i := 24) rfl)))) (mvT hZ (hw _ (List.mem_of_getElem? (i := 24) rfl))) (mvT hZ (hw _ (List.mem_of_getElem? (i := 23) rfl))) (by decide) (backOf (W := 0) (rmNb2 l Z _ hw [] b196 b184 k184 (2 : Int32) [(.int ((((p1 &&& (127 : Int32)) ||| (128 : Int32)).toInt8.toInt32).toInt8.toInt32)), (.int (((p2 &&& (127 : Int32)).toInt8.toInt32).toInt8.toInt32))] (0 : Int32) ((((p1 &&& (127 : Int32)) ||| (128 : Int32)).toInt8.toInt32).toInt8.toInt32) (((p2 &&& (127 : Int32)).toInt8.toInt32).toInt8.toInt32) T204.heap n0 Z211 f210 f207 f206 f205 f209 g197 ne198 (by decide) (by decide) rfl (own_hi _) (by decide) (by decide) rfl (own_lo _)) hZ (hw _ (List.mem_of_getElem? (i := 25) rfl)) (hw _ (List.mem_of_getElem? (i := 3) rfl)) (by decide) (by decide)) q216a q216c (g := (mkF m 140 #[.val (.int p0), .val (.int p1), .val (.int p2), .val (.int p3), .val (.int (2 : Int32)), .val (.int (1 : Int32)), .val (.ref b184), .val (.ref b196), .val (.int (0 : Int32)), .val (.int (1 : Int32))] [(.ref b196)])) rfl (by rw [hml]; rfl) (Steps.refl _) (argsL := []) (rest := []) (lenOf pd_2 rfl) rfl (by show 2 * 0 + _ ≤ _; exact Nat.le_of_eq rfl) (hb hby at_140) (fun _ _ => ⟨rfl, hs212, (by decide : 2 + 0 ≤ _), (by decide : 5 + 0 ≤ _)⟩)
      dsimp only [Pt.U, Pt.locs, Pt.cells, Pt.slots] at X215 l215 y215 z215 st215 hQ215
      subst l215 y215 z215
      obtain ⟨rfl, Nq215, Kq215, f217, f218, f219⟩ := hQ215
      have N220 := Fr.app N214 Nq215
      have f221 := (f209.keep Kq215 (ninS ne198 nin0))
      have f222 := (f210.keep Kq215)
      have Z223 : n0 ≤ T215.heap.size := (Nat.le_trans Z211 Kq215.1)
      refine OFin.to (S' := T215.setTop (mkF m 143 #[.val (.int p0), .val (.int p1), .val (.int p2), .val (.int p3), .val (.int (2 : Int32)), .val (.int (1 : Int32)), .val (.ref b184), .val (.ref b196), .val (.int (0 : Int32)), .val (.int (1 : Int32))] [(.long (((0 : Int64) ||| (((((((p1 &&& (127 : Int32)) ||| (128 : Int32)).toInt8.toInt32).toInt8.toInt32) &&& (127 : Int32)).toInt64) <<< ((0 : Int32) &&& 0x3f).toInt64)) ||| ((((((p2 &&& (127 : Int32)).toInt8.toInt32).toInt8.toInt32) &&& (127 : Int32)).toInt64) <<< ((7 : Int32) &&& 0x3f).toInt64)))])) st215 ?_
      refine OFin.of (S' := T215.setTop (mkF m 166 #[.val (.int p0), .val (.int p1), .val (.int p2), .val (.int p3), .val (.int (2 : Int32)), .val (.int (1 : Int32)), .val (.ref b184), .val (.ref b196), .val (.int (2 : Int32)), .val (.int (1 : Int32))] [(.ref b196)])) (fun t ht => ?_) ?_
      · refine own_pop2L X215.here hx rfl (hb hby at_143) rfl ?_
        show Steps p.tables e below (T215.setTop (mkF m 144 _ [])) _
        refine XS.iload X215.here hx rfl (hb hby at_144) rfl ?_
        show Steps p.tables e below (T215.setTop (mkF m 146 _ [(.int (0 : Int32))])) _
        refine XS.iload X215.here hx rfl (hb hby at_146) rfl ?_
        show Steps p.tables e below (T215.setTop (mkF m 148 _ [(.int (1 : Int32)), (.int (0 : Int32))])) _
        refine XS.ifNo X215.here hx rfl (hb hby at_148) rfl ((if0 _ _).trans (feq (by decide : ¬ ((1 : Int32) = (0 : Int32)))).1) ?_
        show Steps p.tables e below (T215.setTop (mkF m 151 _ [(.int (0 : Int32))])) _
        refine XS.iconst X215.here hx rfl (hb hby at_151) ?_
        show Steps p.tables e below (T215.setTop (mkF m 152 _ [(.int (2 : Int32)), (.int (0 : Int32))])) _
        refine XS.goto X215.here hx rfl (pc0 := 152) (pc' := 156) rfl (hb hby at_152) (by decide) (by decide) ?_
        show Steps p.tables e below (T215.setTop (mkF m 156 _ [(.int (2 : Int32)), (.int (0 : Int32))])) _
        refine XS.iadd X215.here hx rfl (hb hby at_156) rfl ?_
        show Steps p.tables e below (T215.setTop (mkF m 157 _ [(.int (2 : Int32))])) _
        refine XS.istore X215.here hx rfl (hb hby at_157) rfl (l' := #[.val (.int p0), .val (.int p1), .val (.int p2), .val (.int p3), .val (.int (2 : Int32)), .val (.int (1 : Int32)), .val (.ref b184), .val (.ref b196), .val (.int (2 : Int32)), .val (.int (1 : Int32))]) rfl ?_
        show Steps p.tables e below (T215.setTop (mkF m 159 #[.val (.int p0), .val (.int p1), .val (.int p2), .val (.int p3), .val (.int (2 : Int32)), .val (.int (1 : Int32)), .val (.ref b184), .val (.ref b196), .val (.int (2 : Int32)), .val (.int (1 : Int32))] [])) _
        refine XS.iload X215.here hx rfl (hb hby at_159) rfl ?_
        show Steps p.tables e below (T215.setTop (mkF m 161 _ [(.int (1 : Int32))])) _
        refine XS.ifNo X215.here hx rfl (hb hby at_161) rfl ((if0 _ _).trans (feq (by decide : ¬ ((1 : Int32) = (0 : Int32)))).1) ?_
        show Steps p.tables e below (T215.setTop (mkF m 164 _ [])) _
        refine XS.aload X215.here hx rfl (hb hby at_164) rfl rfl ?_
        exact ht
      obtain ⟨cq225, kq225, q225a, q225b, q225c⟩ := isOf hZ (rfl : T215.heap = T215.heap) f222
      obtain ⟨_, _, ⟨T224, L224, k224, n224⟩, -, X224, ⟨Lc224, hQ224, l224, y224, z224⟩, st224⟩ := X215.virtualBack hx (y := (⟨"com/example/querant/querant/records/Packing$Reader", "hasMore", "()Z"⟩ : MethodName)) (z := (⟨"com/example/querant/querant/records/Packing$Reader", "hasMore", "()Z"⟩ : MethodName)) hown (mvT hZ (hw _ (List.mem_of_getElem? (i := 14) rfl))) (mvT hZ (hw _ (List.mem_of_getElem? (i := 15) rfl))) (notFace_of_selects (args := #[]) (mvT hZ (hw _ (List.mem_of_getElem? (i := 17) rfl)))) (mvT hZ (hw _ (List.mem_of_getElem? (i := 17) rfl))) (mvT hZ (hw _ (List.mem_of_getElem? (i := 16) rfl))) (by decide) (backOf (W := 0) (rmHm l Z _ hw [] b196 (2 : Int32) (2 : Int32) T215.heap n0 Z223 f219 f218) hZ (hw _ (List.mem_of_getElem? (i := 18) rfl)) (hw _ (List.mem_of_getElem? (i := 3) rfl)) (by decide) (by decide)) q225a q225c (g := (mkF m 166 #[.val (.int p0), .val (.int p1), .val (.int p2), .val (.int p3), .val (.int (2 : Int32)), .val (.int (1 : Int32)), .val (.ref b184), .val (.ref b196), .val (.int (2 : Int32)), .val (.int (1 : Int32))] [(.ref b196)])) rfl (by rw [hml]; rfl) (Steps.refl _) (argsL := []) (rest := []) (lenOf pd_1 rfl) rfl (by show 2 * 0 + _ ≤ _; exact Nat.le_of_eq rfl) (hb hby at_166) (fun _ _ => ⟨rfl, (rfl : T215.heap = T215.heap), (by decide : 2 + 0 ≤ _), (by decide : 5 + 0 ≤ _)⟩)
      dsimp only [Pt.U, Pt.locs, Pt.cells, Pt.slots] at X224 l224 y224 z224 st224 hQ224
      subst l224 y224 z224
      obtain ⟨rfl, Nq224, hs224⟩ := hQ224
      have N226 := Fr.app N220 Nq224
      refine OFin.to (S' := T224.setTop (mkF m 169 #[.val (.int p0), .val (.int p1), .val (.int p2), .val (.int p3), .val (.int (2 : Int32)), .val (.int (1 : Int32)), .val (.ref b184), .val (.ref b196), .val (.int (2 : Int32)), .val (.int (1 : Int32))] [(.int (0 : Int32))])) st224 ?_
      refine OFin.of (S' := T224.setTop (mkF m 289 #[.val (.int p0), .val (.int p1), .val (.int p2), .val (.int p3), .val (.int (2 : Int32)), .val (.int (1 : Int32)), .val (.ref b184), .val (.ref b196), .val (.int (2 : Int32)), .val (.int (1 : Int32))] [(.int (1 : Int32))])) (fun t ht => ?_) ?_
      · refine XS.iload X224.here hx rfl (hb hby at_169) rfl ?_
        show Steps p.tables e below (T224.setTop (mkF m 171 _ [(.int (2 : Int32)), (.int (0 : Int32))])) _
        refine XS.iload X224.here hx rfl (hb hby at_171) rfl ?_
        show Steps p.tables e below (T224.setTop (mkF m 173 _ [(.int (2 : Int32)), (.int (2 : Int32)), (.int (0 : Int32))])) _
        refine XS.icmpYes X224.here hx rfl (pc0 := 173) (pc' := 180) rfl (hb hby at_173) rfl (flt (by decide : ¬ ((2 : Int32) < (2 : Int32)))).2.1 (by decide) (by decide) ?_
        show Steps p.tables e below (T224.setTop (mkF m 180 _ [(.int (0 : Int32))])) _
        refine XS.iconst X224.here hx rfl (hb hby at_180) ?_
        show Steps p.tables e below (T224.setTop (mkF m 181 _ [(.int (0 : Int32)), (.int (0 : Int32))])) _
        refine XS.icmpNo X224.here hx rfl (hb hby at_181) rfl (teq (by decide : (0 : Int32) = (0 : Int32))).2 ?_
        show Steps p.tables e below (T224.setTop (mkF m 184 _ [])) _
        refine XS.iconst X224.here hx rfl (hb hby at_184) ?_
        show Steps p.tables e below (T224.setTop (mkF m 185 _ [(.int (1 : Int32))])) _
        refine XS.goto X224.here hx rfl (pc0 := 185) (pc' := 189) rfl (hb hby at_185) (by decide) (by decide) ?_
        show Steps p.tables e below (T224.setTop (mkF m 189 _ [(.int (1 : Int32))])) _
        refine XS.istore X224.here hx rfl (hb hby at_189) rfl (l' := #[.val (.int p0), .val (.int p1), .val (.int p2), .val (.int p3), .val (.int (2 : Int32)), .val (.int (1 : Int32)), .val (.ref b184), .val (.ref b196), .val (.int (2 : Int32)), .val (.int (1 : Int32))]) rfl ?_
        show Steps p.tables e below (T224.setTop (mkF m 191 _ [])) _
        refine XS.iload X224.here hx rfl (hb hby at_191) rfl ?_
        show Steps p.tables e below (T224.setTop (mkF m 193 _ [(.int (2 : Int32))])) _
        refine XS.iload X224.here hx rfl (hb hby at_193) rfl ?_
        show Steps p.tables e below (T224.setTop (mkF m 195 _ [(.int (2 : Int32)), (.int (2 : Int32))])) _
        refine XS.icmpYes X224.here hx rfl (pc0 := 195) (pc' := 239) rfl (hb hby at_195) rfl (flt (by decide : ¬ ((2 : Int32) < (2 : Int32)))).2.1 (by decide) (by decide) ?_
        show Steps p.tables e below (T224.setTop (mkF m 239 _ [])) _
        refine XS.iload X224.here hx rfl (hb hby at_239) rfl ?_
        show Steps p.tables e below (T224.setTop (mkF m 241 _ [(.int (2 : Int32))])) _
        refine XS.iload X224.here hx rfl (hb hby at_241) rfl ?_
        show Steps p.tables e below (T224.setTop (mkF m 243 _ [(.int (2 : Int32)), (.int (2 : Int32))])) _
        refine XS.icmpYes X224.here hx rfl (pc0 := 243) (pc' := 287) rfl (hb hby at_243) rfl (flt (by decide : ¬ ((2 : Int32) < (2 : Int32)))).2.1 (by decide) (by decide) ?_
        show Steps p.tables e below (T224.setTop (mkF m 287 _ [])) _
        refine XS.iload X224.here hx rfl (hb hby at_287) rfl ?_
        exact ht
      exact OFin.retB X224 hx hlk (t := .boolean) (by simp) hret (hb hby at_289) (by decide) (by decide) (by rw [hs224]; exact ⟨rfl, N226⟩)
  · rw [hq1]
    refine OFin.of (S' := s₁.setTop (mkF m 10 #[.val (.int p0), .val (.int p1), .val (.int p2), .val (.int p3), .val (.int (3 : Int32)), .unset, .unset, .unset, .unset, .unset] [(.int ((p0 >>> ((2 : Int32) &&& 31)) &&& (1 : Int32)))])) (fun t ht => ?_) ?_
    · refine XS.istore X0.here hx rfl (hb hby at_3) rfl (l' := #[.val (.int p0), .val (.int p1), .val (.int p2), .val (.int p3), .val (.int (3 : Int32)), .unset, .unset, .unset, .unset, .unset]) rfl ?_
      show Steps p.tables e below (s₁.setTop (mkF m 5 #[.val (.int p0), .val (.int p1), .val (.int p2), .val (.int p3), .val (.int (3 : Int32)), .unset, .unset, .unset, .unset, .unset] [])) _
      refine XS.iloadN X0.here hx rfl (hb hby at_5) rfl ?_
      show Steps p.tables e below (s₁.setTop (mkF m 6 _ [(.int p0)])) _
      refine XS.iconst X0.here hx rfl (hb hby at_6) ?_
      show Steps p.tables e below (s₁.setTop (mkF m 7 _ [(.int (2 : Int32)), (.int p0)])) _
      refine XS.ishr X0.here hx rfl (hb hby at_7) rfl ?_
      show Steps p.tables e below (s₁.setTop (mkF m 8 _ [(.int (p0 >>> ((2 : Int32) &&& 31)))])) _
      refine XS.iconst X0.here hx rfl (hb hby at_8) ?_
      show Steps p.tables e below (s₁.setTop (mkF m 9 _ [(.int (1 : Int32)), (.int (p0 >>> ((2 : Int32) &&& 31)))])) _
      refine XS.iand X0.here hx rfl (hb hby at_9) rfl ?_
      exact ht
    by_cases hc227 : ((p0 >>> ((2 : Int32) &&& 31)) &&& (1 : Int32)) = (0 : Int32)
    · refine OFin.of (S' := s₁.setTop (mkF m 28 #[.val (.int p0), .val (.int p1), .val (.int p2), .val (.int p3), .val (.int (3 : Int32)), .val (.int (0 : Int32)), .unset, .unset, .unset, .unset] [(.int (3 : Int32))])) (fun t ht => ?_) ?_
      · refine XS.ifYes X0.here hx rfl (pc0 := 10) (pc' := 23) rfl (hb hby at_10) rfl ((if0 _ _).trans (teq (hc227 : ((p0 >>> ((2 : Int32) &&& 31)) &&& (1 : Int32)) = (0 : Int32))).1) (by decide) (by decide) ?_
        show Steps p.tables e below (s₁.setTop (mkF m 23 _ [])) _
        refine XS.iconst X0.here hx rfl (hb hby at_23) ?_
        show Steps p.tables e below (s₁.setTop (mkF m 24 _ [(.int (0 : Int32))])) _
        refine XS.istore X0.here hx rfl (hb hby at_24) rfl (l' := #[.val (.int p0), .val (.int p1), .val (.int p2), .val (.int p3), .val (.int (3 : Int32)), .val (.int (0 : Int32)), .unset, .unset, .unset, .unset]) rfl ?_
        show Steps p.tables e below (s₁.setTop (mkF m 26 #[.val (.int p0), .val (.int p1), .val (.int p2), .val (.int p3), .val (.int (3 : Int32)), .val (.int (0 : Int32)), .unset, .unset, .unset, .unset] [])) _
        refine XS.iload X0.here hx rfl (hb hby at_26) rfl ?_
        exact ht
      obtain ⟨T228, h228, k228, X228, e228, E228, A228, st228⟩ := newP X0 hx hZ (hw _ (List.mem_of_getElem? (i := 0) rfl)) e0 (g := (mkF m 28 #[.val (.int p0), .val (.int p1), .val (.int p2), .val (.int p3), .val (.int (3 : Int32)), .val (.int (0 : Int32)), .unset, .unset, .unset, .unset] [(.int (3 : Int32))])) rfl (hb hby at_28) rfl (by decide) (cap := 3) (by decide) (by decide) (by decide) (by decide)
      obtain ⟨b228, gq228⟩ : ∃ z, z = h0.size := ⟨_, rfl⟩
      rw [← gq228] at A228 st228
      have g229 : n0 ≤ b228 := (Nat.le_trans Z0 (Nat.le_of_eq gq228.symm))
      have Z230 : n0 ≤ h228.size := (Nat.le_trans Z0 E228.1)
      have f231 : Arv Z h228 b228 k228 .byte (3 : Int32) [(.int (0 : Int32)), (.int (0 : Int32)), (.int (0 : Int32))] (.int (0 : Int32)) := ((Arv.new A228 (by decide)).pad (pad_rep [] (.int (0 : Int32)) 3))
      refine OFin.of (S' := T228.setTop (mkF m 30 #[.val (.int p0), .val (.int p1), .val (.int p2), .val (.int p3), .val (.int (3 : Int32)), .val (.int (0 : Int32)), .unset, .unset, .unset, .unset] [(.ref b228)])) (fun t ht => st228 t ht) ?_
      refine OFin.of (S' := T228.setTop (mkF m 59 #[.val (.int p0), .val (.int p1), .val (.int p2), .val (.int p3), .val (.int (3 : Int32)), .val (.int (0 : Int32)), .val (.ref b228), .unset, .unset, .unset] [(.int (((p1 &&& (127 : Int32)) ||| (0 : Int32)).toInt8.toInt32)), (.int (0 : Int32)), (.ref b228)])) (fun t ht => ?_) ?_
      · refine XS.astore X228.here hx rfl (hb hby at_30) rfl rfl (l' := #[.val (.int p0), .val (.int p1), .val (.int p2), .val (.int p3), .val (.int (3 : Int32)), .val (.int (0 : Int32)), .val (.ref b228), .unset, .unset, .unset]) rfl ?_
        show Steps p.tables e below (T228.setTop (mkF m 32 #[.val (.int p0), .val (.int p1), .val (.int p2), .val (.int p3), .val (.int (3 : Int32)), .val (.int (0 : Int32)), .val (.ref b228), .unset, .unset, .unset] [])) _
        refine XS.iload X228.here hx rfl (hb hby at_32) rfl ?_
        show Steps p.tables e below (T228.setTop (mkF m 34 _ [(.int (3 : Int32))])) _
        refine XS.iconst X228.here hx rfl (hb hby at_34) ?_
        show Steps p.tables e below (T228.setTop (mkF m 35 _ [(.int (1 : Int32)), (.int (3 : Int32))])) _
        refine XS.icmpNo X228.here hx rfl (hb hby at_35) rfl (flt (by decide : ¬ ((3 : Int32) < (1 : Int32)))).1 ?_
        show Steps p.tables e below (T228.setTop (mkF m 38 _ [])) _
        refine XS.aload X228.here hx rfl (hb hby at_38) rfl rfl ?_
        show Steps p.tables e below (T228.setTop (mkF m 40 _ [(.ref b228)])) _
        refine XS.iconst X228.here hx rfl (hb hby at_40) ?_
        show Steps p.tables e below (T228.setTop (mkF m 41 _ [(.int (0 : Int32)), (.ref b228)])) _
        refine XS.iloadN X228.here hx rfl (hb hby at_41) rfl ?_
        show Steps p.tables e below (T228.setTop (mkF m 42 _ [(.int p1), (.int (0 : Int32)), (.ref b228)])) _
        refine XS.bipush X228.here hx rfl (hb hby at_42) ?_
        show Steps p.tables e below (T228.setTop (mkF m 44 _ [(.int (127 : Int32)), (.int p1), (.int (0 : Int32)), (.ref b228)])) _
        refine XS.iand X228.here hx rfl (hb hby at_44) rfl ?_
        show Steps p.tables e below (T228.setTop (mkF m 45 _ [(.int (p1 &&& (127 : Int32))), (.int (0 : Int32)), (.ref b228)])) _
        refine XS.iload X228.here hx rfl (hb hby at_45) rfl ?_
        show Steps p.tables e below (T228.setTop (mkF m 47 _ [(.int (0 : Int32)), (.int (p1 &&& (127 : Int32))), (.int (0 : Int32)), (.ref b228)])) _
        refine XS.ifYes X228.here hx rfl (pc0 := 47) (pc' := 56) rfl (hb hby at_47) rfl ((if0 _ _).trans (teq (by decide : (0 : Int32) = (0 : Int32))).1) (by decide) (by decide) ?_
        show Steps p.tables e below (T228.setTop (mkF m 56 _ [(.int (p1 &&& (127 : Int32))), (.int (0 : Int32)), (.ref b228)])) _
        refine XS.iconst X228.here hx rfl (hb hby at_56) ?_
        show Steps p.tables e below (T228.setTop (mkF m 57 _ [(.int (0 : Int32)), (.int (p1 &&& (127 : Int32))), (.int (0 : Int32)), (.ref b228)])) _
        refine XS.ior X228.here hx rfl (hb hby at_57) rfl ?_
        show Steps p.tables e below (T228.setTop (mkF m 58 _ [(.int ((p1 &&& (127 : Int32)) ||| (0 : Int32))), (.int (0 : Int32)), (.ref b228)])) _
        refine XS.i2b X228.here hx rfl (hb hby at_58) rfl ?_
        exact ht
      obtain ⟨cl232, Ar232, q232, S232, Ng232, H232, G232⟩ := id f231
      have hin232 := inb_of (j := (0 : Int32)) S232 ⟨by decide, by decide⟩
      obtain ⟨T232, h232, X232, e232, W232, st232⟩ := stB X228 hx hZ e228 Ar232 (j := (0 : Int32)) hin232 (g := (mkF m 59 #[.val (.int p0), .val (.int p1), .val (.int p2), .val (.int p3), .val (.int (3 : Int32)), .val (.int (0 : Int32)), .val (.ref b228), .unset, .unset, .unset] [(.int (((p1 &&& (127 : Int32)) ||| (0 : Int32)).toInt8.toInt32)), (.int (0 : Int32)), (.ref b228)])) rfl rfl (hb hby at_59)
      have Z233 : n0 ≤ h232.size := (Nat.le_trans Z230 (Keep.of_wr W232).1)
      have N234 := Fr.snoc X232 N0 g229
      have f235 : Arv Z h232 b228 k228 .byte (3 : Int32) [(.int ((((p1 &&& (127 : Int32)) ||| (0 : Int32)).toInt8.toInt32).toInt8.toInt32)), (.int (0 : Int32)), (.int (0 : Int32))] (.int (0 : Int32)) := Arv.set Ar232 q232 S232 Ng232 H232 G232 (fits_nar_byte _) W232 0 rfl (Nat.le_of_ble_eq_true rfl)
      refine OFin.of (S' := T232.setTop (mkF m 60 #[.val (.int p0), .val (.int p1), .val (.int p2), .val (.int p3), .val (.int (3 : Int32)), .val (.int (0 : Int32)), .val (.ref b228), .unset, .unset, .unset] [])) (fun t ht => st232 t ht) ?_
      refine OFin.of (S' := T232.setTop (mkF m 74 #[.val (.int p0), .val (.int p1), .val (.int p2), .val (.int p3), .val (.int (3 : Int32)), .val (.int (0 : Int32)), .val (.ref b228), .unset, .unset, .unset] [(.int ((p2 &&& (127 : Int32)).toInt8.toInt32)), (.int (1 : Int32)), (.ref b228)])) (fun t ht => ?_) ?_
      · refine XS.iload X232.here hx rfl (hb hby at_60) rfl ?_
        show Steps p.tables e below (T232.setTop (mkF m 62 _ [(.int (3 : Int32))])) _
        refine XS.iconst X232.here hx rfl (hb hby at_62) ?_
        show Steps p.tables e below (T232.setTop (mkF m 63 _ [(.int (2 : Int32)), (.int (3 : Int32))])) _
        refine XS.icmpNo X232.here hx rfl (hb hby at_63) rfl (flt (by decide : ¬ ((3 : Int32) < (2 : Int32)))).1 ?_
        show Steps p.tables e below (T232.setTop (mkF m 66 _ [])) _
        refine XS.aload X232.here hx rfl (hb hby at_66) rfl rfl ?_
        show Steps p.tables e below (T232.setTop (mkF m 68 _ [(.ref b228)])) _
        refine XS.iconst X232.here hx rfl (hb hby at_68) ?_
        show Steps p.tables e below (T232.setTop (mkF m 69 _ [(.int (1 : Int32)), (.ref b228)])) _
        refine XS.iloadN X232.here hx rfl (hb hby at_69) rfl ?_
        show Steps p.tables e below (T232.setTop (mkF m 70 _ [(.int p2), (.int (1 : Int32)), (.ref b228)])) _
        refine XS.bipush X232.here hx rfl (hb hby at_70) ?_
        show Steps p.tables e below (T232.setTop (mkF m 72 _ [(.int (127 : Int32)), (.int p2), (.int (1 : Int32)), (.ref b228)])) _
        refine XS.iand X232.here hx rfl (hb hby at_72) rfl ?_
        show Steps p.tables e below (T232.setTop (mkF m 73 _ [(.int (p2 &&& (127 : Int32))), (.int (1 : Int32)), (.ref b228)])) _
        refine XS.i2b X232.here hx rfl (hb hby at_73) rfl ?_
        exact ht
      obtain ⟨cl236, Ar236, q236, S236, Ng236, H236, G236⟩ := id f235
      have hin236 := inb_of (j := (1 : Int32)) S236 ⟨by decide, by decide⟩
      obtain ⟨T236, h236, X236, e236, W236, st236⟩ := stB X232 hx hZ e232 Ar236 (j := (1 : Int32)) hin236 (g := (mkF m 74 #[.val (.int p0), .val (.int p1), .val (.int p2), .val (.int p3), .val (.int (3 : Int32)), .val (.int (0 : Int32)), .val (.ref b228), .unset, .unset, .unset] [(.int ((p2 &&& (127 : Int32)).toInt8.toInt32)), (.int (1 : Int32)), (.ref b228)])) rfl rfl (hb hby at_74)
      have Z237 : n0 ≤ h236.size := (Nat.le_trans Z233 (Keep.of_wr W236).1)
      have N238 := Fr.snoc X236 N234 g229
      have f239 : Arv Z h236 b228 k228 .byte (3 : Int32) [(.int ((((p1 &&& (127 : Int32)) ||| (0 : Int32)).toInt8.toInt32).toInt8.toInt32)), (.int (((p2 &&& (127 : Int32)).toInt8.toInt32).toInt8.toInt32)), (.int (0 : Int32))] (.int (0 : Int32)) := Arv.set Ar236 q236 S236 Ng236 H236 G236 (fits_nar_byte _) W236 1 rfl (Nat.le_of_ble_eq_true rfl)
      refine OFin.of (S' := T236.setTop (mkF m 75 #[.val (.int p0), .val (.int p1), .val (.int p2), .val (.int p3), .val (.int (3 : Int32)), .val (.int (0 : Int32)), .val (.ref b228), .unset, .unset, .unset] [])) (fun t ht => st236 t ht) ?_
      refine OFin.of (S' := T236.setTop (mkF m 89 #[.val (.int p0), .val (.int p1), .val (.int p2), .val (.int p3), .val (.int (3 : Int32)), .val (.int (0 : Int32)), .val (.ref b228), .unset, .unset, .unset] [(.int ((p3 &&& (127 : Int32)).toInt8.toInt32)), (.int (2 : Int32)), (.ref b228)])) (fun t ht => ?_) ?_
      · refine XS.iload X236.here hx rfl (hb hby at_75) rfl ?_
        show Steps p.tables e below (T236.setTop (mkF m 77 _ [(.int (3 : Int32))])) _
        refine XS.iconst X236.here hx rfl (hb hby at_77) ?_
        show Steps p.tables e below (T236.setTop (mkF m 78 _ [(.int (3 : Int32)), (.int (3 : Int32))])) _
        refine XS.icmpNo X236.here hx rfl (hb hby at_78) rfl (flt (by decide : ¬ ((3 : Int32) < (3 : Int32)))).1 ?_
        show Steps p.tables e below (T236.setTop (mkF m 81 _ [])) _
        refine XS.aload X236.here hx rfl (hb hby at_81) rfl rfl ?_
        show Steps p.tables e below (T236.setTop (mkF m 83 _ [(.ref b228)])) _
        refine XS.iconst X236.here hx rfl (hb hby at_83) ?_
        show Steps p.tables e below (T236.setTop (mkF m 84 _ [(.int (2 : Int32)), (.ref b228)])) _
        refine XS.iloadN X236.here hx rfl (hb hby at_84) rfl ?_
        show Steps p.tables e below (T236.setTop (mkF m 85 _ [(.int p3), (.int (2 : Int32)), (.ref b228)])) _
        refine XS.bipush X236.here hx rfl (hb hby at_85) ?_
        show Steps p.tables e below (T236.setTop (mkF m 87 _ [(.int (127 : Int32)), (.int p3), (.int (2 : Int32)), (.ref b228)])) _
        refine XS.iand X236.here hx rfl (hb hby at_87) rfl ?_
        show Steps p.tables e below (T236.setTop (mkF m 88 _ [(.int (p3 &&& (127 : Int32))), (.int (2 : Int32)), (.ref b228)])) _
        refine XS.i2b X236.here hx rfl (hb hby at_88) rfl ?_
        exact ht
      obtain ⟨cl240, Ar240, q240, S240, Ng240, H240, G240⟩ := id f239
      have hin240 := inb_of (j := (2 : Int32)) S240 ⟨by decide, by decide⟩
      obtain ⟨T240, h240, X240, e240, W240, st240⟩ := stB X236 hx hZ e236 Ar240 (j := (2 : Int32)) hin240 (g := (mkF m 89 #[.val (.int p0), .val (.int p1), .val (.int p2), .val (.int p3), .val (.int (3 : Int32)), .val (.int (0 : Int32)), .val (.ref b228), .unset, .unset, .unset] [(.int ((p3 &&& (127 : Int32)).toInt8.toInt32)), (.int (2 : Int32)), (.ref b228)])) rfl rfl (hb hby at_89)
      have Z241 : n0 ≤ h240.size := (Nat.le_trans Z237 (Keep.of_wr W240).1)
      have N242 := Fr.snoc X240 N238 g229
      have f243 : Arv Z h240 b228 k228 .byte (3 : Int32) [(.int ((((p1 &&& (127 : Int32)) ||| (0 : Int32)).toInt8.toInt32).toInt8.toInt32)), (.int (((p2 &&& (127 : Int32)).toInt8.toInt32).toInt8.toInt32)), (.int (((p3 &&& (127 : Int32)).toInt8.toInt32).toInt8.toInt32))] (.int (0 : Int32)) := Arv.set Ar240 q240 S240 Ng240 H240 G240 (fits_nar_byte _) W240 2 rfl (Nat.le_of_ble_eq_true rfl)
      refine OFin.of (S' := T240.setTop (mkF m 90 #[.val (.int p0), .val (.int p1), .val (.int p2), .val (.int p3), .val (.int (3 : Int32)), .val (.int (0 : Int32)), .val (.ref b228), .unset, .unset, .unset] [])) (fun t ht => st240 t ht) ?_
      obtain ⟨T244, h244, X244, e244, E244, A244, D244, -, st244⟩ := newO X240 hx hZ hown (hw _ (List.mem_of_getElem? (i := 1) rfl)) (hw _ (List.mem_of_getElem? (i := 2) rfl)) (hw _ (List.mem_of_getElem? (i := 3) rfl)) e240 (g := (mkF m 90 #[.val (.int p0), .val (.int p1), .val (.int p2), .val (.int p3), .val (.int (3 : Int32)), .val (.int (0 : Int32)), .val (.ref b228), .unset, .unset, .unset] [])) rfl (hb hby at_90) (by decide) (by decide)
      obtain ⟨b244, gq244⟩ : ∃ z, z = h240.size := ⟨_, rfl⟩
      rw [← gq244] at A244 D244 st244
      have g245 : n0 ≤ b244 := (Nat.le_trans Z241 (Nat.le_of_eq gq244.symm))
      have ne246 : b228 ≠ b244 := (Nat.ne_of_lt (Nat.lt_of_lt_of_le f243.lt (Nat.le_of_eq gq244.symm)))
      have f247 := f243.ext E244
      have Z248 : n0 ≤ h244.size := (Nat.le_trans Z241 E244.1)
      have f249 : Fld Z h244 b244 "com/example/querant/querant/records/Packing$Reader" "bytes" "[B" .null := D244 (Or.inr (hw _ (List.mem_of_getElem? (i := 11) rfl))) (ty := (.array .byte)) (by decide)
      have f250 : Fld Z h244 b244 "com/example/querant/querant/records/Packing$Reader" "end" "I" (.int (0 : Int32)) := D244 (Or.inr (hw _ (List.mem_of_getElem? (i := 13) rfl))) (ty := .int) (by decide)
      have f251 : Fld Z h244 b244 "com/example/querant/querant/records/Packing$Reader" "position" "I" (.int (0 : Int32)) := D244 (Or.inl (hw _ (List.mem_of_getElem? (i := 20) rfl))) (ty := .int) (by decide)
      refine OFin.of (S' := T244.setTop (mkF m 93 #[.val (.int p0), .val (.int p1), .val (.int p2), .val (.int p3), .val (.int (3 : Int32)), .val (.int (0 : Int32)), .val (.ref b228), .unset, .unset, .unset] [(.ref b244)])) (fun t ht => st244 t ht) ?_
      refine OFin.of (S' := T244.setTop (mkF m 96 #[.val (.int p0), .val (.int p1), .val (.int p2), .val (.int p3), .val (.int (3 : Int32)), .val (.int (0 : Int32)), .val (.ref b228), .unset, .unset, .unset] [(.ref b228), (.ref b244), (.ref b244)])) (fun t ht => ?_) ?_
      · refine XS.dup X244.here hx rfl (hb hby at_93) rfl rfl ?_
        show Steps p.tables e below (T244.setTop (mkF m 94 _ [(.ref b244), (.ref b244)])) _
        refine XS.aload X244.here hx rfl (hb hby at_94) rfl rfl ?_
        exact ht
      obtain ⟨_, _, ⟨T252, L252, k252, n252⟩, -, X252, ⟨Lc252, hQ252, l252, y252, z252⟩, st252⟩ := X244.specialBack hx (y := (⟨"com/example/querant/querant/records/Packing$Reader", "<init>", "([B)V"⟩ : MethodName)) rfl hown (mvT hZ (hw _ (List.mem_of_getElem? (i := 4) rfl))) (mvT hZ (hw _ (List.mem_of_getElem? (i := 5) rfl))) (mvT hZ (hw _ (List.mem_of_getElem? (i := 6) rfl))) (by decide) (backOf (W := 1) (rmIni l Z _ hw [] b244 b228 k228 (3 : Int32) [(.int ((((p1 &&& (127 : Int32)) ||| (0 : Int32)).toInt8.toInt32).toInt8.toInt32)), (.int (((p2 &&& (127 : Int32)).toInt8.toInt32).toInt8.toInt32)), (.int (((p3 &&& (127 : Int32)).toInt8.toInt32).toInt8.toInt32))] h244 n0 Z248 A244 f249 f250 f251 f247 g245 ne246) hZ (hw _ (List.mem_of_getElem? (i := 6) rfl)) (hw _ (List.mem_of_getElem? (i := 3) rfl)) (by decide) (by decide)) (g := (mkF m 96 #[.val (.int p0), .val (.int p1), .val (.int p2), .val (.int p3), .val (.int (3 : Int32)), .val (.int (0 : Int32)), .val (.ref b228), .unset, .unset, .unset] [(.ref b228), (.ref b244), (.ref b244)])) rfl (by rw [hml]; rfl) (Steps.refl _) (a := b244) (argsL := [(.ref b228)]) (rest := [(.ref b244)]) (lenOf pd_0 rfl) rfl (by show 2 * 0 + _ ≤ _; exact Nat.le_of_eq rfl) (hb hby at_96) (fun _ _ => ⟨rfl, e244, (by decide : 2 + 0 ≤ _), (by decide : 6 + 0 ≤ _)⟩)
      dsimp only [Pt.U, Pt.locs, Pt.cells, Pt.slots] at X252 l252 y252 z252 st252 hQ252
      subst l252 y252 z252
      obtain ⟨rfl, Nq252, Kq252, f253, f254, f255⟩ := hQ252
      have N256 := Fr.app N242 Nq252
      have f257 := (f247.keep Kq252 (ninS ne246 nin0))
      have f258 := (A244.keep Kq252)
      have Z259 : n0 ≤ T252.heap.size := (Nat.le_trans Z248 Kq252.1)
      refine OFin.to (S' := T252.setTop (mkF m 99 #[.val (.int p0), .val (.int p1), .val (.int p2), .val (.int p3), .val (.int (3 : Int32)), .val (.int (0 : Int32)), .val (.ref b228), .unset, .unset, .unset] [(.ref b244)])) st252 ?_
      refine OFin.of (S' := T252.setTop (mkF m 106 #[.val (.int p0), .val (.int p1), .val (.int p2), .val (.int p3), .val (.int (3 : Int32)), .val (.int (0 : Int32)), .val (.ref b228), .val (.ref b244), .val (.int (0 : Int32)), .unset] [(.ref b244)])) (fun t ht => ?_) ?_
      · refine XS.astore X252.here hx rfl (hb hby at_99) rfl rfl (l' := #[.val (.int p0), .val (.int p1), .val (.int p2), .val (.int p3), .val (.int (3 : Int32)), .val (.int (0 : Int32)), .val (.ref b228), .val (.ref b244), .unset, .unset]) rfl ?_
        show Steps p.tables e below (T252.setTop (mkF m 101 #[.val (.int p0), .val (.int p1), .val (.int p2), .val (.int p3), .val (.int (3 : Int32)), .val (.int (0 : Int32)), .val (.ref b228), .val (.ref b244), .unset, .unset] [])) _
        refine XS.iconst X252.here hx rfl (hb hby at_101) ?_
        show Steps p.tables e below (T252.setTop (mkF m 102 _ [(.int (0 : Int32))])) _
        refine XS.istore X252.here hx rfl (hb hby at_102) rfl (l' := #[.val (.int p0), .val (.int p1), .val (.int p2), .val (.int p3), .val (.int (3 : Int32)), .val (.int (0 : Int32)), .val (.ref b228), .val (.ref b244), .val (.int (0 : Int32)), .unset]) rfl ?_
        show Steps p.tables e below (T252.setTop (mkF m 104 #[.val (.int p0), .val (.int p1), .val (.int p2), .val (.int p3), .val (.int (3 : Int32)), .val (.int (0 : Int32)), .val (.ref b228), .val (.ref b244), .val (.int (0 : Int32)), .unset] [])) _
        refine XS.aload X252.here hx rfl (hb hby at_104) rfl rfl ?_
        exact ht
      obtain ⟨cq261, kq261, q261a, q261b, q261c⟩ := isOf hZ (rfl : T252.heap = T252.heap) f258
      obtain ⟨_, _, ⟨T260, L260, k260, n260⟩, -, X260, ⟨Lc260, hQ260, l260, y260, z260⟩, st260⟩ := X252.virtualBack hx (y := (⟨"com/example/querant/querant/records/Packing$Reader", "hasMore", "()Z"⟩ : MethodName)) (z := (⟨"com/example/querant/querant/records/Packing$Reader", "hasMore", "()Z"⟩ : MethodName)) hown (mvT hZ (hw _ (List.mem_of_getElem? (i := 14) rfl))) (mvT hZ (hw _ (List.mem_of_getElem? (i := 15) rfl))) (notFace_of_selects (args := #[]) (mvT hZ (hw _ (List.mem_of_getElem? (i := 17) rfl)))) (mvT hZ (hw _ (List.mem_of_getElem? (i := 17) rfl))) (mvT hZ (hw _ (List.mem_of_getElem? (i := 16) rfl))) (by decide) (backOf (W := 0) (rmHm l Z _ hw [] b244 (0 : Int32) (3 : Int32) T252.heap n0 Z259 f255 f254) hZ (hw _ (List.mem_of_getElem? (i := 18) rfl)) (hw _ (List.mem_of_getElem? (i := 3) rfl)) (by decide) (by decide)) q261a q261c (g := (mkF m 106 #[.val (.int p0), .val (.int p1), .val (.int p2), .val (.int p3), .val (.int (3 : Int32)), .val (.int (0 : Int32)), .val (.ref b228), .val (.ref b244), .val (.int (0 : Int32)), .unset] [(.ref b244)])) rfl (by rw [hml]; rfl) (Steps.refl _) (argsL := []) (rest := []) (lenOf pd_1 rfl) rfl (by show 2 * 0 + _ ≤ _; exact Nat.le_of_eq rfl) (hb hby at_106) (fun _ _ => ⟨rfl, (rfl : T252.heap = T252.heap), (by decide : 2 + 0 ≤ _), (by decide : 6 + 0 ≤ _)⟩)
      dsimp only [Pt.U, Pt.locs, Pt.cells, Pt.slots] at X260 l260 y260 z260 st260 hQ260
      subst l260 y260 z260
      obtain ⟨rfl, Nq260, hs260⟩ := hQ260
      have N262 := Fr.app N256 Nq260
      refine OFin.to (S' := T260.setTop (mkF m 109 #[.val (.int p0), .val (.int p1), .val (.int p2), .val (.int p3), .val (.int (3 : Int32)), .val (.int (0 : Int32)), .val (.ref b228), .val (.ref b244), .val (.int (0 : Int32)), .unset] [(.int (1 : Int32))])) st260 ?_
      refine OFin.of (S' := T260.setTop (mkF m 140 #[.val (.int p0), .val (.int p1), .val (.int p2), .val (.int p3), .val (.int (3 : Int32)), .val (.int (0 : Int32)), .val (.ref b228), .val (.ref b244), .val (.int (0 : Int32)), .val (.int (1 : Int32))] [(.ref b244)])) (fun t ht => ?_) ?_
      · refine XS.iload X260.here hx rfl (hb hby at_109) rfl ?_
        show Steps p.tables e below (T260.setTop (mkF m 111 _ [(.int (0 : Int32)), (.int (1 : Int32))])) _
        refine XS.iload X260.here hx rfl (hb hby at_111) rfl ?_
        show Steps p.tables e below (T260.setTop (mkF m 113 _ [(.int (3 : Int32)), (.int (0 : Int32)), (.int (1 : Int32))])) _
        refine XS.icmpNo X260.here hx rfl (hb hby at_113) rfl (tlt (by decide : (0 : Int32) < (3 : Int32))).2.1 ?_
        show Steps p.tables e below (T260.setTop (mkF m 116 _ [(.int (1 : Int32))])) _
        refine XS.iconst X260.here hx rfl (hb hby at_116) ?_
        show Steps p.tables e below (T260.setTop (mkF m 117 _ [(.int (1 : Int32)), (.int (1 : Int32))])) _
        refine XS.goto X260.here hx rfl (pc0 := 117) (pc' := 121) rfl (hb hby at_117) (by decide) (by decide) ?_
        show Steps p.tables e below (T260.setTop (mkF m 121 _ [(.int (1 : Int32)), (.int (1 : Int32))])) _
        refine XS.icmpNo X260.here hx rfl (hb hby at_121) rfl (teq (by decide : (1 : Int32) = (1 : Int32))).2 ?_
        show Steps p.tables e below (T260.setTop (mkF m 124 _ [])) _
        refine XS.iconst X260.here hx rfl (hb hby at_124) ?_
        show Steps p.tables e below (T260.setTop (mkF m 125 _ [(.int (1 : Int32))])) _
        refine XS.goto X260.here hx rfl (pc0 := 125) (pc' := 129) rfl (hb hby at_125) (by decide) (by decide) ?_
        show Steps p.tables e below (T260.setTop (mkF m 129 _ [(.int (1 : Int32))])) _
        refine XS.istore X260.here hx rfl (hb hby at_129) rfl (l' := #[.val (.int p0), .val (.int p1), .val (.int p2), .val (.int p3), .val (.int (3 : Int32)), .val (.int (0 : Int32)), .val (.ref b228), .val (.ref b244), .val (.int (0 : Int32)), .val (.int (1 : Int32))]) rfl ?_
        show Steps p.tables e below (T260.setTop (mkF m 131 #[.val (.int p0), .val (.int p1), .val (.int p2), .val (.int p3), .val (.int (3 : Int32)), .val (.int (0 : Int32)), .val (.ref b228), .val (.ref b244), .val (.int (0 : Int32)), .val (.int (1 : Int32))] [])) _
        refine XS.iload X260.here hx rfl (hb hby at_131) rfl ?_
        show Steps p.tables e below (T260.setTop (mkF m 133 _ [(.int (0 : Int32))])) _
        refine XS.iload X260.here hx rfl (hb hby at_133) rfl ?_
        show Steps p.tables e below (T260.setTop (mkF m 135 _ [(.int (3 : Int32)), (.int (0 : Int32))])) _
        refine XS.icmpNo X260.here hx rfl (hb hby at_135) rfl (tlt (by decide : (0 : Int32) < (3 : Int32))).2.1 ?_
        show Steps p.tables e below (T260.setTop (mkF m 138 _ [])) _
        refine XS.aload X260.here hx rfl (hb hby at_138) rfl rfl ?_
        exact ht
      obtain ⟨cq264, kq264, q264a, q264b, q264c⟩ := isOf hZ hs260 f258
      obtain ⟨_, _, ⟨T263, L263, k263, n263⟩, -, X263, ⟨Lc263, hQ263, l263, y263, z263⟩, st263⟩ := X260.virtualBack hx (y := (⟨"com/example/querant/querant/records/Packing$Reader", "number", "()J"⟩ : MethodName)) (z := (⟨"com/example/querant/querant/records/Packing$Reader", "number", "()J"⟩ : MethodName)) hown (mvT hZ (hw _ (List.mem_of_getElem? (i := 21) rfl))) (mvT hZ (hw _ (List.mem_of_getElem? (i := 22) rfl))) (notFace_of_selects (args := #[]) (mvT hZ (hw _ (List.mem_of_getElem? (i := 24) rfl)))) (mvT hZ (hw _ (List.mem_of_getElem? (i := 24) rfl))) (mvT hZ (hw _ (List.mem_of_getElem? (i := 23) rfl))) (by decide) (backOf (W := 0) (rmNb1 l Z _ hw [] b244 b228 k228 (3 : Int32) [(.int ((((p1 &&& (127 : Int32)) ||| (0 : Int32)).toInt8.toInt32).toInt8.toInt32)), (.int (((p2 &&& (127 : Int32)).toInt8.toInt32).toInt8.toInt32)), (.int (((p3 &&& (127 : Int32)).toInt8.toInt32).toInt8.toInt32))] (0 : Int32) ((((p1 &&& (127 : Int32)) ||| (0 : Int32)).toInt8.toInt32).toInt8.toInt32) T252.heap n0 Z259 f258 f255 f254 f253 f257 g245 ne246 (by decide) (by decide) rfl (own_lo0 _)) hZ (hw _ (List.mem_of_getElem? (i := 25) rfl)) (hw _ (List.mem_of_getElem? (i := 3) rfl)) (by decide) (by decide)) q264a q264c (g := (mkF m 140 #[.val (.int p0), .val (.int p1), .val (.int p2), .val (.int p3), .val (.int (3 : Int32)), .val (.int (0 : Int32)), .val (.ref b228), .val (.ref b244), .val (.int (0 : Int32)), .val (.int (1 : Int32))] [(.ref b244)])) rfl (by rw [hml]; rfl) (Steps.refl _) (argsL := []) (rest := []) (lenOf pd_2 rfl) rfl (by show 2 * 0 + _ ≤ _; exact Nat.le_of_eq rfl) (hb hby at_140) (fun _ _ => ⟨rfl, hs260, (by decide : 2 + 0 ≤ _), (by decide : 6 + 0 ≤ _)⟩)
      dsimp only [Pt.U, Pt.locs, Pt.cells, Pt.slots] at X263 l263 y263 z263 st263 hQ263
      subst l263 y263 z263
      obtain ⟨rfl, Nq263, Kq263, f265, f266, f267⟩ := hQ263
      have N268 := Fr.app N262 Nq263
      have f269 := (f257.keep Kq263 (ninS ne246 nin0))
      have f270 := (f258.keep Kq263)
      have Z271 : n0 ≤ T263.heap.size := (Nat.le_trans Z259 Kq263.1)
      refine OFin.to (S' := T263.setTop (mkF m 143 #[.val (.int p0), .val (.int p1), .val (.int p2), .val (.int p3), .val (.int (3 : Int32)), .val (.int (0 : Int32)), .val (.ref b228), .val (.ref b244), .val (.int (0 : Int32)), .val (.int (1 : Int32))] [(.long ((0 : Int64) ||| (((((((p1 &&& (127 : Int32)) ||| (0 : Int32)).toInt8.toInt32).toInt8.toInt32) &&& (127 : Int32)).toInt64) <<< ((0 : Int32) &&& 0x3f).toInt64)))])) st263 ?_
      refine OFin.of (S' := T263.setTop (mkF m 166 #[.val (.int p0), .val (.int p1), .val (.int p2), .val (.int p3), .val (.int (3 : Int32)), .val (.int (0 : Int32)), .val (.ref b228), .val (.ref b244), .val (.int (1 : Int32)), .val (.int (1 : Int32))] [(.ref b244)])) (fun t ht => ?_) ?_
      · refine own_pop2L X263.here hx rfl (hb hby at_143) rfl ?_
        show Steps p.tables e below (T263.setTop (mkF m 144 _ [])) _
        refine XS.iload X263.here hx rfl (hb hby at_144) rfl ?_
        show Steps p.tables e below (T263.setTop (mkF m 146 _ [(.int (0 : Int32))])) _
        refine XS.iload X263.here hx rfl (hb hby at_146) rfl ?_
        show Steps p.tables e below (T263.setTop (mkF m 148 _ [(.int (0 : Int32)), (.int (0 : Int32))])) _
        refine XS.ifYes X263.here hx rfl (pc0 := 148) (pc' := 155) rfl (hb hby at_148) rfl ((if0 _ _).trans (teq (by decide : (0 : Int32) = (0 : Int32))).1) (by decide) (by decide) ?_
        show Steps p.tables e below (T263.setTop (mkF m 155 _ [(.int (0 : Int32))])) _
        refine XS.iconst X263.here hx rfl (hb hby at_155) ?_
        show Steps p.tables e below (T263.setTop (mkF m 156 _ [(.int (1 : Int32)), (.int (0 : Int32))])) _
        refine XS.iadd X263.here hx rfl (hb hby at_156) rfl ?_
        show Steps p.tables e below (T263.setTop (mkF m 157 _ [(.int (1 : Int32))])) _
        refine XS.istore X263.here hx rfl (hb hby at_157) rfl (l' := #[.val (.int p0), .val (.int p1), .val (.int p2), .val (.int p3), .val (.int (3 : Int32)), .val (.int (0 : Int32)), .val (.ref b228), .val (.ref b244), .val (.int (1 : Int32)), .val (.int (1 : Int32))]) rfl ?_
        show Steps p.tables e below (T263.setTop (mkF m 159 #[.val (.int p0), .val (.int p1), .val (.int p2), .val (.int p3), .val (.int (3 : Int32)), .val (.int (0 : Int32)), .val (.ref b228), .val (.ref b244), .val (.int (1 : Int32)), .val (.int (1 : Int32))] [])) _
        refine XS.iload X263.here hx rfl (hb hby at_159) rfl ?_
        show Steps p.tables e below (T263.setTop (mkF m 161 _ [(.int (1 : Int32))])) _
        refine XS.ifNo X263.here hx rfl (hb hby at_161) rfl ((if0 _ _).trans (feq (by decide : ¬ ((1 : Int32) = (0 : Int32)))).1) ?_
        show Steps p.tables e below (T263.setTop (mkF m 164 _ [])) _
        refine XS.aload X263.here hx rfl (hb hby at_164) rfl rfl ?_
        exact ht
      obtain ⟨cq273, kq273, q273a, q273b, q273c⟩ := isOf hZ (rfl : T263.heap = T263.heap) f270
      obtain ⟨_, _, ⟨T272, L272, k272, n272⟩, -, X272, ⟨Lc272, hQ272, l272, y272, z272⟩, st272⟩ := X263.virtualBack hx (y := (⟨"com/example/querant/querant/records/Packing$Reader", "hasMore", "()Z"⟩ : MethodName)) (z := (⟨"com/example/querant/querant/records/Packing$Reader", "hasMore", "()Z"⟩ : MethodName)) hown (mvT hZ (hw _ (List.mem_of_getElem? (i := 14) rfl))) (mvT hZ (hw _ (List.mem_of_getElem? (i := 15) rfl))) (notFace_of_selects (args := #[]) (mvT hZ (hw _ (List.mem_of_getElem? (i := 17) rfl)))) (mvT hZ (hw _ (List.mem_of_getElem? (i := 17) rfl))) (mvT hZ (hw _ (List.mem_of_getElem? (i := 16) rfl))) (by decide) (backOf (W := 0) (rmHm l Z _ hw [] b244 (1 : Int32) (3 : Int32) T263.heap n0 Z271 f267 f266) hZ (hw _ (List.mem_of_getElem? (i := 18) rfl)) (hw _ (List.mem_of_getElem? (i := 3) rfl)) (by decide) (by decide)) q273a q273c (g := (mkF m 166 #[.val (.int p0), .val (.int p1), .val (.int p2), .val (.int p3), .val (.int (3 : Int32)), .val (.int (0 : Int32)), .val (.ref b228), .val (.ref b244), .val (.int (1 : Int32)), .val (.int (1 : Int32))] [(.ref b244)])) rfl (by rw [hml]; rfl) (Steps.refl _) (argsL := []) (rest := []) (lenOf pd_1 rfl) rfl (by show 2 * 0 + _ ≤ _; exact Nat.le_of_eq rfl) (hb hby at_166) (fun _ _ => ⟨rfl, (rfl : T263.heap = T263.heap), (by decide : 2 + 0 ≤ _), (by decide : 6 + 0 ≤ _)⟩)
      dsimp only [Pt.U, Pt.locs, Pt.cells, Pt.slots] at X272 l272 y272 z272 st272 hQ272
      subst l272 y272 z272
      obtain ⟨rfl, Nq272, hs272⟩ := hQ272
      have N274 := Fr.app N268 Nq272
      refine OFin.to (S' := T272.setTop (mkF m 169 #[.val (.int p0), .val (.int p1), .val (.int p2), .val (.int p3), .val (.int (3 : Int32)), .val (.int (0 : Int32)), .val (.ref b228), .val (.ref b244), .val (.int (1 : Int32)), .val (.int (1 : Int32))] [(.int (1 : Int32))])) st272 ?_
      refine OFin.of (S' := T272.setTop (mkF m 200 #[.val (.int p0), .val (.int p1), .val (.int p2), .val (.int p3), .val (.int (3 : Int32)), .val (.int (0 : Int32)), .val (.ref b228), .val (.ref b244), .val (.int (1 : Int32)), .val (.int (1 : Int32))] [(.ref b244)])) (fun t ht => ?_) ?_
      · refine XS.iload X272.here hx rfl (hb hby at_169) rfl ?_
        show Steps p.tables e below (T272.setTop (mkF m 171 _ [(.int (1 : Int32)), (.int (1 : Int32))])) _
        refine XS.iload X272.here hx rfl (hb hby at_171) rfl ?_
        show Steps p.tables e below (T272.setTop (mkF m 173 _ [(.int (3 : Int32)), (.int (1 : Int32)), (.int (1 : Int32))])) _
        refine XS.icmpNo X272.here hx rfl (hb hby at_173) rfl (tlt (by decide : (1 : Int32) < (3 : Int32))).2.1 ?_
        show Steps p.tables e below (T272.setTop (mkF m 176 _ [(.int (1 : Int32))])) _
        refine XS.iconst X272.here hx rfl (hb hby at_176) ?_
        show Steps p.tables e below (T272.setTop (mkF m 177 _ [(.int (1 : Int32)), (.int (1 : Int32))])) _
        refine XS.goto X272.here hx rfl (pc0 := 177) (pc' := 181) rfl (hb hby at_177) (by decide) (by decide) ?_
        show Steps p.tables e below (T272.setTop (mkF m 181 _ [(.int (1 : Int32)), (.int (1 : Int32))])) _
        refine XS.icmpNo X272.here hx rfl (hb hby at_181) rfl (teq (by decide : (1 : Int32) = (1 : Int32))).2 ?_
        show Steps p.tables e below (T272.setTop (mkF m 184 _ [])) _
        refine XS.iconst X272.here hx rfl (hb hby at_184) ?_
        show Steps p.tables e below (T272.setTop (mkF m 185 _ [(.int (1 : Int32))])) _
        refine XS.goto X272.here hx rfl (pc0 := 185) (pc' := 189) rfl (hb hby at_185) (by decide) (by decide) ?_
        show Steps p.tables e below (T272.setTop (mkF m 189 _ [(.int (1 : Int32))])) _
        refine XS.istore X272.here hx rfl (hb hby at_189) rfl (l' := #[.val (.int p0), .val (.int p1), .val (.int p2), .val (.int p3), .val (.int (3 : Int32)), .val (.int (0 : Int32)), .val (.ref b228), .val (.ref b244), .val (.int (1 : Int32)), .val (.int (1 : Int32))]) rfl ?_
        show Steps p.tables e below (T272.setTop (mkF m 191 _ [])) _
        refine XS.iload X272.here hx rfl (hb hby at_191) rfl ?_
        show Steps p.tables e below (T272.setTop (mkF m 193 _ [(.int (1 : Int32))])) _
        refine XS.iload X272.here hx rfl (hb hby at_193) rfl ?_
        show Steps p.tables e below (T272.setTop (mkF m 195 _ [(.int (3 : Int32)), (.int (1 : Int32))])) _
        refine XS.icmpNo X272.here hx rfl (hb hby at_195) rfl (tlt (by decide : (1 : Int32) < (3 : Int32))).2.1 ?_
        show Steps p.tables e below (T272.setTop (mkF m 198 _ [])) _
        refine XS.aload X272.here hx rfl (hb hby at_198) rfl rfl ?_
        exact ht
      obtain ⟨cq276, kq276, q276a, q276b, q276c⟩ := isOf hZ hs272 f270
      obtain ⟨_, _, ⟨T275, L275, k275, n275⟩, -, X275, ⟨Lc275, hQ275, l275, y275, z275⟩, st275⟩ := X272.virtualBack hx (y := (⟨"com/example/querant/querant/records/Packing$Reader", "number", "()J"⟩ : MethodName)) (z := (⟨"com/example/querant/querant/records/Packing$Reader", "number", "()J"⟩ : MethodName)) hown (mvT hZ (hw _ (List.mem_of_getElem? (i := 21) rfl))) (mvT hZ (hw _ (List.mem_of_getElem? (i := 22) rfl))) (notFace_of_selects (args := #[]) (mvT hZ (hw _ (List.mem_of_getElem? (i := 24) rfl)))) (mvT hZ (hw _ (List.mem_of_getElem? (i := 24) rfl))) (mvT hZ (hw _ (List.mem_of_getElem? (i := 23) rfl))) (by decide) (backOf (W := 0) (rmNb1 l Z _ hw [] b244 b228 k228 (3 : Int32) [(.int ((((p1 &&& (127 : Int32)) ||| (0 : Int32)).toInt8.toInt32).toInt8.toInt32)), (.int (((p2 &&& (127 : Int32)).toInt8.toInt32).toInt8.toInt32)), (.int (((p3 &&& (127 : Int32)).toInt8.toInt32).toInt8.toInt32))] (1 : Int32) (((p2 &&& (127 : Int32)).toInt8.toInt32).toInt8.toInt32) T263.heap n0 Z271 f270 f267 f266 f265 f269 g245 ne246 (by decide) (by decide) rfl (own_lo _)) hZ (hw _ (List.mem_of_getElem? (i := 25) rfl)) (hw _ (List.mem_of_getElem? (i := 3) rfl)) (by decide) (by decide)) q276a q276c (g := (mkF m 200 #[.val (.int p0), .val (.int p1), .val (.int p2), .val (.int p3), .val (.int (3 : Int32)), .val (.int (0 : Int32)), .val (.ref b228), .val (.ref b244), .val (.int (1 : Int32)), .val (.int (1 : Int32))] [(.ref b244)])) rfl (by rw [hml]; rfl) (Steps.refl _) (argsL := []) (rest := []) (lenOf pd_2 rfl) rfl (by show 2 * 0 + _ ≤ _; exact Nat.le_of_eq rfl) (hb hby at_200) (fun _ _ => ⟨rfl, hs272, (by decide : 2 + 0 ≤ _), (by decide : 6 + 0 ≤ _)⟩)
      dsimp only [Pt.U, Pt.locs, Pt.cells, Pt.slots] at X275 l275 y275 z275 st275 hQ275
      subst l275 y275 z275
      obtain ⟨rfl, Nq275, Kq275, f277, f278, f279⟩ := hQ275
      have N280 := Fr.app N274 Nq275
      have f281 := (f269.keep Kq275 (ninS ne246 nin0))
      have f282 := (f270.keep Kq275)
      have Z283 : n0 ≤ T275.heap.size := (Nat.le_trans Z271 Kq275.1)
      refine OFin.to (S' := T275.setTop (mkF m 203 #[.val (.int p0), .val (.int p1), .val (.int p2), .val (.int p3), .val (.int (3 : Int32)), .val (.int (0 : Int32)), .val (.ref b228), .val (.ref b244), .val (.int (1 : Int32)), .val (.int (1 : Int32))] [(.long ((0 : Int64) ||| ((((((p2 &&& (127 : Int32)).toInt8.toInt32).toInt8.toInt32) &&& (127 : Int32)).toInt64) <<< ((0 : Int32) &&& 0x3f).toInt64)))])) st275 ?_
      refine OFin.of (S' := T275.setTop (mkF m 214 #[.val (.int p0), .val (.int p1), .val (.int p2), .val (.int p3), .val (.int (3 : Int32)), .val (.int (0 : Int32)), .val (.ref b228), .val (.ref b244), .val (.int (2 : Int32)), .val (.int (1 : Int32))] [(.ref b244)])) (fun t ht => ?_) ?_
      · refine own_pop2L X275.here hx rfl (hb hby at_203) rfl ?_
        show Steps p.tables e below (T275.setTop (mkF m 204 _ [])) _
        refine XS.iinc X275.here hx rfl (hb hby at_204) rfl (l' := #[.val (.int p0), .val (.int p1), .val (.int p2), .val (.int p3), .val (.int (3 : Int32)), .val (.int (0 : Int32)), .val (.ref b228), .val (.ref b244), .val (.int (2 : Int32)), .val (.int (1 : Int32))]) rfl ?_
        show Steps p.tables e below (T275.setTop (mkF m 207 #[.val (.int p0), .val (.int p1), .val (.int p2), .val (.int p3), .val (.int (3 : Int32)), .val (.int (0 : Int32)), .val (.ref b228), .val (.ref b244), .val (.int (2 : Int32)), .val (.int (1 : Int32))] [])) _
        refine XS.iload X275.here hx rfl (hb hby at_207) rfl ?_
        show Steps p.tables e below (T275.setTop (mkF m 209 _ [(.int (1 : Int32))])) _
        refine XS.ifNo X275.here hx rfl (hb hby at_209) rfl ((if0 _ _).trans (feq (by decide : ¬ ((1 : Int32) = (0 : Int32)))).1) ?_
        show Steps p.tables e below (T275.setTop (mkF m 212 _ [])) _
        refine XS.aload X275.here hx rfl (hb hby at_212) rfl rfl ?_
        exact ht
      obtain ⟨cq285, kq285, q285a, q285b, q285c⟩ := isOf hZ (rfl : T275.heap = T275.heap) f282
      obtain ⟨_, _, ⟨T284, L284, k284, n284⟩, -, X284, ⟨Lc284, hQ284, l284, y284, z284⟩, st284⟩ := X275.virtualBack hx (y := (⟨"com/example/querant/querant/records/Packing$Reader", "hasMore", "()Z"⟩ : MethodName)) (z := (⟨"com/example/querant/querant/records/Packing$Reader", "hasMore", "()Z"⟩ : MethodName)) hown (mvT hZ (hw _ (List.mem_of_getElem? (i := 14) rfl))) (mvT hZ (hw _ (List.mem_of_getElem? (i := 15) rfl))) (notFace_of_selects (args := #[]) (mvT hZ (hw _ (List.mem_of_getElem? (i := 17) rfl)))) (mvT hZ (hw _ (List.mem_of_getElem? (i := 17) rfl))) (mvT hZ (hw _ (List.mem_of_getElem? (i := 16) rfl))) (by decide) (backOf (W := 0) (rmHm l Z _ hw [] b244 (2 : Int32) (3 : Int32) T275.heap n0 Z283 f279 f278) hZ (hw _ (List.mem_of_getElem? (i := 18) rfl)) (hw _ (List.mem_of_getElem? (i := 3) rfl)) (by decide) (by decide)) q285a q285c (g := (mkF m 214 #[.val (.int p0), .val (.int p1), .val (.int p2), .val (.int p3), .val (.int (3 : Int32)), .val (.int (0 : Int32)), .val (.ref b228), .val (.ref b244), .val (.int (2 : Int32)), .val (.int (1 : Int32))] [(.ref b244)])) rfl (by rw [hml]; rfl) (Steps.refl _) (argsL := []) (rest := []) (lenOf pd_1 rfl) rfl (by show 2 * 0 + _ ≤ _; exact Nat.le_of_eq rfl) (hb hby at_214) (fun _ _ => ⟨rfl, (rfl : T275.heap = T275.heap), (by decide : 2 + 0 ≤ _), (by decide : 6 + 0 ≤ _)⟩)
      dsimp only [Pt.U, Pt.locs, Pt.cells, Pt.slots] at X284 l284 y284 z284 st284 hQ284
      subst l284 y284 z284
      obtain ⟨rfl, Nq284, hs284⟩ := hQ284
      have N286 := Fr.app N280 Nq284
      refine OFin.to (S' := T284.setTop (mkF m 217 #[.val (.int p0), .val (.int p1), .val (.int p2), .val (.int p3), .val (.int (3 : Int32)), .val (.int (0 : Int32)), .val (.ref b228), .val (.ref b244), .val (.int (2 : Int32)), .val (.int (1 : Int32))] [(.int (1 : Int32))])) st284 ?_
      refine OFin.of (S' := T284.setTop (mkF m 248 #[.val (.int p0), .val (.int p1), .val (.int p2), .val (.int p3), .val (.int (3 : Int32)), .val (.int (0 : Int32)), .val (.ref b228), .val (.ref b244), .val (.int (2 : Int32)), .val (.int (1 : Int32))] [(.ref b244)])) (fun t ht => ?_) ?_
      · refine XS.iload X284.here hx rfl (hb hby at_217) rfl ?_
        show Steps p.tables e below (T284.setTop (mkF m 219 _ [(.int (2 : Int32)), (.int (1 : Int32))])) _
        refine XS.iload X284.here hx rfl (hb hby at_219) rfl ?_
        show Steps p.tables e below (T284.setTop (mkF m 221 _ [(.int (3 : Int32)), (.int (2 : Int32)), (.int (1 : Int32))])) _
        refine XS.icmpNo X284.here hx rfl (hb hby at_221) rfl (tlt (by decide : (2 : Int32) < (3 : Int32))).2.1 ?_
        show Steps p.tables e below (T284.setTop (mkF m 224 _ [(.int (1 : Int32))])) _
        refine XS.iconst X284.here hx rfl (hb hby at_224) ?_
        show Steps p.tables e below (T284.setTop (mkF m 225 _ [(.int (1 : Int32)), (.int (1 : Int32))])) _
        refine XS.goto X284.here hx rfl (pc0 := 225) (pc' := 229) rfl (hb hby at_225) (by decide) (by decide) ?_
        show Steps p.tables e below (T284.setTop (mkF m 229 _ [(.int (1 : Int32)), (.int (1 : Int32))])) _
        refine XS.icmpNo X284.here hx rfl (hb hby at_229) rfl (teq (by decide : (1 : Int32) = (1 : Int32))).2 ?_
        show Steps p.tables e below (T284.setTop (mkF m 232 _ [])) _
        refine XS.iconst X284.here hx rfl (hb hby at_232) ?_
        show Steps p.tables e below (T284.setTop (mkF m 233 _ [(.int (1 : Int32))])) _
        refine XS.goto X284.here hx rfl (pc0 := 233) (pc' := 237) rfl (hb hby at_233) (by decide) (by decide) ?_
        show Steps p.tables e below (T284.setTop (mkF m 237 _ [(.int (1 : Int32))])) _
        refine XS.istore X284.here hx rfl (hb hby at_237) rfl (l' := #[.val (.int p0), .val (.int p1), .val (.int p2), .val (.int p3), .val (.int (3 : Int32)), .val (.int (0 : Int32)), .val (.ref b228), .val (.ref b244), .val (.int (2 : Int32)), .val (.int (1 : Int32))]) rfl ?_
        show Steps p.tables e below (T284.setTop (mkF m 239 _ [])) _
        refine XS.iload X284.here hx rfl (hb hby at_239) rfl ?_
        show Steps p.tables e below (T284.setTop (mkF m 241 _ [(.int (2 : Int32))])) _
        refine XS.iload X284.here hx rfl (hb hby at_241) rfl ?_
        show Steps p.tables e below (T284.setTop (mkF m 243 _ [(.int (3 : Int32)), (.int (2 : Int32))])) _
        refine XS.icmpNo X284.here hx rfl (hb hby at_243) rfl (tlt (by decide : (2 : Int32) < (3 : Int32))).2.1 ?_
        show Steps p.tables e below (T284.setTop (mkF m 246 _ [])) _
        refine XS.aload X284.here hx rfl (hb hby at_246) rfl rfl ?_
        exact ht
      obtain ⟨cq288, kq288, q288a, q288b, q288c⟩ := isOf hZ hs284 f282
      obtain ⟨_, _, ⟨T287, L287, k287, n287⟩, -, X287, ⟨Lc287, hQ287, l287, y287, z287⟩, st287⟩ := X284.virtualBack hx (y := (⟨"com/example/querant/querant/records/Packing$Reader", "number", "()J"⟩ : MethodName)) (z := (⟨"com/example/querant/querant/records/Packing$Reader", "number", "()J"⟩ : MethodName)) hown (mvT hZ (hw _ (List.mem_of_getElem? (i := 21) rfl))) (mvT hZ (hw _ (List.mem_of_getElem? (i := 22) rfl))) (notFace_of_selects (args := #[]) (mvT hZ (hw _ (List.mem_of_getElem? (i := 24) rfl)))) (mvT hZ (hw _ (List.mem_of_getElem? (i := 24) rfl))) (mvT hZ (hw _ (List.mem_of_getElem? (i := 23) rfl))) (by decide) (backOf (W := 0) (rmNb1 l Z _ hw [] b244 b228 k228 (3 : Int32) [(.int ((((p1 &&& (127 : Int32)) ||| (0 : Int32)).toInt8.toInt32).toInt8.toInt32)), (.int (((p2 &&& (127 : Int32)).toInt8.toInt32).toInt8.toInt32)), (.int (((p3 &&& (127 : Int32)).toInt8.toInt32).toInt8.toInt32))] (2 : Int32) (((p3 &&& (127 : Int32)).toInt8.toInt32).toInt8.toInt32) T275.heap n0 Z283 f282 f279 f278 f277 f281 g245 ne246 (by decide) (by decide) rfl (own_lo _)) hZ (hw _ (List.mem_of_getElem? (i := 25) rfl)) (hw _ (List.mem_of_getElem? (i := 3) rfl)) (by decide) (by decide)) q288a q288c (g := (mkF m 248 #[.val (.int p0), .val (.int p1), .val (.int p2), .val (.int p3), .val (.int (3 : Int32)), .val (.int (0 : Int32)), .val (.ref b228), .val (.ref b244), .val (.int (2 : Int32)), .val (.int (1 : Int32))] [(.ref b244)])) rfl (by rw [hml]; rfl) (Steps.refl _) (argsL := []) (rest := []) (lenOf pd_2 rfl) rfl (by show 2 * 0 + _ ≤ _; exact Nat.le_of_eq rfl) (hb hby at_248) (fun _ _ => ⟨rfl, hs284, (by decide : 2 + 0 ≤ _), (by decide : 6 + 0 ≤ _)⟩)
      dsimp only [Pt.U, Pt.locs, Pt.cells, Pt.slots] at X287 l287 y287 z287 st287 hQ287
      subst l287 y287 z287
      obtain ⟨rfl, Nq287, Kq287, f289, f290, f291⟩ := hQ287
      have N292 := Fr.app N286 Nq287
      have f293 := (f281.keep Kq287 (ninS ne246 nin0))
      have f294 := (f282.keep Kq287)
      have Z295 : n0 ≤ T287.heap.size := (Nat.le_trans Z283 Kq287.1)
      refine OFin.to (S' := T287.setTop (mkF m 251 #[.val (.int p0), .val (.int p1), .val (.int p2), .val (.int p3), .val (.int (3 : Int32)), .val (.int (0 : Int32)), .val (.ref b228), .val (.ref b244), .val (.int (2 : Int32)), .val (.int (1 : Int32))] [(.long ((0 : Int64) ||| ((((((p3 &&& (127 : Int32)).toInt8.toInt32).toInt8.toInt32) &&& (127 : Int32)).toInt64) <<< ((0 : Int32) &&& 0x3f).toInt64)))])) st287 ?_
      refine OFin.of (S' := T287.setTop (mkF m 262 #[.val (.int p0), .val (.int p1), .val (.int p2), .val (.int p3), .val (.int (3 : Int32)), .val (.int (0 : Int32)), .val (.ref b228), .val (.ref b244), .val (.int (3 : Int32)), .val (.int (1 : Int32))] [(.ref b244)])) (fun t ht => ?_) ?_
      · refine own_pop2L X287.here hx rfl (hb hby at_251) rfl ?_
        show Steps p.tables e below (T287.setTop (mkF m 252 _ [])) _
        refine XS.iinc X287.here hx rfl (hb hby at_252) rfl (l' := #[.val (.int p0), .val (.int p1), .val (.int p2), .val (.int p3), .val (.int (3 : Int32)), .val (.int (0 : Int32)), .val (.ref b228), .val (.ref b244), .val (.int (3 : Int32)), .val (.int (1 : Int32))]) rfl ?_
        show Steps p.tables e below (T287.setTop (mkF m 255 #[.val (.int p0), .val (.int p1), .val (.int p2), .val (.int p3), .val (.int (3 : Int32)), .val (.int (0 : Int32)), .val (.ref b228), .val (.ref b244), .val (.int (3 : Int32)), .val (.int (1 : Int32))] [])) _
        refine XS.iload X287.here hx rfl (hb hby at_255) rfl ?_
        show Steps p.tables e below (T287.setTop (mkF m 257 _ [(.int (1 : Int32))])) _
        refine XS.ifNo X287.here hx rfl (hb hby at_257) rfl ((if0 _ _).trans (feq (by decide : ¬ ((1 : Int32) = (0 : Int32)))).1) ?_
        show Steps p.tables e below (T287.setTop (mkF m 260 _ [])) _
        refine XS.aload X287.here hx rfl (hb hby at_260) rfl rfl ?_
        exact ht
      obtain ⟨cq297, kq297, q297a, q297b, q297c⟩ := isOf hZ (rfl : T287.heap = T287.heap) f294
      obtain ⟨_, _, ⟨T296, L296, k296, n296⟩, -, X296, ⟨Lc296, hQ296, l296, y296, z296⟩, st296⟩ := X287.virtualBack hx (y := (⟨"com/example/querant/querant/records/Packing$Reader", "hasMore", "()Z"⟩ : MethodName)) (z := (⟨"com/example/querant/querant/records/Packing$Reader", "hasMore", "()Z"⟩ : MethodName)) hown (mvT hZ (hw _ (List.mem_of_getElem? (i := 14) rfl))) (mvT hZ (hw _ (List.mem_of_getElem? (i := 15) rfl))) (notFace_of_selects (args := #[]) (mvT hZ (hw _ (List.mem_of_getElem? (i := 17) rfl)))) (mvT hZ (hw _ (List.mem_of_getElem? (i := 17) rfl))) (mvT hZ (hw _ (List.mem_of_getElem? (i := 16) rfl))) (by decide) (backOf (W := 0) (rmHm l Z _ hw [] b244 (3 : Int32) (3 : Int32) T287.heap n0 Z295 f291 f290) hZ (hw _ (List.mem_of_getElem? (i := 18) rfl)) (hw _ (List.mem_of_getElem? (i := 3) rfl)) (by decide) (by decide)) q297a q297c (g := (mkF m 262 #[.val (.int p0), .val (.int p1), .val (.int p2), .val (.int p3), .val (.int (3 : Int32)), .val (.int (0 : Int32)), .val (.ref b228), .val (.ref b244), .val (.int (3 : Int32)), .val (.int (1 : Int32))] [(.ref b244)])) rfl (by rw [hml]; rfl) (Steps.refl _) (argsL := []) (rest := []) (lenOf pd_1 rfl) rfl (by show 2 * 0 + _ ≤ _; exact Nat.le_of_eq rfl) (hb hby at_262) (fun _ _ => ⟨rfl, (rfl : T287.heap = T287.heap), (by decide : 2 + 0 ≤ _), (by decide : 6 + 0 ≤ _)⟩)
      dsimp only [Pt.U, Pt.locs, Pt.cells, Pt.slots] at X296 l296 y296 z296 st296 hQ296
      subst l296 y296 z296
      obtain ⟨rfl, Nq296, hs296⟩ := hQ296
      have N298 := Fr.app N292 Nq296
      refine OFin.to (S' := T296.setTop (mkF m 265 #[.val (.int p0), .val (.int p1), .val (.int p2), .val (.int p3), .val (.int (3 : Int32)), .val (.int (0 : Int32)), .val (.ref b228), .val (.ref b244), .val (.int (3 : Int32)), .val (.int (1 : Int32))] [(.int (0 : Int32))])) st296 ?_
      refine OFin.of (S' := T296.setTop (mkF m 289 #[.val (.int p0), .val (.int p1), .val (.int p2), .val (.int p3), .val (.int (3 : Int32)), .val (.int (0 : Int32)), .val (.ref b228), .val (.ref b244), .val (.int (3 : Int32)), .val (.int (1 : Int32))] [(.int (1 : Int32))])) (fun t ht => ?_) ?_
      · refine XS.iload X296.here hx rfl (hb hby at_265) rfl ?_
        show Steps p.tables e below (T296.setTop (mkF m 267 _ [(.int (3 : Int32)), (.int (0 : Int32))])) _
        refine XS.iload X296.here hx rfl (hb hby at_267) rfl ?_
        show Steps p.tables e below (T296.setTop (mkF m 269 _ [(.int (3 : Int32)), (.int (3 : Int32)), (.int (0 : Int32))])) _
        refine XS.icmpYes X296.here hx rfl (pc0 := 269) (pc' := 276) rfl (hb hby at_269) rfl (flt (by decide : ¬ ((3 : Int32) < (3 : Int32)))).2.1 (by decide) (by decide) ?_
        show Steps p.tables e below (T296.setTop (mkF m 276 _ [(.int (0 : Int32))])) _
        refine XS.iconst X296.here hx rfl (hb hby at_276) ?_
        show Steps p.tables e below (T296.setTop (mkF m 277 _ [(.int (0 : Int32)), (.int (0 : Int32))])) _
        refine XS.icmpNo X296.here hx rfl (hb hby at_277) rfl (teq (by decide : (0 : Int32) = (0 : Int32))).2 ?_
        show Steps p.tables e below (T296.setTop (mkF m 280 _ [])) _
        refine XS.iconst X296.here hx rfl (hb hby at_280) ?_
        show Steps p.tables e below (T296.setTop (mkF m 281 _ [(.int (1 : Int32))])) _
        refine XS.goto X296.here hx rfl (pc0 := 281) (pc' := 285) rfl (hb hby at_281) (by decide) (by decide) ?_
        show Steps p.tables e below (T296.setTop (mkF m 285 _ [(.int (1 : Int32))])) _
        refine XS.istore X296.here hx rfl (hb hby at_285) rfl (l' := #[.val (.int p0), .val (.int p1), .val (.int p2), .val (.int p3), .val (.int (3 : Int32)), .val (.int (0 : Int32)), .val (.ref b228), .val (.ref b244), .val (.int (3 : Int32)), .val (.int (1 : Int32))]) rfl ?_
        show Steps p.tables e below (T296.setTop (mkF m 287 _ [])) _
        refine XS.iload X296.here hx rfl (hb hby at_287) rfl ?_
        exact ht
      exact OFin.retB X296 hx hlk (t := .boolean) (by simp) hret (hb hby at_289) (by decide) (by decide) (by rw [hs296]; exact ⟨rfl, N298⟩)
    · refine OFin.of (S' := s₁.setTop (mkF m 28 #[.val (.int p0), .val (.int p1), .val (.int p2), .val (.int p3), .val (.int (3 : Int32)), .val (.int (1 : Int32)), .unset, .unset, .unset, .unset] [(.int (3 : Int32))])) (fun t ht => ?_) ?_
      · refine XS.ifNo X0.here hx rfl (hb hby at_10) rfl ((if0 _ _).trans (feq (hc227 : ¬ (((p0 >>> ((2 : Int32) &&& 31)) &&& (1 : Int32)) = (0 : Int32)))).1) ?_
        show Steps p.tables e below (s₁.setTop (mkF m 13 _ [])) _
        refine XS.iload X0.here hx rfl (hb hby at_13) rfl ?_
        show Steps p.tables e below (s₁.setTop (mkF m 15 _ [(.int (3 : Int32))])) _
        refine XS.iconst X0.here hx rfl (hb hby at_15) ?_
        show Steps p.tables e below (s₁.setTop (mkF m 16 _ [(.int (2 : Int32)), (.int (3 : Int32))])) _
        refine XS.icmpNo X0.here hx rfl (hb hby at_16) rfl (flt (by decide : ¬ ((3 : Int32) < (2 : Int32)))).1 ?_
        show Steps p.tables e below (s₁.setTop (mkF m 19 _ [])) _
        refine XS.iconst X0.here hx rfl (hb hby at_19) ?_
        show Steps p.tables e below (s₁.setTop (mkF m 20 _ [(.int (1 : Int32))])) _
        refine XS.goto X0.here hx rfl (pc0 := 20) (pc' := 24) rfl (hb hby at_20) (by decide) (by decide) ?_
        show Steps p.tables e below (s₁.setTop (mkF m 24 _ [(.int (1 : Int32))])) _
        refine XS.istore X0.here hx rfl (hb hby at_24) rfl (l' := #[.val (.int p0), .val (.int p1), .val (.int p2), .val (.int p3), .val (.int (3 : Int32)), .val (.int (1 : Int32)), .unset, .unset, .unset, .unset]) rfl ?_
        show Steps p.tables e below (s₁.setTop (mkF m 26 #[.val (.int p0), .val (.int p1), .val (.int p2), .val (.int p3), .val (.int (3 : Int32)), .val (.int (1 : Int32)), .unset, .unset, .unset, .unset] [])) _
        refine XS.iload X0.here hx rfl (hb hby at_26) rfl ?_
        exact ht
      obtain ⟨T299, h299, k299, X299, e299, E299, A299, st299⟩ := newP X0 hx hZ (hw _ (List.mem_of_getElem? (i := 0) rfl)) e0 (g := (mkF m 28 #[.val (.int p0), .val (.int p1), .val (.int p2), .val (.int p3), .val (.int (3 : Int32)), .val (.int (1 : Int32)), .unset, .unset, .unset, .unset] [(.int (3 : Int32))])) rfl (hb hby at_28) rfl (by decide) (cap := 3) (by decide) (by decide) (by decide) (by decide)
      obtain ⟨b299, gq299⟩ : ∃ z, z = h0.size := ⟨_, rfl⟩
      rw [← gq299] at A299 st299
      have g300 : n0 ≤ b299 := (Nat.le_trans Z0 (Nat.le_of_eq gq299.symm))
      have Z301 : n0 ≤ h299.size := (Nat.le_trans Z0 E299.1)
      have f302 : Arv Z h299 b299 k299 .byte (3 : Int32) [(.int (0 : Int32)), (.int (0 : Int32)), (.int (0 : Int32))] (.int (0 : Int32)) := ((Arv.new A299 (by decide)).pad (pad_rep [] (.int (0 : Int32)) 3))
      refine OFin.of (S' := T299.setTop (mkF m 30 #[.val (.int p0), .val (.int p1), .val (.int p2), .val (.int p3), .val (.int (3 : Int32)), .val (.int (1 : Int32)), .unset, .unset, .unset, .unset] [(.ref b299)])) (fun t ht => st299 t ht) ?_
      refine OFin.of (S' := T299.setTop (mkF m 59 #[.val (.int p0), .val (.int p1), .val (.int p2), .val (.int p3), .val (.int (3 : Int32)), .val (.int (1 : Int32)), .val (.ref b299), .unset, .unset, .unset] [(.int (((p1 &&& (127 : Int32)) ||| (128 : Int32)).toInt8.toInt32)), (.int (0 : Int32)), (.ref b299)])) (fun t ht => ?_) ?_
      · refine XS.astore X299.here hx rfl (hb hby at_30) rfl rfl (l' := #[.val (.int p0), .val (.int p1), .val (.int p2), .val (.int p3), .val (.int (3 : Int32)), .val (.int (1 : Int32)), .val (.ref b299), .unset, .unset, .unset]) rfl ?_
        show Steps p.tables e below (T299.setTop (mkF m 32 #[.val (.int p0), .val (.int p1), .val (.int p2), .val (.int p3), .val (.int (3 : Int32)), .val (.int (1 : Int32)), .val (.ref b299), .unset, .unset, .unset] [])) _
        refine XS.iload X299.here hx rfl (hb hby at_32) rfl ?_
        show Steps p.tables e below (T299.setTop (mkF m 34 _ [(.int (3 : Int32))])) _
        refine XS.iconst X299.here hx rfl (hb hby at_34) ?_
        show Steps p.tables e below (T299.setTop (mkF m 35 _ [(.int (1 : Int32)), (.int (3 : Int32))])) _
        refine XS.icmpNo X299.here hx rfl (hb hby at_35) rfl (flt (by decide : ¬ ((3 : Int32) < (1 : Int32)))).1 ?_
        show Steps p.tables e below (T299.setTop (mkF m 38 _ [])) _
        refine XS.aload X299.here hx rfl (hb hby at_38) rfl rfl ?_
        show Steps p.tables e below (T299.setTop (mkF m 40 _ [(.ref b299)])) _
        refine XS.iconst X299.here hx rfl (hb hby at_40) ?_
        show Steps p.tables e below (T299.setTop (mkF m 41 _ [(.int (0 : Int32)), (.ref b299)])) _
        refine XS.iloadN X299.here hx rfl (hb hby at_41) rfl ?_
        show Steps p.tables e below (T299.setTop (mkF m 42 _ [(.int p1), (.int (0 : Int32)), (.ref b299)])) _
        refine XS.bipush X299.here hx rfl (hb hby at_42) ?_
        show Steps p.tables e below (T299.setTop (mkF m 44 _ [(.int (127 : Int32)), (.int p1), (.int (0 : Int32)), (.ref b299)])) _
        refine XS.iand X299.here hx rfl (hb hby at_44) rfl ?_
        show Steps p.tables e below (T299.setTop (mkF m 45 _ [(.int (p1 &&& (127 : Int32))), (.int (0 : Int32)), (.ref b299)])) _
        refine XS.iload X299.here hx rfl (hb hby at_45) rfl ?_
        show Steps p.tables e below (T299.setTop (mkF m 47 _ [(.int (1 : Int32)), (.int (p1 &&& (127 : Int32))), (.int (0 : Int32)), (.ref b299)])) _
        refine XS.ifNo X299.here hx rfl (hb hby at_47) rfl ((if0 _ _).trans (feq (by decide : ¬ ((1 : Int32) = (0 : Int32)))).1) ?_
        show Steps p.tables e below (T299.setTop (mkF m 50 _ [(.int (p1 &&& (127 : Int32))), (.int (0 : Int32)), (.ref b299)])) _
        refine XS.sipush X299.here hx rfl (hb hby at_50) ?_
        show Steps p.tables e below (T299.setTop (mkF m 53 _ [(.int (128 : Int32)), (.int (p1 &&& (127 : Int32))), (.int (0 : Int32)), (.ref b299)])) _
        refine XS.goto X299.here hx rfl (pc0 := 53) (pc' := 57) rfl (hb hby at_53) (by decide) (by decide) ?_
        show Steps p.tables e below (T299.setTop (mkF m 57 _ [(.int (128 : Int32)), (.int (p1 &&& (127 : Int32))), (.int (0 : Int32)), (.ref b299)])) _
        refine XS.ior X299.here hx rfl (hb hby at_57) rfl ?_
        show Steps p.tables e below (T299.setTop (mkF m 58 _ [(.int ((p1 &&& (127 : Int32)) ||| (128 : Int32))), (.int (0 : Int32)), (.ref b299)])) _
        refine XS.i2b X299.here hx rfl (hb hby at_58) rfl ?_
        exact ht
      obtain ⟨cl303, Ar303, q303, S303, Ng303, H303, G303⟩ := id f302
      have hin303 := inb_of (j := (0 : Int32)) S303 ⟨by decide, by decide⟩
      obtain ⟨T303, h303, X303, e303, W303, st303⟩ := stB X299 hx hZ e299 Ar303 (j := (0 : Int32)) hin303 (g := (mkF m 59 #[.val (.int p0), .val (.int p1), .val (.int p2), .val (.int p3), .val (.int (3 : Int32)), .val (.int (1 : Int32)), .val (.ref b299), .unset, .unset, .unset] [(.int (((p1 &&& (127 : Int32)) ||| (128 : Int32)).toInt8.toInt32)), (.int (0 : Int32)), (.ref b299)])) rfl rfl (hb hby at_59)
      have Z304 : n0 ≤ h303.size := (Nat.le_trans Z301 (Keep.of_wr W303).1)
      have N305 := Fr.snoc X303 N0 g300
      have f306 : Arv Z h303 b299 k299 .byte (3 : Int32) [(.int ((((p1 &&& (127 : Int32)) ||| (128 : Int32)).toInt8.toInt32).toInt8.toInt32)), (.int (0 : Int32)), (.int (0 : Int32))] (.int (0 : Int32)) := Arv.set Ar303 q303 S303 Ng303 H303 G303 (fits_nar_byte _) W303 0 rfl (Nat.le_of_ble_eq_true rfl)
      refine OFin.of (S' := T303.setTop (mkF m 60 #[.val (.int p0), .val (.int p1), .val (.int p2), .val (.int p3), .val (.int (3 : Int32)), .val (.int (1 : Int32)), .val (.ref b299), .unset, .unset, .unset] [])) (fun t ht => st303 t ht) ?_
      refine OFin.of (S' := T303.setTop (mkF m 74 #[.val (.int p0), .val (.int p1), .val (.int p2), .val (.int p3), .val (.int (3 : Int32)), .val (.int (1 : Int32)), .val (.ref b299), .unset, .unset, .unset] [(.int ((p2 &&& (127 : Int32)).toInt8.toInt32)), (.int (1 : Int32)), (.ref b299)])) (fun t ht => ?_) ?_
      · refine XS.iload X303.here hx rfl (hb hby at_60) rfl ?_
        show Steps p.tables e below (T303.setTop (mkF m 62 _ [(.int (3 : Int32))])) _
        refine XS.iconst X303.here hx rfl (hb hby at_62) ?_
        show Steps p.tables e below (T303.setTop (mkF m 63 _ [(.int (2 : Int32)), (.int (3 : Int32))])) _
        refine XS.icmpNo X303.here hx rfl (hb hby at_63) rfl (flt (by decide : ¬ ((3 : Int32) < (2 : Int32)))).1 ?_
        show Steps p.tables e below (T303.setTop (mkF m 66 _ [])) _
        refine XS.aload X303.here hx rfl (hb hby at_66) rfl rfl ?_
        show Steps p.tables e below (T303.setTop (mkF m 68 _ [(.ref b299)])) _
        refine XS.iconst X303.here hx rfl (hb hby at_68) ?_
        show Steps p.tables e below (T303.setTop (mkF m 69 _ [(.int (1 : Int32)), (.ref b299)])) _
        refine XS.iloadN X303.here hx rfl (hb hby at_69) rfl ?_
        show Steps p.tables e below (T303.setTop (mkF m 70 _ [(.int p2), (.int (1 : Int32)), (.ref b299)])) _
        refine XS.bipush X303.here hx rfl (hb hby at_70) ?_
        show Steps p.tables e below (T303.setTop (mkF m 72 _ [(.int (127 : Int32)), (.int p2), (.int (1 : Int32)), (.ref b299)])) _
        refine XS.iand X303.here hx rfl (hb hby at_72) rfl ?_
        show Steps p.tables e below (T303.setTop (mkF m 73 _ [(.int (p2 &&& (127 : Int32))), (.int (1 : Int32)), (.ref b299)])) _
        refine XS.i2b X303.here hx rfl (hb hby at_73) rfl ?_
        exact ht
      obtain ⟨cl307, Ar307, q307, S307, Ng307, H307, G307⟩ := id f306
      have hin307 := inb_of (j := (1 : Int32)) S307 ⟨by decide, by decide⟩
      obtain ⟨T307, h307, X307, e307, W307, st307⟩ := stB X303 hx hZ e303 Ar307 (j := (1 : Int32)) hin307 (g := (mkF m 74 #[.val (.int p0), .val (.int p1), .val (.int p2), .val (.int p3), .val (.int (3 : Int32)), .val (.int (1 : Int32)), .val (.ref b299), .unset, .unset, .unset] [(.int ((p2 &&& (127 : Int32)).toInt8.toInt32)), (.int (1 : Int32)), (.ref b299)])) rfl rfl (hb hby at_74)
      have Z308 : n0 ≤ h307.size := (Nat.le_trans Z304 (Keep.of_wr W307).1)
      have N309 := Fr.snoc X307 N305 g300
      have f310 : Arv Z h307 b299 k299 .byte (3 : Int32) [(.int ((((p1 &&& (127 : Int32)) ||| (128 : Int32)).toInt8.toInt32).toInt8.toInt32)), (.int (((p2 &&& (127 : Int32)).toInt8.toInt32).toInt8.toInt32)), (.int (0 : Int32))] (.int (0 : Int32)) := Arv.set Ar307 q307 S307 Ng307 H307 G307 (fits_nar_byte _) W307 1 rfl (Nat.le_of_ble_eq_true rfl)
      refine OFin.of (S' := T307.setTop (mkF m 75 #[.val (.int p0), .val (.int p1), .val (.int p2), .val (.int p3), .val (.int (3 : Int32)), .val (.int (1 : Int32)), .val (.ref b299), .unset, .unset, .unset] [])) (fun t ht => st307 t ht) ?_
      refine OFin.of (S' := T307.setTop (mkF m 89 #[.val (.int p0), .val (.int p1), .val (.int p2), .val (.int p3), .val (.int (3 : Int32)), .val (.int (1 : Int32)), .val (.ref b299), .unset, .unset, .unset] [(.int ((p3 &&& (127 : Int32)).toInt8.toInt32)), (.int (2 : Int32)), (.ref b299)])) (fun t ht => ?_) ?_
      · refine XS.iload X307.here hx rfl (hb hby at_75) rfl ?_
        show Steps p.tables e below (T307.setTop (mkF m 77 _ [(.int (3 : Int32))])) _
        refine XS.iconst X307.here hx rfl (hb hby at_77) ?_
        show Steps p.tables e below (T307.setTop (mkF m 78 _ [(.int (3 : Int32)), (.int (3 : Int32))])) _
        refine XS.icmpNo X307.here hx rfl (hb hby at_78) rfl (flt (by decide : ¬ ((3 : Int32) < (3 : Int32)))).1 ?_
        show Steps p.tables e below (T307.setTop (mkF m 81 _ [])) _
        refine XS.aload X307.here hx rfl (hb hby at_81) rfl rfl ?_
        show Steps p.tables e below (T307.setTop (mkF m 83 _ [(.ref b299)])) _
        refine XS.iconst X307.here hx rfl (hb hby at_83) ?_
        show Steps p.tables e below (T307.setTop (mkF m 84 _ [(.int (2 : Int32)), (.ref b299)])) _
        refine XS.iloadN X307.here hx rfl (hb hby at_84) rfl ?_
        show Steps p.tables e below (T307.setTop (mkF m 85 _ [(.int p3), (.int (2 : Int32)), (.ref b299)])) _
        refine XS.bipush X307.here hx rfl (hb hby at_85) ?_
        show Steps p.tables e below (T307.setTop (mkF m 87 _ [(.int (127 : Int32)), (.int p3), (.int (2 : Int32)), (.ref b299)])) _
        refine XS.iand X307.here hx rfl (hb hby at_87) rfl ?_
        show Steps p.tables e below (T307.setTop (mkF m 88 _ [(.int (p3 &&& (127 : Int32))), (.int (2 : Int32)), (.ref b299)])) _
        refine XS.i2b X307.here hx rfl (hb hby at_88) rfl ?_
        exact ht
      obtain ⟨cl311, Ar311, q311, S311, Ng311, H311, G311⟩ := id f310
      have hin311 := inb_of (j := (2 : Int32)) S311 ⟨by decide, by decide⟩
      obtain ⟨T311, h311, X311, e311, W311, st311⟩ := stB X307 hx hZ e307 Ar311 (j := (2 : Int32)) hin311 (g := (mkF m 89 #[.val (.int p0), .val (.int p1), .val (.int p2), .val (.int p3), .val (.int (3 : Int32)), .val (.int (1 : Int32)), .val (.ref b299), .unset, .unset, .unset] [(.int ((p3 &&& (127 : Int32)).toInt8.toInt32)), (.int (2 : Int32)), (.ref b299)])) rfl rfl (hb hby at_89)
      have Z312 : n0 ≤ h311.size := (Nat.le_trans Z308 (Keep.of_wr W311).1)
      have N313 := Fr.snoc X311 N309 g300
      have f314 : Arv Z h311 b299 k299 .byte (3 : Int32) [(.int ((((p1 &&& (127 : Int32)) ||| (128 : Int32)).toInt8.toInt32).toInt8.toInt32)), (.int (((p2 &&& (127 : Int32)).toInt8.toInt32).toInt8.toInt32)), (.int (((p3 &&& (127 : Int32)).toInt8.toInt32).toInt8.toInt32))] (.int (0 : Int32)) := Arv.set Ar311 q311 S311 Ng311 H311 G311 (fits_nar_byte _) W311 2 rfl (Nat.le_of_ble_eq_true rfl)
      refine OFin.of (S' := T311.setTop (mkF m 90 #[.val (.int p0), .val (.int p1), .val (.int p2), .val (.int p3), .val (.int (3 : Int32)), .val (.int (1 : Int32)), .val (.ref b299), .unset, .unset, .unset] [])) (fun t ht => st311 t ht) ?_
      obtain ⟨T315, h315, X315, e315, E315, A315, D315, -, st315⟩ := newO X311 hx hZ hown (hw _ (List.mem_of_getElem? (i := 1) rfl)) (hw _ (List.mem_of_getElem? (i := 2) rfl)) (hw _ (List.mem_of_getElem? (i := 3) rfl)) e311 (g := (mkF m 90 #[.val (.int p0), .val (.int p1), .val (.int p2), .val (.int p3), .val (.int (3 : Int32)), .val (.int (1 : Int32)), .val (.ref b299), .unset, .unset, .unset] [])) rfl (hb hby at_90) (by decide) (by decide)
      obtain ⟨b315, gq315⟩ : ∃ z, z = h311.size := ⟨_, rfl⟩
      rw [← gq315] at A315 D315 st315
      have g316 : n0 ≤ b315 := (Nat.le_trans Z312 (Nat.le_of_eq gq315.symm))
      have ne317 : b299 ≠ b315 := (Nat.ne_of_lt (Nat.lt_of_lt_of_le f314.lt (Nat.le_of_eq gq315.symm)))
      have f318 := f314.ext E315
      have Z319 : n0 ≤ h315.size := (Nat.le_trans Z312 E315.1)
      have f320 : Fld Z h315 b315 "com/example/querant/querant/records/Packing$Reader" "bytes" "[B" .null := D315 (Or.inr (hw _ (List.mem_of_getElem? (i := 11) rfl))) (ty := (.array .byte)) (by decide)
      have f321 : Fld Z h315 b315 "com/example/querant/querant/records/Packing$Reader" "end" "I" (.int (0 : Int32)) := D315 (Or.inr (hw _ (List.mem_of_getElem? (i := 13) rfl))) (ty := .int) (by decide)
      have f322 : Fld Z h315 b315 "com/example/querant/querant/records/Packing$Reader" "position" "I" (.int (0 : Int32)) := D315 (Or.inl (hw _ (List.mem_of_getElem? (i := 20) rfl))) (ty := .int) (by decide)
      refine OFin.of (S' := T315.setTop (mkF m 93 #[.val (.int p0), .val (.int p1), .val (.int p2), .val (.int p3), .val (.int (3 : Int32)), .val (.int (1 : Int32)), .val (.ref b299), .unset, .unset, .unset] [(.ref b315)])) (fun t ht => st315 t ht) ?_
      refine OFin.of (S' := T315.setTop (mkF m 96 #[.val (.int p0), .val (.int p1), .val (.int p2), .val (.int p3), .val (.int (3 : Int32)), .val (.int (1 : Int32)), .val (.ref b299), .unset, .unset, .unset] [(.ref b299), (.ref b315), (.ref b315)])) (fun t ht => ?_) ?_
      · refine XS.dup X315.here hx rfl (hb hby at_93) rfl rfl ?_
        show Steps p.tables e below (T315.setTop (mkF m 94 _ [(.ref b315), (.ref b315)])) _
        refine XS.aload X315.here hx rfl (hb hby at_94) rfl rfl ?_
        exact ht
      obtain ⟨_, _, ⟨T323, L323, k323, n323⟩, -, X323, ⟨Lc323, hQ323, l323, y323, z323⟩, st323⟩ := X315.specialBack hx (y := (⟨"com/example/querant/querant/records/Packing$Reader", "<init>", "([B)V"⟩ : MethodName)) rfl hown (mvT hZ (hw _ (List.mem_of_getElem? (i := 4) rfl))) (mvT hZ (hw _ (List.mem_of_getElem? (i := 5) rfl))) (mvT hZ (hw _ (List.mem_of_getElem? (i := 6) rfl))) (by decide) (backOf (W := 1) (rmIni l Z _ hw [] b315 b299 k299 (3 : Int32) [(.int ((((p1 &&& (127 : Int32)) ||| (128 : Int32)).toInt8.toInt32).toInt8.toInt32)), (.int (((p2 &&& (127 : Int32)).toInt8.toInt32).toInt8.toInt32)), (.int (((p3 &&& (127 : Int32)).toInt8.toInt32).toInt8.toInt32))] h315 n0 Z319 A315 f320 f321 f322 f318 g316 ne317) hZ (hw _ (List.mem_of_getElem? (i := 6) rfl)) (hw _ (List.mem_of_getElem? (i := 3) rfl)) (by decide) (by decide)) (g := (mkF m 96 #[.val (.int p0), .val (.int p1), .val (.int p2), .val (.int p3), .val (.int (3 : Int32)), .val (.int (1 : Int32)), .val (.ref b299), .unset, .unset, .unset] [(.ref b299), (.ref b315), (.ref b315)])) rfl (by rw [hml]; rfl) (Steps.refl _) (a := b315) (argsL := [(.ref b299)]) (rest := [(.ref b315)]) (lenOf pd_0 rfl) rfl (by show 2 * 0 + _ ≤ _; exact Nat.le_of_eq rfl) (hb hby at_96) (fun _ _ => ⟨rfl, e315, (by decide : 2 + 0 ≤ _), (by decide : 6 + 0 ≤ _)⟩)
      dsimp only [Pt.U, Pt.locs, Pt.cells, Pt.slots] at X323 l323 y323 z323 st323 hQ323
      subst l323 y323 z323
      obtain ⟨rfl, Nq323, Kq323, f324, f325, f326⟩ := hQ323
      have N327 := Fr.app N313 Nq323
      have f328 := (f318.keep Kq323 (ninS ne317 nin0))
      have f329 := (A315.keep Kq323)
      have Z330 : n0 ≤ T323.heap.size := (Nat.le_trans Z319 Kq323.1)
      refine OFin.to (S' := T323.setTop (mkF m 99 #[.val (.int p0), .val (.int p1), .val (.int p2), .val (.int p3), .val (.int (3 : Int32)), .val (.int (1 : Int32)), .val (.ref b299), .unset, .unset, .unset] [(.ref b315)])) st323 ?_
      refine OFin.of (S' := T323.setTop (mkF m 106 #[.val (.int p0), .val (.int p1), .val (.int p2), .val (.int p3), .val (.int (3 : Int32)), .val (.int (1 : Int32)), .val (.ref b299), .val (.ref b315), .val (.int (0 : Int32)), .unset] [(.ref b315)])) (fun t ht => ?_) ?_
      · refine XS.astore X323.here hx rfl (hb hby at_99) rfl rfl (l' := #[.val (.int p0), .val (.int p1), .val (.int p2), .val (.int p3), .val (.int (3 : Int32)), .val (.int (1 : Int32)), .val (.ref b299), .val (.ref b315), .unset, .unset]) rfl ?_
        show Steps p.tables e below (T323.setTop (mkF m 101 #[.val (.int p0), .val (.int p1), .val (.int p2), .val (.int p3), .val (.int (3 : Int32)), .val (.int (1 : Int32)), .val (.ref b299), .val (.ref b315), .unset, .unset] [])) _
        refine XS.iconst X323.here hx rfl (hb hby at_101) ?_
        show Steps p.tables e below (T323.setTop (mkF m 102 _ [(.int (0 : Int32))])) _
        refine XS.istore X323.here hx rfl (hb hby at_102) rfl (l' := #[.val (.int p0), .val (.int p1), .val (.int p2), .val (.int p3), .val (.int (3 : Int32)), .val (.int (1 : Int32)), .val (.ref b299), .val (.ref b315), .val (.int (0 : Int32)), .unset]) rfl ?_
        show Steps p.tables e below (T323.setTop (mkF m 104 #[.val (.int p0), .val (.int p1), .val (.int p2), .val (.int p3), .val (.int (3 : Int32)), .val (.int (1 : Int32)), .val (.ref b299), .val (.ref b315), .val (.int (0 : Int32)), .unset] [])) _
        refine XS.aload X323.here hx rfl (hb hby at_104) rfl rfl ?_
        exact ht
      obtain ⟨cq332, kq332, q332a, q332b, q332c⟩ := isOf hZ (rfl : T323.heap = T323.heap) f329
      obtain ⟨_, _, ⟨T331, L331, k331, n331⟩, -, X331, ⟨Lc331, hQ331, l331, y331, z331⟩, st331⟩ := X323.virtualBack hx (y := (⟨"com/example/querant/querant/records/Packing$Reader", "hasMore", "()Z"⟩ : MethodName)) (z := (⟨"com/example/querant/querant/records/Packing$Reader", "hasMore", "()Z"⟩ : MethodName)) hown (mvT hZ (hw _ (List.mem_of_getElem? (i := 14) rfl))) (mvT hZ (hw _ (List.mem_of_getElem? (i := 15) rfl))) (notFace_of_selects (args := #[]) (mvT hZ (hw _ (List.mem_of_getElem? (i := 17) rfl)))) (mvT hZ (hw _ (List.mem_of_getElem? (i := 17) rfl))) (mvT hZ (hw _ (List.mem_of_getElem? (i := 16) rfl))) (by decide) (backOf (W := 0) (rmHm l Z _ hw [] b315 (0 : Int32) (3 : Int32) T323.heap n0 Z330 f326 f325) hZ (hw _ (List.mem_of_getElem? (i := 18) rfl)) (hw _ (List.mem_of_getElem? (i := 3) rfl)) (by decide) (by decide)) q332a q332c (g := (mkF m 106 #[.val (.int p0), .val (.int p1), .val (.int p2), .val (.int p3), .val (.int (3 : Int32)), .val (.int (1 : Int32)), .val (.ref b299), .val (.ref b315), .val (.int (0 : Int32)), .unset] [(.ref b315)])) rfl (by rw [hml]; rfl) (Steps.refl _) (argsL := []) (rest := []) (lenOf pd_1 rfl) rfl (by show 2 * 0 + _ ≤ _; exact Nat.le_of_eq rfl) (hb hby at_106) (fun _ _ => ⟨rfl, (rfl : T323.heap = T323.heap), (by decide : 2 + 0 ≤ _), (by decide : 6 + 0 ≤ _)⟩)
      dsimp only [Pt.U, Pt.locs, Pt.cells, Pt.slots] at X331 l331 y331 z331 st331 hQ331
      subst l331 y331 z331
      obtain ⟨rfl, Nq331, hs331⟩ := hQ331
      have N333 := Fr.app N327 Nq331
      refine OFin.to (S' := T331.setTop (mkF m 109 #[.val (.int p0), .val (.int p1), .val (.int p2), .val (.int p3), .val (.int (3 : Int32)), .val (.int (1 : Int32)), .val (.ref b299), .val (.ref b315), .val (.int (0 : Int32)), .unset] [(.int (1 : Int32))])) st331 ?_
      refine OFin.of (S' := T331.setTop (mkF m 140 #[.val (.int p0), .val (.int p1), .val (.int p2), .val (.int p3), .val (.int (3 : Int32)), .val (.int (1 : Int32)), .val (.ref b299), .val (.ref b315), .val (.int (0 : Int32)), .val (.int (1 : Int32))] [(.ref b315)])) (fun t ht => ?_) ?_
      · refine XS.iload X331.here hx rfl (hb hby at_109) rfl ?_
        show Steps p.tables e below (T331.setTop (mkF m 111 _ [(.int (0 : Int32)), (.int (1 : Int32))])) _
        refine XS.iload X331.here hx rfl (hb hby at_111) rfl ?_
        show Steps p.tables e below (T331.setTop (mkF m 113 _ [(.int (3 : Int32)), (.int (0 : Int32)), (.int (1 : Int32))])) _
        refine XS.icmpNo X331.here hx rfl (hb hby at_113) rfl (tlt (by decide : (0 : Int32) < (3 : Int32))).2.1 ?_
        show Steps p.tables e below (T331.setTop (mkF m 116 _ [(.int (1 : Int32))])) _
        refine XS.iconst X331.here hx rfl (hb hby at_116) ?_
        show Steps p.tables e below (T331.setTop (mkF m 117 _ [(.int (1 : Int32)), (.int (1 : Int32))])) _
        refine XS.goto X331.here hx rfl (pc0 := 117) (pc' := 121) rfl (hb hby at_117) (by decide) (by decide) ?_
        show Steps p.tables e below (T331.setTop (mkF m 121 _ [(.int (1 : Int32)), (.int (1 : Int32))])) _
        refine XS.icmpNo X331.here hx rfl (hb hby at_121) rfl (teq (by decide : (1 : Int32) = (1 : Int32))).2 ?_
        show Steps p.tables e below (T331.setTop (mkF m 124 _ [])) _
        refine XS.iconst X331.here hx rfl (hb hby at_124) ?_
        show Steps p.tables e below (T331.setTop (mkF m 125 _ [(.int (1 : Int32))])) _
        refine XS.goto X331.here hx rfl (pc0 := 125) (pc' := 129) rfl (hb hby at_125) (by decide) (by decide) ?_
        show Steps p.tables e below (T331.setTop (mkF m 129 _ [(.int (1 : Int32))])) _
        refine XS.istore X331.here hx rfl (hb hby at_129) rfl (l' := #[.val (.int p0), .val (.int p1), .val (.int p2), .val (.int p3), .val (.int (3 : Int32)), .val (.int (1 : Int32)), .val (.ref b299), .val (.ref b315), .val (.int (0 : Int32)), .val (.int (1 : Int32))]) rfl ?_
        show Steps p.tables e below (T331.setTop (mkF m 131 #[.val (.int p0), .val (.int p1), .val (.int p2), .val (.int p3), .val (.int (3 : Int32)), .val (.int (1 : Int32)), .val (.ref b299), .val (.ref b315), .val (.int (0 : Int32)), .val (.int (1 : Int32))] [])) _
        refine XS.iload X331.here hx rfl (hb hby at_131) rfl ?_
        show Steps p.tables e below (T331.setTop (mkF m 133 _ [(.int (0 : Int32))])) _
        refine XS.iload X331.here hx rfl (hb hby at_133) rfl ?_
        show Steps p.tables e below (T331.setTop (mkF m 135 _ [(.int (3 : Int32)), (.int (0 : Int32))])) _
        refine XS.icmpNo X331.here hx rfl (hb hby at_135) rfl (tlt (by decide : (0 : Int32) < (3 : Int32))).2.1 ?_
        show Steps p.tables e below (T331.setTop (mkF m 138 _ [])) _
        refine XS.aload X331.here hx rfl (hb hby at_138) rfl rfl ?_
        exact ht
      obtain ⟨cq335, kq335, q335a, q335b, q335c⟩ := isOf hZ hs331 f329
      obtain ⟨_, _, ⟨T334, L334, k334, n334⟩, -, X334, ⟨Lc334, hQ334, l334, y334, z334⟩, st334⟩ := X331.virtualBack hx (y := (⟨"com/example/querant/querant/records/Packing$Reader", "number", "()J"⟩ : MethodName)) (z := (⟨"com/example/querant/querant/records/Packing$Reader", "number", "()J"⟩ : MethodName)) hown (mvT hZ (hw _ (List.mem_of_getElem? (i := 21) rfl))) (mvT hZ (hw _ (List.mem_of_getElem? (i := 22) rfl))) (notFace_of_selects (args := #[]) (mvT hZ (hw _ (List.mem_of_getElem? (i := 24) rfl)))) (mvT hZ (hw _ (List.mem_of_getElem? (i := 24) rfl))) (mvT hZ (hw _ (List.mem_of_getElem? (i := 23) rfl))) (by decide) (backOf (W := 0) (rmNb2 l Z _ hw [] b315 b299 k299 (3 : Int32) [(.int ((((p1 &&& (127 : Int32)) ||| (128 : Int32)).toInt8.toInt32).toInt8.toInt32)), (.int (((p2 &&& (127 : Int32)).toInt8.toInt32).toInt8.toInt32)), (.int (((p3 &&& (127 : Int32)).toInt8.toInt32).toInt8.toInt32))] (0 : Int32) ((((p1 &&& (127 : Int32)) ||| (128 : Int32)).toInt8.toInt32).toInt8.toInt32) (((p2 &&& (127 : Int32)).toInt8.toInt32).toInt8.toInt32) T323.heap n0 Z330 f329 f326 f325 f324 f328 g316 ne317 (by decide) (by decide) rfl (own_hi _) (by decide) (by decide) rfl (own_lo _)) hZ (hw _ (List.mem_of_getElem? (i := 25) rfl)) (hw _ (List.mem_of_getElem? (i := 3) rfl)) (by decide) (by decide)) q335a q335c (g := (mkF m 140 #[.val (.int p0), .val (.int p1), .val (.int p2), .val (.int p3), .val (.int (3 : Int32)), .val (.int (1 : Int32)), .val (.ref b299), .val (.ref b315), .val (.int (0 : Int32)), .val (.int (1 : Int32))] [(.ref b315)])) rfl (by rw [hml]; rfl) (Steps.refl _) (argsL := []) (rest := []) (lenOf pd_2 rfl) rfl (by show 2 * 0 + _ ≤ _; exact Nat.le_of_eq rfl) (hb hby at_140) (fun _ _ => ⟨rfl, hs331, (by decide : 2 + 0 ≤ _), (by decide : 6 + 0 ≤ _)⟩)
      dsimp only [Pt.U, Pt.locs, Pt.cells, Pt.slots] at X334 l334 y334 z334 st334 hQ334
      subst l334 y334 z334
      obtain ⟨rfl, Nq334, Kq334, f336, f337, f338⟩ := hQ334
      have N339 := Fr.app N333 Nq334
      have f340 := (f328.keep Kq334 (ninS ne317 nin0))
      have f341 := (f329.keep Kq334)
      have Z342 : n0 ≤ T334.heap.size := (Nat.le_trans Z330 Kq334.1)
      refine OFin.to (S' := T334.setTop (mkF m 143 #[.val (.int p0), .val (.int p1), .val (.int p2), .val (.int p3), .val (.int (3 : Int32)), .val (.int (1 : Int32)), .val (.ref b299), .val (.ref b315), .val (.int (0 : Int32)), .val (.int (1 : Int32))] [(.long (((0 : Int64) ||| (((((((p1 &&& (127 : Int32)) ||| (128 : Int32)).toInt8.toInt32).toInt8.toInt32) &&& (127 : Int32)).toInt64) <<< ((0 : Int32) &&& 0x3f).toInt64)) ||| ((((((p2 &&& (127 : Int32)).toInt8.toInt32).toInt8.toInt32) &&& (127 : Int32)).toInt64) <<< ((7 : Int32) &&& 0x3f).toInt64)))])) st334 ?_
      refine OFin.of (S' := T334.setTop (mkF m 166 #[.val (.int p0), .val (.int p1), .val (.int p2), .val (.int p3), .val (.int (3 : Int32)), .val (.int (1 : Int32)), .val (.ref b299), .val (.ref b315), .val (.int (2 : Int32)), .val (.int (1 : Int32))] [(.ref b315)])) (fun t ht => ?_) ?_
      · refine own_pop2L X334.here hx rfl (hb hby at_143) rfl ?_
        show Steps p.tables e below (T334.setTop (mkF m 144 _ [])) _
        refine XS.iload X334.here hx rfl (hb hby at_144) rfl ?_
        show Steps p.tables e below (T334.setTop (mkF m 146 _ [(.int (0 : Int32))])) _
        refine XS.iload X334.here hx rfl (hb hby at_146) rfl ?_
        show Steps p.tables e below (T334.setTop (mkF m 148 _ [(.int (1 : Int32)), (.int (0 : Int32))])) _
        refine XS.ifNo X334.here hx rfl (hb hby at_148) rfl ((if0 _ _).trans (feq (by decide : ¬ ((1 : Int32) = (0 : Int32)))).1) ?_
        show Steps p.tables e below (T334.setTop (mkF m 151 _ [(.int (0 : Int32))])) _
        refine XS.iconst X334.here hx rfl (hb hby at_151) ?_
        show Steps p.tables e below (T334.setTop (mkF m 152 _ [(.int (2 : Int32)), (.int (0 : Int32))])) _
        refine XS.goto X334.here hx rfl (pc0 := 152) (pc' := 156) rfl (hb hby at_152) (by decide) (by decide) ?_
        show Steps p.tables e below (T334.setTop (mkF m 156 _ [(.int (2 : Int32)), (.int (0 : Int32))])) _
        refine XS.iadd X334.here hx rfl (hb hby at_156) rfl ?_
        show Steps p.tables e below (T334.setTop (mkF m 157 _ [(.int (2 : Int32))])) _
        refine XS.istore X334.here hx rfl (hb hby at_157) rfl (l' := #[.val (.int p0), .val (.int p1), .val (.int p2), .val (.int p3), .val (.int (3 : Int32)), .val (.int (1 : Int32)), .val (.ref b299), .val (.ref b315), .val (.int (2 : Int32)), .val (.int (1 : Int32))]) rfl ?_
        show Steps p.tables e below (T334.setTop (mkF m 159 #[.val (.int p0), .val (.int p1), .val (.int p2), .val (.int p3), .val (.int (3 : Int32)), .val (.int (1 : Int32)), .val (.ref b299), .val (.ref b315), .val (.int (2 : Int32)), .val (.int (1 : Int32))] [])) _
        refine XS.iload X334.here hx rfl (hb hby at_159) rfl ?_
        show Steps p.tables e below (T334.setTop (mkF m 161 _ [(.int (1 : Int32))])) _
        refine XS.ifNo X334.here hx rfl (hb hby at_161) rfl ((if0 _ _).trans (feq (by decide : ¬ ((1 : Int32) = (0 : Int32)))).1) ?_
        show Steps p.tables e below (T334.setTop (mkF m 164 _ [])) _
        refine XS.aload X334.here hx rfl (hb hby at_164) rfl rfl ?_
        exact ht
      obtain ⟨cq344, kq344, q344a, q344b, q344c⟩ := isOf hZ (rfl : T334.heap = T334.heap) f341
      obtain ⟨_, _, ⟨T343, L343, k343, n343⟩, -, X343, ⟨Lc343, hQ343, l343, y343, z343⟩, st343⟩ := X334.virtualBack hx (y := (⟨"com/example/querant/querant/records/Packing$Reader", "hasMore", "()Z"⟩ : MethodName)) (z := (⟨"com/example/querant/querant/records/Packing$Reader", "hasMore", "()Z"⟩ : MethodName)) hown (mvT hZ (hw _ (List.mem_of_getElem? (i := 14) rfl))) (mvT hZ (hw _ (List.mem_of_getElem? (i := 15) rfl))) (notFace_of_selects (args := #[]) (mvT hZ (hw _ (List.mem_of_getElem? (i := 17) rfl)))) (mvT hZ (hw _ (List.mem_of_getElem? (i := 17) rfl))) (mvT hZ (hw _ (List.mem_of_getElem? (i := 16) rfl))) (by decide) (backOf (W := 0) (rmHm l Z _ hw [] b315 (2 : Int32) (3 : Int32) T334.heap n0 Z342 f338 f337) hZ (hw _ (List.mem_of_getElem? (i := 18) rfl)) (hw _ (List.mem_of_getElem? (i := 3) rfl)) (by decide) (by decide)) q344a q344c (g := (mkF m 166 #[.val (.int p0), .val (.int p1), .val (.int p2), .val (.int p3), .val (.int (3 : Int32)), .val (.int (1 : Int32)), .val (.ref b299), .val (.ref b315), .val (.int (2 : Int32)), .val (.int (1 : Int32))] [(.ref b315)])) rfl (by rw [hml]; rfl) (Steps.refl _) (argsL := []) (rest := []) (lenOf pd_1 rfl) rfl (by show 2 * 0 + _ ≤ _; exact Nat.le_of_eq rfl) (hb hby at_166) (fun _ _ => ⟨rfl, (rfl : T334.heap = T334.heap), (by decide : 2 + 0 ≤ _), (by decide : 6 + 0 ≤ _)⟩)
      dsimp only [Pt.U, Pt.locs, Pt.cells, Pt.slots] at X343 l343 y343 z343 st343 hQ343
      subst l343 y343 z343
      obtain ⟨rfl, Nq343, hs343⟩ := hQ343
      have N345 := Fr.app N339 Nq343
      refine OFin.to (S' := T343.setTop (mkF m 169 #[.val (.int p0), .val (.int p1), .val (.int p2), .val (.int p3), .val (.int (3 : Int32)), .val (.int (1 : Int32)), .val (.ref b299), .val (.ref b315), .val (.int (2 : Int32)), .val (.int (1 : Int32))] [(.int (1 : Int32))])) st343 ?_
      refine OFin.of (S' := T343.setTop (mkF m 200 #[.val (.int p0), .val (.int p1), .val (.int p2), .val (.int p3), .val (.int (3 : Int32)), .val (.int (1 : Int32)), .val (.ref b299), .val (.ref b315), .val (.int (2 : Int32)), .val (.int (1 : Int32))] [(.ref b315)])) (fun t ht => ?_) ?_
      · refine XS.iload X343.here hx rfl (hb hby at_169) rfl ?_
        show Steps p.tables e below (T343.setTop (mkF m 171 _ [(.int (2 : Int32)), (.int (1 : Int32))])) _
        refine XS.iload X343.here hx rfl (hb hby at_171) rfl ?_
        show Steps p.tables e below (T343.setTop (mkF m 173 _ [(.int (3 : Int32)), (.int (2 : Int32)), (.int (1 : Int32))])) _
        refine XS.icmpNo X343.here hx rfl (hb hby at_173) rfl (tlt (by decide : (2 : Int32) < (3 : Int32))).2.1 ?_
        show Steps p.tables e below (T343.setTop (mkF m 176 _ [(.int (1 : Int32))])) _
        refine XS.iconst X343.here hx rfl (hb hby at_176) ?_
        show Steps p.tables e below (T343.setTop (mkF m 177 _ [(.int (1 : Int32)), (.int (1 : Int32))])) _
        refine XS.goto X343.here hx rfl (pc0 := 177) (pc' := 181) rfl (hb hby at_177) (by decide) (by decide) ?_
        show Steps p.tables e below (T343.setTop (mkF m 181 _ [(.int (1 : Int32)), (.int (1 : Int32))])) _
        refine XS.icmpNo X343.here hx rfl (hb hby at_181) rfl (teq (by decide : (1 : Int32) = (1 : Int32))).2 ?_
        show Steps p.tables e below (T343.setTop (mkF m 184 _ [])) _
        refine XS.iconst X343.here hx rfl (hb hby at_184) ?_
        show Steps p.tables e below (T343.setTop (mkF m 185 _ [(.int (1 : Int32))])) _
        refine XS.goto X343.here hx rfl (pc0 := 185) (pc' := 189) rfl (hb hby at_185) (by decide) (by decide) ?_
        show Steps p.tables e below (T343.setTop (mkF m 189 _ [(.int (1 : Int32))])) _
        refine XS.istore X343.here hx rfl (hb hby at_189) rfl (l' := #[.val (.int p0), .val (.int p1), .val (.int p2), .val (.int p3), .val (.int (3 : Int32)), .val (.int (1 : Int32)), .val (.ref b299), .val (.ref b315), .val (.int (2 : Int32)), .val (.int (1 : Int32))]) rfl ?_
        show Steps p.tables e below (T343.setTop (mkF m 191 _ [])) _
        refine XS.iload X343.here hx rfl (hb hby at_191) rfl ?_
        show Steps p.tables e below (T343.setTop (mkF m 193 _ [(.int (2 : Int32))])) _
        refine XS.iload X343.here hx rfl (hb hby at_193) rfl ?_
        show Steps p.tables e below (T343.setTop (mkF m 195 _ [(.int (3 : Int32)), (.int (2 : Int32))])) _
        refine XS.icmpNo X343.here hx rfl (hb hby at_195) rfl (tlt (by decide : (2 : Int32) < (3 : Int32))).2.1 ?_
        show Steps p.tables e below (T343.setTop (mkF m 198 _ [])) _
        refine XS.aload X343.here hx rfl (hb hby at_198) rfl rfl ?_
        exact ht
      obtain ⟨cq347, kq347, q347a, q347b, q347c⟩ := isOf hZ hs343 f341
      obtain ⟨_, _, ⟨T346, L346, k346, n346⟩, -, X346, ⟨Lc346, hQ346, l346, y346, z346⟩, st346⟩ := X343.virtualBack hx (y := (⟨"com/example/querant/querant/records/Packing$Reader", "number", "()J"⟩ : MethodName)) (z := (⟨"com/example/querant/querant/records/Packing$Reader", "number", "()J"⟩ : MethodName)) hown (mvT hZ (hw _ (List.mem_of_getElem? (i := 21) rfl))) (mvT hZ (hw _ (List.mem_of_getElem? (i := 22) rfl))) (notFace_of_selects (args := #[]) (mvT hZ (hw _ (List.mem_of_getElem? (i := 24) rfl)))) (mvT hZ (hw _ (List.mem_of_getElem? (i := 24) rfl))) (mvT hZ (hw _ (List.mem_of_getElem? (i := 23) rfl))) (by decide) (backOf (W := 0) (rmNb1 l Z _ hw [] b315 b299 k299 (3 : Int32) [(.int ((((p1 &&& (127 : Int32)) ||| (128 : Int32)).toInt8.toInt32).toInt8.toInt32)), (.int (((p2 &&& (127 : Int32)).toInt8.toInt32).toInt8.toInt32)), (.int (((p3 &&& (127 : Int32)).toInt8.toInt32).toInt8.toInt32))] (2 : Int32) (((p3 &&& (127 : Int32)).toInt8.toInt32).toInt8.toInt32) T334.heap n0 Z342 f341 f338 f337 f336 f340 g316 ne317 (by decide) (by decide) rfl (own_lo _)) hZ (hw _ (List.mem_of_getElem? (i := 25) rfl)) (hw _ (List.mem_of_getElem? (i := 3) rfl)) (by decide) (by decide)) q347a q347c (g := (mkF m 200 #[.val (.int p0), .val (.int p1), .val (.int p2), .val (.int p3), .val (.int (3 : Int32)), .val (.int (1 : Int32)), .val (.ref b299), .val (.ref b315), .val (.int (2 : Int32)), .val (.int (1 : Int32))] [(.ref b315)])) rfl (by rw [hml]; rfl) (Steps.refl _) (argsL := []) (rest := []) (lenOf pd_2 rfl) rfl (by show 2 * 0 + _ ≤ _; exact Nat.le_of_eq rfl) (hb hby at_200) (fun _ _ => ⟨rfl, hs343, (by decide : 2 + 0 ≤ _), (by decide : 6 + 0 ≤ _)⟩)
      dsimp only [Pt.U, Pt.locs, Pt.cells, Pt.slots] at X346 l346 y346 z346 st346 hQ346
      subst l346 y346 z346
      obtain ⟨rfl, Nq346, Kq346, f348, f349, f350⟩ := hQ346
      have N351 := Fr.app N345 Nq346
      have f352 := (f340.keep Kq346 (ninS ne317 nin0))
      have f353 := (f341.keep Kq346)
      have Z354 : n0 ≤ T346.heap.size := (Nat.le_trans Z342 Kq346.1)
      refine OFin.to (S' := T346.setTop (mkF m 203 #[.val (.int p0), .val (.int p1), .val (.int p2), .val (.int p3), .val (.int (3 : Int32)), .val (.int (1 : Int32)), .val (.ref b299), .val (.ref b315), .val (.int (2 : Int32)), .val (.int (1 : Int32))] [(.long ((0 : Int64) ||| ((((((p3 &&& (127 : Int32)).toInt8.toInt32).toInt8.toInt32) &&& (127 : Int32)).toInt64) <<< ((0 : Int32) &&& 0x3f).toInt64)))])) st346 ?_
      refine OFin.of (S' := T346.setTop (mkF m 214 #[.val (.int p0), .val (.int p1), .val (.int p2), .val (.int p3), .val (.int (3 : Int32)), .val (.int (1 : Int32)), .val (.ref b299), .val (.ref b315), .val (.int (3 : Int32)), .val (.int (1 : Int32))] [(.ref b315)])) (fun t ht => ?_) ?_
      · refine own_pop2L X346.here hx rfl (hb hby at_203) rfl ?_
        show Steps p.tables e below (T346.setTop (mkF m 204 _ [])) _
        refine XS.iinc X346.here hx rfl (hb hby at_204) rfl (l' := #[.val (.int p0), .val (.int p1), .val (.int p2), .val (.int p3), .val (.int (3 : Int32)), .val (.int (1 : Int32)), .val (.ref b299), .val (.ref b315), .val (.int (3 : Int32)), .val (.int (1 : Int32))]) rfl ?_
        show Steps p.tables e below (T346.setTop (mkF m 207 #[.val (.int p0), .val (.int p1), .val (.int p2), .val (.int p3), .val (.int (3 : Int32)), .val (.int (1 : Int32)), .val (.ref b299), .val (.ref b315), .val (.int (3 : Int32)), .val (.int (1 : Int32))] [])) _
        refine XS.iload X346.here hx rfl (hb hby at_207) rfl ?_
        show Steps p.tables e below (T346.setTop (mkF m 209 _ [(.int (1 : Int32))])) _
        refine XS.ifNo X346.here hx rfl (hb hby at_209) rfl ((if0 _ _).trans (feq (by decide : ¬ ((1 : Int32) = (0 : Int32)))).1) ?_
        show Steps p.tables e below (T346.setTop (mkF m 212 _ [])) _
        refine XS.aload X346.here hx rfl (hb hby at_212) rfl rfl ?_
        exact ht
      obtain ⟨cq356, kq356, q356a, q356b, q356c⟩ := isOf hZ (rfl : T346.heap = T346.heap) f353
      obtain ⟨_, _, ⟨T355, L355, k355, n355⟩, -, X355, ⟨Lc355, hQ355, l355, y355, z355⟩, st355⟩ := X346.virtualBack hx (y := (⟨"com/example/querant/querant/records/Packing$Reader", "hasMore", "()Z"⟩ : MethodName)) (z := (⟨"com/example/querant/querant/records/Packing$Reader", "hasMore", "()Z"⟩ : MethodName)) hown (mvT hZ (hw _ (List.mem_of_getElem? (i := 14) rfl))) (mvT hZ (hw _ (List.mem_of_getElem? (i := 15) rfl))) (notFace_of_selects (args := #[]) (mvT hZ (hw _ (List.mem_of_getElem? (i := 17) rfl)))) (mvT hZ (hw _ (List.mem_of_getElem? (i := 17) rfl))) (mvT hZ (hw _ (List.mem_of_getElem? (i := 16) rfl))) (by decide) (backOf (W := 0) (rmHm l Z _ hw [] b315 (3 : Int32) (3 : Int32) T346.heap n0 Z354 f350 f349) hZ (hw _ (List.mem_of_getElem? (i := 18) rfl)) (hw _ (List.mem_of_getElem? (i := 3) rfl)) (by decide) (by decide)) q356a q356c (g := (mkF m 214 #[.val (.int p0), .val (.int p1), .val (.int p2), .val (.int p3), .val (.int (3 : Int32)), .val (.int (1 : Int32)), .val (.ref b299), .val (.ref b315), .val (.int (3 : Int32)), .val (.int (1 : Int32))] [(.ref b315)])) rfl (by rw [hml]; rfl) (Steps.refl _) (argsL := []) (rest := []) (lenOf pd_1 rfl) rfl (by show 2 * 0 + _ ≤ _; exact Nat.le_of_eq rfl) (hb hby at_214) (fun _ _ => ⟨rfl, (rfl : T346.heap = T346.heap), (by decide : 2 + 0 ≤ _), (by decide : 6 + 0 ≤ _)⟩)
      dsimp only [Pt.U, Pt.locs, Pt.cells, Pt.slots] at X355 l355 y355 z355 st355 hQ355
      subst l355 y355 z355
      obtain ⟨rfl, Nq355, hs355⟩ := hQ355
      have N357 := Fr.app N351 Nq355
      refine OFin.to (S' := T355.setTop (mkF m 217 #[.val (.int p0), .val (.int p1), .val (.int p2), .val (.int p3), .val (.int (3 : Int32)), .val (.int (1 : Int32)), .val (.ref b299), .val (.ref b315), .val (.int (3 : Int32)), .val (.int (1 : Int32))] [(.int (0 : Int32))])) st355 ?_
      refine OFin.of (S' := T355.setTop (mkF m 289 #[.val (.int p0), .val (.int p1), .val (.int p2), .val (.int p3), .val (.int (3 : Int32)), .val (.int (1 : Int32)), .val (.ref b299), .val (.ref b315), .val (.int (3 : Int32)), .val (.int (1 : Int32))] [(.int (1 : Int32))])) (fun t ht => ?_) ?_
      · refine XS.iload X355.here hx rfl (hb hby at_217) rfl ?_
        show Steps p.tables e below (T355.setTop (mkF m 219 _ [(.int (3 : Int32)), (.int (0 : Int32))])) _
        refine XS.iload X355.here hx rfl (hb hby at_219) rfl ?_
        show Steps p.tables e below (T355.setTop (mkF m 221 _ [(.int (3 : Int32)), (.int (3 : Int32)), (.int (0 : Int32))])) _
        refine XS.icmpYes X355.here hx rfl (pc0 := 221) (pc' := 228) rfl (hb hby at_221) rfl (flt (by decide : ¬ ((3 : Int32) < (3 : Int32)))).2.1 (by decide) (by decide) ?_
        show Steps p.tables e below (T355.setTop (mkF m 228 _ [(.int (0 : Int32))])) _
        refine XS.iconst X355.here hx rfl (hb hby at_228) ?_
        show Steps p.tables e below (T355.setTop (mkF m 229 _ [(.int (0 : Int32)), (.int (0 : Int32))])) _
        refine XS.icmpNo X355.here hx rfl (hb hby at_229) rfl (teq (by decide : (0 : Int32) = (0 : Int32))).2 ?_
        show Steps p.tables e below (T355.setTop (mkF m 232 _ [])) _
        refine XS.iconst X355.here hx rfl (hb hby at_232) ?_
        show Steps p.tables e below (T355.setTop (mkF m 233 _ [(.int (1 : Int32))])) _
        refine XS.goto X355.here hx rfl (pc0 := 233) (pc' := 237) rfl (hb hby at_233) (by decide) (by decide) ?_
        show Steps p.tables e below (T355.setTop (mkF m 237 _ [(.int (1 : Int32))])) _
        refine XS.istore X355.here hx rfl (hb hby at_237) rfl (l' := #[.val (.int p0), .val (.int p1), .val (.int p2), .val (.int p3), .val (.int (3 : Int32)), .val (.int (1 : Int32)), .val (.ref b299), .val (.ref b315), .val (.int (3 : Int32)), .val (.int (1 : Int32))]) rfl ?_
        show Steps p.tables e below (T355.setTop (mkF m 239 _ [])) _
        refine XS.iload X355.here hx rfl (hb hby at_239) rfl ?_
        show Steps p.tables e below (T355.setTop (mkF m 241 _ [(.int (3 : Int32))])) _
        refine XS.iload X355.here hx rfl (hb hby at_241) rfl ?_
        show Steps p.tables e below (T355.setTop (mkF m 243 _ [(.int (3 : Int32)), (.int (3 : Int32))])) _
        refine XS.icmpYes X355.here hx rfl (pc0 := 243) (pc' := 287) rfl (hb hby at_243) rfl (flt (by decide : ¬ ((3 : Int32) < (3 : Int32)))).2.1 (by decide) (by decide) ?_
        show Steps p.tables e below (T355.setTop (mkF m 287 _ [])) _
        refine XS.iload X355.here hx rfl (hb hby at_287) rfl ?_
        exact ht
      exact OFin.retB X355 hx hlk (t := .boolean) (by simp) hret (hb hby at_289) (by decide) (by decide) (by rw [hs355]; exact ⟨rfl, N357⟩)
set_option maxRecDepth 65536 in
set_option maxHeartbeats 40000000 in
theorem comes_1 {Post : Tables → Env → Array Value → State → Outcome → State → Prop} (hpost : ∀ tb e args s v u, (limb_1_1.after args s (.returned v) u = true ∧ limb_1_2.after args s (.returned v) u = true ∧ True) → FrameEnd s (.returned v) u (Jvm.fieldLocs frame_1_writes args s ++ Jvm.arrayLocs frame_1_arrays args s ++ Jvm.staticLocs frame_1_statics s) 16 128 → Post tb e args s (.returned v) u) :
    ArmFor flags0 classFile x code maxLocals ret World_1 tables_1 room_1 Calls_1 rest_1 Pre_1 Post := by
  intro l hfl _ _ p e ha hc hk s m args below hf hA hF happ hP
  obtain ⟨hcalls, hrest, hpre⟩ := hP
  obtain ⟨-, -, -, hnamed, -, -, -, hat⟩ := (Spec.applies_iff hf).mp happ
  obtain ⟨hg, hn⟩ := and_e (Cond.before_iff.mp (show (Jvm.Cond.and given_1 narrow_1).before args s = true from hpre))
  obtain ⟨gg0, hg0⟩ := and_e hg
  obtain ⟨gg1, hg1⟩ := and_e hg0
  obtain ⟨gg2, hg2⟩ := and_e hg1
  obtain ⟨gg3, hg3⟩ := and_e hg2
  obtain ⟨w0, w1, w2, w3, rfl⟩ : ∃ w0 w1 w2 w3 : Value, args = #[w0, w1, w2, w3] := by
    have hs : args.size = 4 := by simpa [Cond.value, given_1] using gg0
    obtain ⟨L⟩ := args
    match L, hs with
    | [w0, w1, w2, w3], _ => exact ⟨w0, w1, w2, w3, rfl⟩
  have hw := fun d (hd : d ∈ tables_1) => atoms_spec (ws := Jvm.Cond.code x code maxLocals ret :: tables_1) hat d (List.mem_cons_of_mem _ hd)
  have hfit : Fit s := fun {y c} hc i hi => by
    obtain ⟨ha, rfl⟩ := Array.getElem?_eq_some_iff.mp hc
    have q := List.all_eq_true.mp ((Array.all_eq_true_iff_forall_mem.mp hF) _ (Array.getElem_mem ha)) i (List.mem_range.mpr hi)
    simpa [Array.getElem?_eq_getElem hi] using q
  obtain ⟨i0, ei0⟩ := is_v gg1
  obtain rfl : w0 = (.int i0) := Option.some.inj ei0
  obtain ⟨i1, ei1⟩ := is_v gg2
  obtain rfl : w1 = (.int i1) := Option.some.inj ei1
  obtain ⟨i2, ei2⟩ := is_v gg3
  obtain rfl : w2 = (.int i2) := Option.some.inj ei2
  obtain ⟨i3, ei3⟩ := is_v hg3
  obtain rfl : w3 = (.int i3) := Option.some.inj ei3

  obtain ⟨n, o, h1, h2, h3, _, L, rfl, ⟨rfl, N⟩, hq⟩ := rm0 l s _ hw tables_1 i0 i1 i2 i3  s.heap s.heap.size (Nat.le_refl _)  p e ha hc hk s m _ below hf ((Spec.applies_iff_loose hf).mp happ).1 ⟨rfl, State.Warmed39.refl s, rfl⟩ trivial
  refine ⟨n, _, h1, h2, h3, hpost _ _ _ _ _ _ ⟨Cond.after_iff.mpr rfl, Cond.after_iff.mpr (eq_i res_at (Term.int_eval (1)) rfl), trivial⟩ ⟨hq.1, hq.2.1, (hq.2.2.sift fun y hy => Or.inr (N y hy)).mono (by decide) (by decide)⟩⟩
theorem main_1_1 : Claimed_1_1 := comes_1 fun _ _ _ _ _ _ h hF => ⟨h.1, hF⟩
theorem main_1_2 : Claimed_1_2 := comes_1 fun _ _ _ _ _ _ h hF => ⟨h.2.1, hF⟩
end Jvm.Pilot.@@N@@
namespace Jvm.Pilot.@@N@@
open Jvm Jvm.ClassFile Sem Op Lib Jvm.Free Jvm.Stand Jvm.Pilot.@@N@@.Jvm.D
/-! MADE BY PROGRAM (witnessworld.py) out of the Statement's table words and the real class files: 9 classes; the members and pool entries that the words name. The judged class is class 1, her method 1. -/
namespace start1
open Jvm.ClassFile
def u (s : String) : CpInfo := .utf8 (stringToUtf16 s)
/-- a pool by its gaps: so many unusable entries, then the entry; so many at the end -/
def gap : Nat → List CpInfo → List CpInfo
  | 0, r => r
  | n + 1, r => .unusable :: gap n r
def poolList (es : List (Nat × CpInfo)) (last : Nat) : List CpInfo := es.foldr (fun e r => gap e.1 (e.2 :: r)) (gap last [])
def pool (es : List (Nat × CpInfo)) (last : Nat) : Array CpInfo := ⟨poolList es last⟩
def fileOf (pool : Array CpInfo) (this : Nat) (attrs : Array Attribute := #[]) (ms : Array MethodInfo := #[]) (fl : Nat := 33) (sup : Nat := 0) (ifs : Array Nat := #[]) (fds : Array FieldInfo := #[]) : ClassFile where
  minorVersion := 0
  majorVersion := 65
  constantPool := pool
  accessFlags := fl
  thisClass := this
  superClass := sup
  interfaces := ifs
  fields := fds
  methods := ms
  attributes := attrs
def plain (name : String) (sup : Option ClassId) : Class where
  name := name
  kind := .ordinary
  loader := none
  accessFlags := 33
  super := sup
  interfaces := #[]
  cf := none
  fields := #[]
  methods := #[]
  instanceTypes := #[]
  staticTypes := #[]
  resolved := #[]
  callSites := []
  init := .initialized
  statics := none
  mirror := none

def pool0 : Array CpInfo := pool [(5, u "<init>"), (0, u "()V"), (1, .class_ 10), (1, u "java/lang/Object")] 113

def k0c0 : Code := { maxStack := 0, maxLocals := 1, code := object_method_1_code, exceptionTable := #[], attributes := #[] }
def k0m0 : Method := { name := "<init>", desc := "()V", sig := { parameters := [], returnType := none }, accessFlags := 1, code := some k0c0 }
/-- java/lang/Object -/
def k0 : Class := { plain "java/lang/Object" none with
  accessFlags := 33
  interfaces := #[]
  cf := some (fileOf pool0 8 #[] #[{ accessFlags := 1, nameIndex := 5, descriptorIndex := 6, attributes := #[] }] 33 0 #[] #[])
  fields := #[]
  methods := #[k0m0]
  instanceTypes := #[]
  staticTypes := #[]
  resolved := Array.replicate 124 none
  statics := none }

def pool1 : Array CpInfo := pool [(2, .class_ 4), (1, u "java/lang/Object"), (0, u "<init>"), (0, u "()V"), (0, .class_ 8), (0, u "com/example/querant/querant/records/Packing$Reader"), (0, .methodref 7 10), (0, .nameAndType 5 11), (0, u "([B)V"), (0, .methodref 7 13), (0, .nameAndType 14 15), (0, u "hasMore"), (0, u "()Z"), (0, .methodref 7 17), (0, .nameAndType 18 19), (0, u "number"), (0, u "()J"), (0, .class_ 21), (0, u "com/example/querant/querant/records/ReaderHasMorePinLaw"), (2, u "law"), (0, u "(IIII)Z")] 9

def k1m0 : Method := { name := "<init>", desc := "()V", sig := { parameters := [], returnType := none }, accessFlags := 1, code := none }
def k1c1 : Code := { maxStack := 4, maxLocals := 10, code := code, exceptionTable := #[], attributes := #[] }
def k1m1 : Method := { name := "law", desc := "(IIII)Z", sig := { parameters := [.int, .int, .int, .int], returnType := some .boolean }, accessFlags := 9, code := some k1c1 }
/-- com/example/querant/querant/records/ReaderHasMorePinLaw -/
def k1 : Class := { plain "com/example/querant/querant/records/ReaderHasMorePinLaw" (some 0) with
  accessFlags := 49
  interfaces := #[]
  cf := some (fileOf pool1 20 #[] #[{ accessFlags := 1, nameIndex := 5, descriptorIndex := 6, attributes := #[] }, { accessFlags := 9, nameIndex := 24, descriptorIndex := 25, attributes := #[] }] 49 2 #[] #[])
  fields := #[]
  methods := #[k1m0, k1m1]
  instanceTypes := #[]
  staticTypes := #[]
  resolved := Array.replicate 35 none
  statics := none }

def pool2 : Array CpInfo := pool [(1, .class_ 2), (0, u "com/example/querant/querant/records/Packing"), (0, .methodref 4 5), (0, .class_ 6), (0, .nameAndType 7 8), (0, u "java/lang/Object"), (0, u "<init>"), (0, u "()V"), (0, .fieldref 10 11), (0, .class_ 12), (0, .nameAndType 13 14), (0, u "com/example/querant/querant/records/Packing$Reader"), (0, u "bytes"), (0, u "[B"), (0, .fieldref 10 16), (0, .nameAndType 17 18), (0, u "end"), (0, u "I"), (12, u "position"), (0, .fieldref 10 33), (0, .nameAndType 31 18), (34, u "number"), (0, u "()J"), (1, u "([B)V"), (3, u "hasMore"), (0, u "()Z")] 24

def k2c0 : Code := { maxStack := 2, maxLocals := 2, code := prog_64_method_1_code, exceptionTable := #[], attributes := #[] }
def k2m0 : Method := { name := "<init>", desc := "([B)V", sig := { parameters := [(.array .byte)], returnType := none }, accessFlags := 1, code := some k2c0 }
def k2c1 : Code := { maxStack := 2, maxLocals := 1, code := prog_64_method_3_code, exceptionTable := #[], attributes := #[] }
def k2m1 : Method := { name := "hasMore", desc := "()Z", sig := { parameters := [], returnType := some .boolean }, accessFlags := 1, code := some k2c1 }
def k2c2 : Code := { maxStack := 5, maxLocals := 5, code := prog_64_method_4_code, exceptionTable := #[], attributes := #[] }
def k2m2 : Method := { name := "number", desc := "()J", sig := { parameters := [], returnType := some .long }, accessFlags := 1, code := some k2c2 }
/-- com/example/querant/querant/records/Packing$Reader -/
def k2 : Class := { plain "com/example/querant/querant/records/Packing$Reader" (some 0) with
  accessFlags := 49
  interfaces := #[]
  cf := some (fileOf pool2 10 #[.nestHost 1] #[{ accessFlags := 1, nameIndex := 7, descriptorIndex := 71, attributes := #[] }, { accessFlags := 1, nameIndex := 75, descriptorIndex := 76, attributes := #[] }, { accessFlags := 1, nameIndex := 68, descriptorIndex := 69, attributes := #[] }] 49 4 #[] #[{ accessFlags := 18, nameIndex := 13, descriptorIndex := 14, attributes := #[] }, { accessFlags := 2, nameIndex := 31, descriptorIndex := 18, attributes := #[] }, { accessFlags := 18, nameIndex := 17, descriptorIndex := 18, attributes := #[] }])
  fields := #[{ name := "bytes", type := (.array .byte), accessFlags := 18, slot := 0, constantValue := 0 }, { name := "position", type := .int, accessFlags := 2, slot := 1, constantValue := 0 }, { name := "end", type := .int, accessFlags := 18, slot := 2, constantValue := 0 }]
  methods := #[k2m0, k2m1, k2m2]
  instanceTypes := #[(.array .byte), .int, .int]
  staticTypes := #[]
  resolved := Array.replicate 101 none
  statics := none }

def pool3 : Array CpInfo := pool [(1, u "java/lang/Cloneable"), (0, .class_ 1), (0, u "java/lang/Object"), (0, .class_ 3)] 3

/-- java/lang/Cloneable -/
def k3 : Class := { plain "java/lang/Cloneable" (some 0) with
  accessFlags := 1537
  interfaces := #[]
  cf := some (fileOf pool3 2 #[] #[] 1537 4 #[] #[])
  fields := #[]
  methods := #[]
  instanceTypes := #[]
  staticTypes := #[]
  resolved := Array.replicate 8 none
  statics := none }

def pool4 : Array CpInfo := pool [(1, u "java/io/Serializable"), (0, .class_ 1), (0, u "java/lang/Object"), (0, .class_ 3)] 3

/-- java/io/Serializable -/
def k4 : Class := { plain "java/io/Serializable" (some 0) with
  accessFlags := 1537
  interfaces := #[]
  cf := some (fileOf pool4 2 #[] #[] 1537 4 #[] #[])
  fields := #[]
  methods := #[]
  instanceTypes := #[]
  staticTypes := #[]
  resolved := Array.replicate 8 none
  statics := none }

/-- the primitive byte -/
def k5 : Class := { plain "byte" none with kind := .primitive 'B', accessFlags := 0x411 }
/-- [B -/
def k6 : Class := { plain "[B" (some 0) with kind := .array 5 .byte, interfaces := #[3, 4], accessFlags := 1041 }

/-- the primitive int -/
def k7 : Class := { plain "int" none with kind := .primitive 'I', accessFlags := 0x411 }
/-- [I -/
def k8 : Class := { plain "[I" (some 0) with kind := .array 7 .int, interfaces := #[3, 4], accessFlags := 1041 }

def heap : Heap := #[]
def classes : Array Class := #[k0, k1, k2, k3, k4, k5, k6, k7, k8]
def interned : List (Array UInt16 × Addr) := []
def slotsUsed : Nat := 0
def theMethod : MethodId := ⟨1, 1⟩
def args0 : Array Value := #[.int 5, .int 5, .int 5, .int 5]
def aboutOver (below : List Frame) : State where
  vm := { classes := classes, interned := interned.toArray }
  heap := heap
  slotsUsed := slotsUsed
  threads := #[{ frames := .invoking theMethod args0 :: below }]
def below0 : List Frame := [.native { method := ⟨0, 0⟩, args := #[] }]
def about1 : State := aboutOver below0
def p0 : Program := .bare "" "" ""
def e0 : Env := launch0.env 0 0 0
theorem w_frames : about1.frames = Frame.invoking theMethod args0 :: below0 := rfl
set_option maxRecDepth 65536 in
theorem w_args : argsFit about1.vm theMethod args0 = true := by decide +kernel
set_option maxRecDepth 65536 in
theorem w_heap : heapFits about1 = true := by decide +kernel
set_option maxRecDepth 65536 in
theorem w_runnable : about1.curStatus? = some .runnable := by decide +kernel
set_option maxRecDepth 65536 in
theorem w_alone : about1.alone = true := by decide +kernel
set_option maxRecDepth 65536 in
theorem w_named : about1.methodNamed? x = some theMethod := by decide +kernel
set_option maxRecDepth 65536 in
theorem w_hears : about1.hears theMethod below0 = true := by decide +kernel
set_option maxRecDepth 65536 in
theorem w_ripe : about1.ripe theMethod args0 below0 = true := by decide +kernel
theorem w_running : about1.status = .running := rfl
set_option maxRecDepth 65536 in
theorem w_room : about1.hasRoom e0.platform room_1 = true :=
  launch0.hasRoom_least _ room_1 (by decide +kernel) (by decide +kernel) (by decide +kernel) (by decide +kernel) (by decide +kernel) (by decide +kernel)
theorem allAtoms_all (ts : List Jvm.Cond) (a : Array Jvm.Value) (st : Jvm.State) : (allAtoms ts).before a st = ts.all (fun c => c.before a st) := by
  induction ts with
  | nil => rfl
  | cons c t ih =>
    show (Jvm.Cond.and c (allAtoms t)).before a st = _
    rw [Jvm.Cond.before_and, ih, List.all_cons]
def words1 : List Jvm.Cond := Jvm.Cond.code x code maxLocals ret :: tables_1
/-- a 'code' word, met by the world's own term for the bytes: nothing is compared byte by byte -/
theorem code_word {y : MethodName} {bytes : ByteArray} {mx : Nat} {rt : Option FieldType} {a : Array Value} {s : State} {m : MethodId} {meth : Method} {c : Code} (h1 : s.methodNamed? y = some m) (h2 : s.vm.method? m = some meth) (h3 : meth.code = some c) (h4 : c.code = bytes)
    (h5 : (c.maxLocals == mx && c.exceptionTable.isEmpty && decide (c.maxStack ≤ mostOperands) && decide (meth.sig.returnType = rt) && !meth.locks && decide (parseMethodDescriptor y.desc = some meth.sig)) = true) : (Jvm.Cond.code y bytes mx rt).before a s = true := by
  simp only [Bool.and_eq_true, beq_iff_eq, Bool.not_eq_true', decide_eq_true_eq] at h5
  obtain ⟨⟨⟨⟨⟨g1, g2⟩, g3⟩, g4⟩, g5⟩, g6⟩ := h5
  simp [Cond.before, Cond.holds, Cond.value, h1, h2, h3, h4, g1, g2, g3, g4, g5, g6]
def isCode : Jvm.Cond → Bool
  | .code _ _ _ _ => true
  | _ => false
theorem all_split {L : List Jvm.Cond} {P : Jvm.Cond → Bool} (h1 : L.all (fun c => isCode c || P c) = true) (h2 : ∀ c ∈ L.filter isCode, P c = true) : L.all P = true := by
  refine List.all_eq_true.mpr fun c hc => ?_
  have h := List.all_eq_true.mp h1 c hc
  rcases Bool.eq_false_or_eq_true (isCode c) with hi | hi
  · exact h2 c (List.mem_filter.mpr ⟨hc, hi⟩)
  · simpa [hi] using h
set_option maxRecDepth 65536 in
theorem w_c0 : (Jvm.Cond.code x code maxLocals ret).before args0 about1 = true := code_word (m := ⟨1, 1⟩) (meth := k1m1) (c := k1c1) (by decide +kernel) rfl rfl rfl (by decide +kernel)
set_option maxRecDepth 65536 in
theorem w_c1 : (Jvm.Cond.code ({ cls := "com/example/querant/querant/records/Packing$Reader", name := "<init>", desc := "([B)V" } : Jvm.MethodName) prog_64_method_1_code (2 : Nat) (Option.none : Option Jvm.ClassFile.FieldType)).before args0 about1 = true := code_word (m := ⟨2, 0⟩) (meth := k2m0) (c := k2c0) (by decide +kernel) rfl rfl rfl (by decide +kernel)
set_option maxRecDepth 65536 in
theorem w_c2 : (Jvm.Cond.code ({ cls := "java/lang/Object", name := "<init>", desc := "()V" } : Jvm.MethodName) object_method_1_code (1 : Nat) (Option.none : Option Jvm.ClassFile.FieldType)).before args0 about1 = true := code_word (m := ⟨0, 0⟩) (meth := k0m0) (c := k0c0) (by decide +kernel) rfl rfl rfl (by decide +kernel)
set_option maxRecDepth 65536 in
theorem w_c3 : (Jvm.Cond.code ({ cls := "com/example/querant/querant/records/Packing$Reader", name := "hasMore", desc := "()Z" } : Jvm.MethodName) prog_64_method_3_code (1 : Nat) (Option.some Jvm.ClassFile.FieldType.boolean)).before args0 about1 = true := code_word (m := ⟨2, 1⟩) (meth := k2m1) (c := k2c1) (by decide +kernel) rfl rfl rfl (by decide +kernel)
set_option maxRecDepth 65536 in
theorem w_c4 : (Jvm.Cond.code ({ cls := "com/example/querant/querant/records/Packing$Reader", name := "number", desc := "()J" } : Jvm.MethodName) prog_64_method_4_code (5 : Nat) (Option.some Jvm.ClassFile.FieldType.long)).before args0 about1 = true := code_word (m := ⟨2, 2⟩) (meth := k2m2) (c := k2c2) (by decide +kernel) rfl rfl rfl (by decide +kernel)
def codes1 : List Jvm.Cond := [Jvm.Cond.code x code maxLocals ret, Jvm.Cond.code ({ cls := "com/example/querant/querant/records/Packing$Reader", name := "<init>", desc := "([B)V" } : Jvm.MethodName) prog_64_method_1_code (2 : Nat) (Option.none : Option Jvm.ClassFile.FieldType), Jvm.Cond.code ({ cls := "java/lang/Object", name := "<init>", desc := "()V" } : Jvm.MethodName) object_method_1_code (1 : Nat) (Option.none : Option Jvm.ClassFile.FieldType), Jvm.Cond.code ({ cls := "com/example/querant/querant/records/Packing$Reader", name := "hasMore", desc := "()Z" } : Jvm.MethodName) prog_64_method_3_code (1 : Nat) (Option.some Jvm.ClassFile.FieldType.boolean), Jvm.Cond.code ({ cls := "com/example/querant/querant/records/Packing$Reader", name := "number", desc := "()J" } : Jvm.MethodName) prog_64_method_4_code (5 : Nat) (Option.some Jvm.ClassFile.FieldType.long)]
set_option maxRecDepth 65536 in
theorem codes_eq : words1.filter isCode = codes1 := rfl
theorem w_codes : ∀ c ∈ words1.filter isCode, c.before args0 about1 = true := by
  rw [codes_eq]
  intro c hc
  simp only [codes1, List.mem_cons, List.not_mem_nil, or_false] at hc
  rcases hc with rfl | rfl | rfl | rfl | rfl
  · exact w_c0
  · exact w_c1
  · exact w_c2
  · exact w_c3
  · exact w_c4
set_option maxRecDepth 65536 in
theorem w_t1 : (words1.take 24).all (fun c => isCode c || c.before args0 about1) = true := by decide +kernel
set_option maxRecDepth 65536 in
theorem w_t2 : (words1.drop 24).all (fun c => isCode c || c.before args0 about1) = true := by decide +kernel
theorem w_tables : (allAtoms (Jvm.Cond.code x code maxLocals ret :: tables_1)).before args0 about1 = true := by
  rw [allAtoms_all]
  show words1.all (fun c => c.before args0 about1) = true
  refine all_split ?_ w_codes
  rw [← List.take_append_drop 24 words1, List.all_append, w_t1, w_t2]
  rfl
set_option maxRecDepth 65536 in
theorem w_case : (Jvm.Cond.and given_1 narrow_1).before args0 about1 = true := by decide +kernel
theorem w_applies : (headSpec (Jvm.Cond.code x code maxLocals ret :: tables_1) room_1).applies x e0.platform about1 = true :=
  (Spec.applies_iff w_frames).mpr ⟨w_running, w_runnable, w_alone, w_named, w_hears, w_ripe, w_room, w_tables⟩
theorem atStart : AtStart classFile x code maxLocals ret World_1 tables_1 room_1 Calls_1 rest_1 Pre_1 launch0 p0 e0 about1 theMethod args0 below0 :=
  ⟨lists_1, trivial, launch0.admits_env _ _ _, launch0.least_env, fairChoices_fair.cas, fairChoices_fair.clock, w_frames, w_args, w_heap, w_applies, trivial, trivial, w_case⟩
end start1
theorem witness_1 : WitnessClaimed_1 := ⟨start1.p0, start1.e0, start1.about1, start1.theMethod, start1.args0, start1.below0, start1.atStart⟩
end Jvm.Pilot.@@N@@
