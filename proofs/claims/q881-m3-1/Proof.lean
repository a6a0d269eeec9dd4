import JvmDerived
import JvmDerived.Pilot.@@N@@Statement
import JvmDerived.Pilot.@@N@@Code
set_option linter.unusedVariables false
set_option linter.unusedSimpArgs false
namespace Jvm.RoadKit
open Sem ClassFile Op Lib Jvm.Stand Jvm.Free Jvm.LawKit
section OwnNew
variable {p : Program} {l : Launch} {e : Env} {R : Room} {s : State} {m : MethodId} {args : Array Value} {below : List Frame} {meth : Method} {c : Code} {T : State} {locs : List Loc} {cells slots : Nat}
theorem retI (X : Stand p l e R s m args below meth c T locs cells slots) (hx : p.tables.exec = Jvm.exec) {pc : Nat} {Ls : Array Slot} {z : Int32} {rest : List Value} (hret : meth.sig.returnType = some .int) (hd : decode c.code pc = .ok (.ireturn, 1)) {fs : List Frame}
    (hl : ∀ (f : JFrame) (acts : List Action), f.method = m → f.locked = none → f.entered = [] → (doReturn e (T.setTop f) acts (some (.int z))).1 = T.setFrames fs) : Steps p.tables e below (T.setTop (mkF m pc Ls (.int z :: rest))) (T.setFrames fs) := by
  have hm' : T.vm.method? m = some meth := X.method'
  have hn : narrow .int (.int z) = .int z := rfl
  show Steps p.tables e below (T.setTop { method := m, pc := pc, locals := Ls, stack := _ :: rest, locked := none }) _
  jvm_step X.here [X.here.top, hx, hd, hm', hret, hn]
  first | (intro acts; rw [hl _ acts rfl rfl rfl]) | rw [hl _ _ rfl rfl rfl]
  exact Steps.refl _
/-- from S the run comes to an end of this invocation at which K holds -/
def OFin (p : Program) (e : Env) (below : List Frame) (K : Outcome → State → Prop) (S : State) : Prop := ∃ s₂ o, Steps p.tables e below S s₂ ∧ s₂.status = .running ∧ Ended s₂ below o ∧ K o s₂
theorem OFin.of {K : Outcome → State → Prop} {S S' : State} (h : ∀ t, Steps p.tables e below S' t → Steps p.tables e below S t) (k : OFin p e below K S') : OFin p e below K S := by
  obtain ⟨t, o, a, b⟩ := k; exact ⟨t, o, h t a, b⟩
theorem OFin.to {K : Outcome → State → Prop} {S S' : State} (h : Steps p.tables e below S S') (k : OFin p e below K S') : OFin p e below K S := by
  obtain ⟨t, o, a, b⟩ := k; exact ⟨t, o, h.trans a, b⟩
abbrev KPost (s : State) (Q : Option Value → Heap → List Loc → Prop) (C D : Nat) : Outcome → State → Prop := fun o U' => ∃ v L, o = .returned v ∧ Q v U'.heap L ∧ FrameEnd s o U' L C D
theorem OFin.retI (X : Stand p l e R s m args below meth c T locs cells slots) (hx : p.tables.exec = Jvm.exec) (hlk : meth.locks = false) {pc : Nat} {Ls : Array Slot} {z : Int32} {rest : List Value} {Q : Option Value → Heap → List Loc → Prop} {C D : Nat} (hret : meth.sig.returnType = some .int) (hd : decode c.code pc = .ok (.ireturn, 1)) (hC : cells ≤ C) (hD : slots ≤ D) (hQ : Q (some (.int z)) T.heap locs) :
    OFin p e below (KPost s Q C D) (T.setTop (mkF m pc Ls (.int z :: rest))) := by
  obtain ⟨fs, hr, hrun, hended, hW, hsame⟩ := X.leave (v := some (.int z)) (fun h => by rw [hret] at h; cases h) hlk
  exact ⟨_, _, Jvm.RoadKit.retI X hx hret hd hr, hrun, hended, _, _, rfl, hQ, ⟨_, rfl⟩, hW, hsame.mono hC hD⟩
theorem OFin.retB (X : Stand p l e R s m args below meth c T locs cells slots) (hx : p.tables.exec = Jvm.exec) (hlk : meth.locks = false) {pc : Nat} {Ls : Array Slot} {z : Int32} {rest : List Value} {Q : Option Value → Heap → List Loc → Prop} {C D : Nat} {t : FieldType} (ht : t = .boolean ∨ t = .byte ∨ t = .char ∨ t = .short) (hret : meth.sig.returnType = some t) (hd : decode c.code pc = .ok (.ireturn, 1)) (hC : cells ≤ C) (hD : slots ≤ D) (hQ : Q (some (.int (nar t z))) T.heap locs) :
    OFin p e below (KPost s Q C D) (T.setTop (mkF m pc Ls (.int z :: rest))) := by
  obtain ⟨fs, hr, hrun, hended, hW, hsame⟩ := X.leave (v := some (.int (nar t z))) (fun h => by rw [hret] at h; cases h) hlk
  exact ⟨_, _, retN X hx hret ht hd hr, hrun, hended, _, _, rfl, hQ, ⟨_, rfl⟩, hW, hsame.mono hC hD⟩
theorem OFin.retJ (X : Stand p l e R s m args below meth c T locs cells slots) (hx : p.tables.exec = Jvm.exec) (hlk : meth.locks = false) {pc : Nat} {Ls : Array Slot} {z : Int64} {Q : Option Value → Heap → List Loc → Prop} {C D : Nat} (hret : meth.sig.returnType = some .long) (hd : decode c.code pc = .ok (.lreturn, 1)) (hC : cells ≤ C) (hD : slots ≤ D) (hQ : Q (some (.long z)) T.heap locs) :
    OFin p e below (KPost s Q C D) (T.setTop (mkF m pc Ls [.long z])) := by
  obtain ⟨fs, hr, hrun, hended, hW, hsame⟩ := X.leave (v := some (.long z)) (fun h => by rw [hret] at h; cases h) hlk
  exact ⟨_, _, X.lreturnOut hx hret hd hr, hrun, hended, _, _, rfl, hQ, ⟨_, rfl⟩, hW, hsame.mono hC hD⟩
theorem OFin.retA (X : Stand p l e R s m args below meth c T locs cells slots) (hx : p.tables.exec = Jvm.exec) (hlk : meth.locks = false) {pc : Nat} {Ls : Array Slot} {z : Value} {Q : Option Value → Heap → List Loc → Prop} {C D : Nat} {t : FieldType} (ht : t.isReference = true) (hz : z.isRef = true) (hret : meth.sig.returnType = some t) (hd : decode c.code pc = .ok (.areturn, 1)) (hC : cells ≤ C) (hD : slots ≤ D) (hQ : Q (some z) T.heap locs) :
    OFin p e below (KPost s Q C D) (T.setTop (mkF m pc Ls [z])) := by
  obtain ⟨fs, hr, hrun, hended, hW, hsame⟩ := X.leave (v := some z) (fun h => by rw [hret] at h; cases h) hlk
  exact ⟨_, _, X.areturnOut hx hz hret ht hd hr, hrun, hended, _, _, rfl, hQ, ⟨_, rfl⟩, hW, hsame.mono hC hD⟩
theorem OFin.retD (X : Stand p l e R s m args below meth c T locs cells slots) (hx : p.tables.exec = Jvm.exec) (hlk : meth.locks = false) {pc : Nat} {Ls : Array Slot} {z : UInt64} {rest : List Value} {Q : Option Value → Heap → List Loc → Prop} {C D : Nat} (hret : meth.sig.returnType = some .double) (hd : decode c.code pc = .ok (.dreturn, 1)) (hC : cells ≤ C) (hD : slots ≤ D) (hQ : Q (some (.double z)) T.heap locs) :
    OFin p e below (KPost s Q C D) (T.setTop (mkF m pc Ls (.double z :: rest))) := by
  obtain ⟨fs, hr, hrun, hended, hW, hsame⟩ := X.leave (v := some (.double z)) (fun h => by rw [hret] at h; cases h) hlk
  exact ⟨_, _, retOut X hx hret rfl (Or.inr (Or.inr (Or.inl ⟨rfl, rfl, z, rfl⟩))) hd hr, hrun, hended, _, _, rfl, hQ, ⟨_, rfl⟩, hW, hsame.mono hC hD⟩
theorem OFin.retV (X : Stand p l e R s m args below meth c T locs cells slots) (hx : p.tables.exec = Jvm.exec) (hlk : meth.locks = false) {pc : Nat} {Ls : Array Slot} {Q : Option Value → Heap → List Loc → Prop} {C D : Nat} (hret : meth.sig.returnType = none) (hd : decode c.code pc = .ok (.return_, 1)) (hC : cells ≤ C) (hD : slots ≤ D) (hQ : Q none T.heap locs) :
    OFin p e below (KPost s Q C D) (T.setTop (mkF m pc Ls [])) := by
  obtain ⟨fs, hr, hrun, hended, hW, hsame⟩ := X.leave (v := none) (fun _ => rfl) hlk
  exact ⟨_, _, X.returnOut hx hret hd hr, hrun, hended, _, _, rfl, hQ, ⟨_, rfl⟩, hW, hsame.mono hC hD⟩
abbrev KPostW (s : State) (Q : Option Value → Heap → List Loc → Prop) (C D : Nat) : Outcome → State → Prop := fun o U' => ∃ v L, o = .returned v ∧ Q v U'.heap L ∧ ReturnedEndW s o U' L C D
theorem OFin.retBW {vm₁ : Vm} {k : Nat} (X : Stand p l e R (s.setVm vm₁) m args below meth c T locs cells slots) (hS : s.Since vm₁ k) (hk : k ≤ T.heap.size) (hx : p.tables.exec = Jvm.exec) (hlk : meth.locks = false) {pc : Nat} {Ls : Array Slot} {z : Int32} {rest : List Value} {Q : Option Value → Heap → List Loc → Prop} {C D : Nat} {t : FieldType} (ht : t = .boolean ∨ t = .byte ∨ t = .char ∨ t = .short) (hret : meth.sig.returnType = some t) (hd : decode c.code pc = .ok (.ireturn, 1)) (hC : cells ≤ C) (hD : slots ≤ D) (hQ : Q (some (.int (nar t z))) T.heap locs) :
    OFin p e below (KPostW s Q C D) (T.setTop (mkF m pc Ls (.int z :: rest))) := by
  obtain ⟨fs, hr, hrun, hended, h1, h2, h3, h4⟩ := X.leaveW hS hk (v := some (.int (nar t z))) (fun h => by rw [hret] at h; cases h) hlk
  exact ⟨_, _, retN X hx hret ht hd hr, hrun, hended, _, _, rfl, hQ, ⟨_, rfl⟩, h2, h3, h4.mono hC hD⟩
theorem own_alen {Z : State} {h : Heap} {a : Addr} {cl : Cell} {ty : FieldType} {z : Int32} {g : JFrame} {rest : List Value} {target : State} (X : Stand p l e R s m args below meth c T locs cells slots) (hx : p.tables.exec = Jvm.exec) (hZ : Z.Warmed39 s.vm) (eT : T.heap = h) (A : Arr Z h a cl ty) (S : cl.slots.size = z.toNatClampNeg) (q : ¬ z < 0) (hg : g.method = m) (hs : g.stack = .ref a :: rest) (hd : decode c.code g.pc = .ok (.arraylength, 1))
    (hr : Steps p.tables e below (T.setTop { g with pc := g.pc + 1, stack := .int z :: rest }) target) : Steps p.tables e below (T.setTop g) target := by
  refine X.arraylength hx (by rw [eT]; exact A.1) (State.isArrayOf_alike hZ.alike A.2.1) hg hs hd _ ?_
  rw [len_of S q]; exact hr
def OwnNoSta (h : Heap) (ws : List Addr) : Prop := ∀ x ∈ ws, ∀ cell : Cell, h[x]? = some cell → cell.vm.isStatics = false
theorem own_sn0 {h : Heap} : OwnNoSta h [] := fun _ q => nomatch q
theorem own_snS {Z : State} {h : Heap} {a : Addr} {C : String} {ws : List Addr} (E : Exa Z h a C) (r : OwnNoSta h ws) : OwnNoSta h (a :: ws) := fun x q cell hc => by
  rcases List.mem_cons.mp q with rfl | q
  · obtain ⟨c', _, h1, -, -, h4, -⟩ := E; cases h1.symm.trans hc; exact h4
  · exact r x q cell hc
theorem own_snV {Z : State} {h : Heap} {a : Addr} {k : ClassId} {ty : FieldType} {z : Int32} {vs : List Value} {dv : Value} {ws : List Addr} (F : Arv Z h a k ty z vs dv) (r : OwnNoSta h ws) : OwnNoSta h (a :: ws) := fun x q cell hc => by
  rcases List.mem_cons.mp q with rfl | q
  · obtain ⟨c', A, -⟩ := F; cases A.1.symm.trans hc; exact A.plain
  · exact r x q cell hc
theorem own_staKeep {Z : State} {h h' : Heap} {C n d : String} {v : Value} {ws : List Addr} (F : Sta Z h C n d v) (K : Keep h h' ws) (q : OwnNoSta h ws) : Sta Z h' C n d v := by
  obtain ⟨cf, i, k, f, st, cell, h1, h2, h3, h4, h5, h6, h7⟩ := F
  refine ⟨cf, i, k, f, st, cell, h1, h2, h3, h4, K.2.1 st cell h5 (fun z => ?_), h6, h7⟩
  have := q st z cell h5
  rw [this] at h6; cases h6
theorem own_pop2L {tb : Tables} [Ours tb] {e : Env} {below : List Frame} {T target : State} {m : MethodId} {c : Code} {g : JFrame} (h : At T m c below) (hx : tb.exec = Jvm.exec) (hg : g.method = m) {x : Int64} {rest : List Value} (hd : decode c.code g.pc = .ok (.pop2, 1)) (hs : g.stack = .long x :: rest)
    (hr : Steps tb e below (T.setTop { g with pc := g.pc + 1, stack := rest }) target) : Steps tb e below (T.setTop g) target := by
  subst hg
  jvm_step h [h.top, hx, hd, hs, Value.category]
  exact hr
end OwnNew
end Jvm.RoadKit
namespace Jvm.Pilot.@@N@@
open Jvm Jvm.ClassFile Sem Op Lib Jvm.Free Jvm.Stand Jvm.LawKit Jvm.RoadKit Bundle Jvm.Pilot.@@N@@.Jvm.D
theorem pd_0 : parseMethodDescriptor "(J)J" = some ⟨[.long], some .long⟩ := by decide +kernel
theorem pd_1 : parseMethodDescriptor "(J)V" = some ⟨[.long], none⟩ := by decide +kernel
theorem pd_2 : parseMethodDescriptor "()J" = some ⟨[], some .long⟩ := by decide +kernel
theorem own_xs (k : Nat) (hk : 0 < k) (x y : BitVec 64) (h : x ^^^ (x >>> k) = y ^^^ (y >>> k)) : x = y := by
  have h1 : (x ^^^ y) >>> k = x ^^^ y := by
    rw [BitVec.ushiftRight_xor_distrib]
    have : x >>> k = x ^^^ (y ^^^ (y >>> k)) := by rw [← h, ← BitVec.xor_assoc, BitVec.xor_self, BitVec.zero_xor]
    rw [this, BitVec.xor_assoc, BitVec.xor_assoc, BitVec.xor_self, BitVec.xor_zero]
  have h2 : (x ^^^ y).toNat = 0 := by
    have h3 := congrArg BitVec.toNat h1
    rw [BitVec.toNat_ushiftRight, Nat.shiftRight_eq_div_pow] at h3
    rcases Nat.eq_zero_or_pos (x ^^^ y).toNat with h0 | h0
    · exact h0
    · have h4 : (x ^^^ y).toNat / 2 ^ k < (x ^^^ y).toNat := Nat.div_lt_self h0 (Nat.one_lt_two_pow (Nat.pos_iff_ne_zero.mp hk))
      omega
  have h5 : x ^^^ y = 0#64 := BitVec.eq_of_toNat_eq (by simpa using h2)
  have : x ^^^ y ^^^ y = 0#64 ^^^ y := by rw [h5]
  rwa [BitVec.xor_assoc, BitVec.xor_self, BitVec.xor_zero, BitVec.zero_xor] at this
def own_f (k : Int32) (x : Int64) : Int64 := x ^^^ ((x.toUInt64 >>> (k &&& 0x3f).toInt64.toUInt64).toInt64)
theorem own_f_bv (x : Int64) : (own_f 30 x).toBitVec = x.toBitVec ^^^ (x.toBitVec >>> 30) ∧ (own_f 27 x).toBitVec = x.toBitVec ^^^ (x.toBitVec >>> 27) ∧ (own_f 31 x).toBitVec = x.toBitVec ^^^ (x.toBitVec >>> 31) := by
  refine ⟨?_, ?_, ?_⟩ <;> (unfold own_f; rw [Int64.toBitVec_xor]; congr 1)
theorem own_f_inj {k : Nat} (hk : 0 < k) {f : Int64 → Int64} (hf : ∀ x, (f x).toBitVec = x.toBitVec ^^^ (x.toBitVec >>> k)) {x y : Int64} (h : f x = f y) : x = y := by
  have := congrArg Int64.toBitVec h
  rw [hf, hf] at this
  exact Int64.toBitVec_inj.mp (own_xs k hk _ _ this)
theorem own_mul_inj {c d : Int64} (h1 : c * d = 1) {x y : Int64} (h : x * c = y * c) : x = y := by
  have := congrArg (· * d) h
  simpa [Int64.mul_assoc, h1] using this
def own_mix (z : Int64) : Int64 := own_f 31 (own_f 27 (own_f 30 z * (-4658895280553007687 : Int64)) * (-7723592293110705685 : Int64))
theorem own_mix_inj {x y : Int64} (h : own_mix x = own_mix y) : x = y := by
  have h1 := own_f_inj (k := 31) (by decide) (fun x => (own_f_bv x).2.2) h
  have h2 := own_mul_inj (d := (3573116690164977347 : Int64)) (by decide) h1
  have h3 := own_f_inj (k := 27) (by decide) (fun x => (own_f_bv x).2.1) h2
  have h4 := own_mul_inj (d := (-7575587736534282103 : Int64)) (by decide) h3
  exact own_f_inj (k := 30) (by decide) (fun x => (own_f_bv x).1) h4
theorem own_eqs {s t G : Int64} (h : lcmpW s t = 0) : lcmpW (own_mix (s + G)) (own_mix (t + G)) = 0 := (lw_eq _ _).mpr (by rw [(lw_eq _ _).mp h])
theorem own_nes {s t G : Int64} (h : ¬ lcmpW s t = 0) : ¬ lcmpW (own_mix (s + G)) (own_mix (t + G)) = 0 := fun q => h ((lw_eq _ _).mpr (by
  have := own_mix_inj ((lw_eq _ _).mp q)
  have h2 := congrArg (· - G) this
  simpa [Int64.add_sub_cancel] using h2))
theorem own_vec : lcmpW (own_mix ((0 : Int64) + (-7046029254386353131 : Int64))) (-2152535657050944081 : Int64) = 0 := (lw_eq _ _).mpr (by decide)
theorem dIni_0 : decode prog_72_method_1_code 0 = .ok (.aload_n 0, 1) := by decide +kernel
theorem dIni_1 : decode prog_72_method_1_code 1 = .ok (.invokespecial 1, 3) := by decide +kernel
theorem dIni_4 : decode prog_72_method_1_code 4 = .ok (.aload_n 0, 1) := by decide +kernel
theorem dIni_5 : decode prog_72_method_1_code 5 = .ok (.lload_n 1, 1) := by decide +kernel
theorem dIni_6 : decode prog_72_method_1_code 6 = .ok (.putfield 7, 3) := by decide +kernel
theorem dIni_9 : decode prog_72_method_1_code 9 = .ok (.return_, 1) := by decide +kernel
theorem pnIni : plainName "com/example/weekly_activity_scheduler/weeklyactivityscheduler/models/RandomStream" = true := by first | (simp [plainName, overriddenIn]; done) | decide +kernel
theorem efIni (m : MethodId) (a0 : Addr) (q1 : Int64) : entryFrame m #[(.ref a0), (.long q1)] 3 = mkF m 0 #[.val (.ref a0), .val (.long q1), .second] [] := by first | (simp [entryFrame, mkF, argsToLocals, Value.category]; done) | rfl
def QIni (Z : State) (a0 : Addr) (q1 : Int64) (h0 : Heap) (n0 : Nat) (v : Option Value) (h : Heap) (L : List Loc) : Prop := v = none ∧ Fr n0 L ∧ Keep h0 h [a0] ∧ Fld Z h a0 "com/example/weekly_activity_scheduler/weeklyactivityscheduler/models/RandomStream" "state" "J" (.long q1)
set_option maxRecDepth 65536 in
set_option maxHeartbeats 40000000 in
theorem rmIni (l : Launch) (Z : State) (a0 : Array Value) (hw : ∀ d ∈ tables_1, d.before a0 Z = true) (ws : List Jvm.Cond) (a0 : Addr) (q1 : Int64) (h0 : Heap) (n0 : Nat) (Z0 : n0 ≤ h0.size) (E0 : Exa Z h0 a0 "com/example/weekly_activity_scheduler/weeklyactivityscheduler/models/RandomStream") (F1 : Fld Z h0 a0 "com/example/weekly_activity_scheduler/weeklyactivityscheduler/models/RandomStream" "state" "J" (.long (0 : Int64))) (g0 : n0 ≤ a0) :
    MetFree l (⟨"com/example/weekly_activity_scheduler/weeklyactivityscheduler/models/RandomStream", "<init>", "(J)V"⟩ : MethodName) (head1 (Jvm.Cond.code (⟨"com/example/weekly_activity_scheduler/weeklyactivityscheduler/models/RandomStream", "<init>", "(J)V"⟩ : MethodName) prog_72_method_1_code 3 none :: ws) ({ frames := 1, cells := 0, slots := 0, locals := 12 } : Room)) (fun a U => a = #[(.ref a0), (.long q1)] ∧ Z.Warmed39 U.vm ∧ U.heap = h0) (fun _ _ _ _ _ => True) (fun _ U o U' => ∃ v L, o = .returned v ∧ QIni Z a0 q1 h0 n0 v U'.heap L ∧ FrameEnd U o U' L ({ frames := 1, cells := 0, slots := 0, locals := 12 } : Room).cells ({ frames := 1, cells := 0, slots := 0, locals := 12 } : Room).slots) := by
  refine MetFree.of_bodySF (plainFor_of_name pnIni) hisR ?_
  intro p e s m args below meth c s₁ Bd hml0 hP hK
  obtain ⟨rfl, hZ, hh⟩ := hP
  have hx := Bd.exec
  have hby := Bd.bytes
  have hlk := BodyLoose.notSynchronized Bd
  have hret := Bd.returns
  have hml : c.maxLocals = 3 := hml0
  have hown : s.vm.findClass "com/example/weekly_activity_scheduler/weeklyactivityscheduler/models/RandomStream" = some m.cls := findClass_of_methodNamed Bd.named
  have hnm := (name_of_methodNamed Bd.named Bd.method).1
  have X0 : Stand p l e ({ frames := 1, cells := 0, slots := 0, locals := 12 } : Room) s m #[(.ref a0), (.long q1)] below meth c s₁ [] 0 0 := Stand.of_body Bd
  have e0 : s₁.heap = h0 := by rw [← hh, Bd.state]; rfl
  have N0 := Fr.nil n0
  show OFin p e below (KPost s (QIni Z a0 q1 h0 n0) ({ frames := 1, cells := 0, slots := 0, locals := 12 } : Room).cells ({ frames := 1, cells := 0, slots := 0, locals := 12 } : Room).slots) _
  rw [efIni m a0 q1]
  have K0 : Keep h0 h0 [a0] := Keep.refl _ _
  refine OFin.of (S' := s₁.setTop (mkF m 1 #[.val (.ref a0), .val (.long q1), .second] [(.ref a0)])) (fun t ht => ?_) ?_
  · refine XS.aloadN X0.here hx rfl (hb hby dIni_0) rfl rfl ?_
    exact ht
  obtain ⟨T1, X1, e1, st1⟩ := initO X0 hx hZ hown (hw _ (List.mem_of_getElem? (i := 6) rfl)) (hw _ (List.mem_of_getElem? (i := 7) rfl)) (hw _ (List.mem_of_getElem? (i := 8) rfl)) e0 (g := (mkF m 1 #[.val (.ref a0), .val (.long q1), .second] [(.ref a0)])) rfl (by rw [hml]; rfl) rfl (hb hby dIni_1) (by decide) (W := 0) (by show 2 * 0 + _ ≤ _; exact Nat.le_of_eq rfl) (by decide)
  refine OFin.of (S' := T1.setTop (mkF m 4 #[.val (.ref a0), .val (.long q1), .second] [])) (fun t ht => st1 t ht) ?_
  refine OFin.of (S' := T1.setTop (mkF m 6 #[.val (.ref a0), .val (.long q1), .second] [(.long q1), (.ref a0)])) (fun t ht => ?_) ?_
  · refine XS.aloadN X1.here hx rfl (hb hby dIni_4) rfl rfl ?_
    show Steps p.tables e below (T1.setTop (mkF m 5 _ [(.ref a0)])) _
    refine XS.lloadN X1.here hx rfl (hb hby dIni_5) rfl ?_
    exact ht
  obtain ⟨T2, h2, X2, e2, W2, st2⟩ := putF X1 hx hZ hown (host := "") (Or.inl (hw _ (List.mem_of_getElem? (i := 9) rfl))) Via.refl e1 F1 E0 (Or.inl (hw _ (List.mem_of_getElem? (i := 10) rfl))) (hw _ (List.mem_of_getElem? (i := 1) rfl)) (ty := .long) (by decide) rfl rfl (g := (mkF m 6 #[.val (.ref a0), .val (.long q1), .second] [(.long q1), (.ref a0)])) rfl rfl (hb hby dIni_6)
  have f3 := (E0.wr W2)
  have Z4 : n0 ≤ h2.size := (Nat.le_trans Z0 (Keep.of_wr W2).1)
  have K5 : Keep h0 h2 [a0] := (K0.wr W2 (Or.inl (List.mem_of_getElem? (i := 0) rfl)))
  have N6 := Fr.snoc X2 N0 g0
  have f7 : Fld Z h2 a0 "com/example/weekly_activity_scheduler/weeklyactivityscheduler/models/RandomStream" "state" "J" (.long q1) := (F1.same W2)
  refine OFin.of (S' := T2.setTop (mkF m 9 #[.val (.ref a0), .val (.long q1), .second] [])) (fun t ht => st2 t ht) ?_
  exact OFin.retV X2 hx hlk hret (hb hby dIni_9) (by decide) (by decide) (by rw [e2]; exact ⟨rfl, N6, K5, f7⟩)
theorem dMix_0 : decode prog_72_method_7_code 0 = .ok (.lload_n 0, 1) := by decide +kernel
theorem dMix_1 : decode prog_72_method_7_code 1 = .ok (.lload_n 0, 1) := by decide +kernel
theorem dMix_2 : decode prog_72_method_7_code 2 = .ok (.bipush 30, 2) := by decide +kernel
theorem dMix_4 : decode prog_72_method_7_code 4 = .ok (.lushr, 1) := by decide +kernel
theorem dMix_5 : decode prog_72_method_7_code 5 = .ok (.lxor, 1) := by decide +kernel
theorem dMix_6 : decode prog_72_method_7_code 6 = .ok (.ldc2_w 50, 3) := by decide +kernel
theorem dMix_9 : decode prog_72_method_7_code 9 = .ok (.lmul, 1) := by decide +kernel
theorem dMix_10 : decode prog_72_method_7_code 10 = .ok (.lstore_n 2, 1) := by decide +kernel
theorem dMix_11 : decode prog_72_method_7_code 11 = .ok (.lload_n 2, 1) := by decide +kernel
theorem dMix_12 : decode prog_72_method_7_code 12 = .ok (.lload_n 2, 1) := by decide +kernel
theorem dMix_13 : decode prog_72_method_7_code 13 = .ok (.bipush 27, 2) := by decide +kernel
theorem dMix_15 : decode prog_72_method_7_code 15 = .ok (.lushr, 1) := by decide +kernel
theorem dMix_16 : decode prog_72_method_7_code 16 = .ok (.lxor, 1) := by decide +kernel
theorem dMix_17 : decode prog_72_method_7_code 17 = .ok (.ldc2_w 52, 3) := by decide +kernel
theorem dMix_20 : decode prog_72_method_7_code 20 = .ok (.lmul, 1) := by decide +kernel
theorem dMix_21 : decode prog_72_method_7_code 21 = .ok (.lstore_n 2, 1) := by decide +kernel
theorem dMix_22 : decode prog_72_method_7_code 22 = .ok (.lload_n 2, 1) := by decide +kernel
theorem dMix_23 : decode prog_72_method_7_code 23 = .ok (.lload_n 2, 1) := by decide +kernel
theorem dMix_24 : decode prog_72_method_7_code 24 = .ok (.bipush 31, 2) := by decide +kernel
theorem dMix_26 : decode prog_72_method_7_code 26 = .ok (.lushr, 1) := by decide +kernel
theorem dMix_27 : decode prog_72_method_7_code 27 = .ok (.lxor, 1) := by decide +kernel
theorem dMix_28 : decode prog_72_method_7_code 28 = .ok (.lreturn, 1) := by decide +kernel
theorem pnMix : plainName "com/example/weekly_activity_scheduler/weeklyactivityscheduler/models/RandomStream" = true := by first | (simp [plainName, overriddenIn]; done) | decide +kernel
theorem efMix (m : MethodId) (q0 : Int64) : entryFrame m #[(.long q0)] 4 = mkF m 0 #[.val (.long q0), .second, .unset, .unset] [] := by first | (simp [entryFrame, mkF, argsToLocals, Value.category]; done) | rfl
def QMix (Z : State) (q0 : Int64) (h0 : Heap) (n0 : Nat) (v : Option Value) (h : Heap) (L : List Loc) : Prop := v = some (.long (own_mix q0)) ∧ Fr n0 L ∧ h = h0
set_option maxRecDepth 65536 in
set_option maxHeartbeats 40000000 in
theorem rmMix (l : Launch) (Z : State) (a0 : Array Value) (hw : ∀ d ∈ tables_1, d.before a0 Z = true) (ws : List Jvm.Cond) (q0 : Int64) (h0 : Heap) (n0 : Nat) (Z0 : n0 ≤ h0.size)  :
    MetFree l (⟨"com/example/weekly_activity_scheduler/weeklyactivityscheduler/models/RandomStream", "mix", "(J)J"⟩ : MethodName) (head1 (Jvm.Cond.code (⟨"com/example/weekly_activity_scheduler/weeklyactivityscheduler/models/RandomStream", "mix", "(J)J"⟩ : MethodName) prog_72_method_7_code 4 (some .long) :: ws) ({ frames := 0, cells := 0, slots := 0, locals := 0 } : Room)) (fun a U => a = #[(.long q0)] ∧ Z.Warmed39 U.vm ∧ U.heap = h0) (fun _ _ _ _ _ => True) (fun _ U o U' => ∃ v L, o = .returned v ∧ QMix Z q0 h0 n0 v U'.heap L ∧ FrameEnd U o U' L ({ frames := 0, cells := 0, slots := 0, locals := 0 } : Room).cells ({ frames := 0, cells := 0, slots := 0, locals := 0 } : Room).slots) := by
  refine MetFree.of_bodySF (plainFor_of_name pnMix) hisR ?_
  intro p e s m args below meth c s₁ Bd hml0 hP hK
  obtain ⟨rfl, hZ, hh⟩ := hP
  have hx := Bd.exec
  have hby := Bd.bytes
  have hlk := BodyLoose.notSynchronized Bd
  have hret := Bd.returns
  have hml : c.maxLocals = 4 := hml0
  have hown : s.vm.findClass "com/example/weekly_activity_scheduler/weeklyactivityscheduler/models/RandomStream" = some m.cls := findClass_of_methodNamed Bd.named
  have hnm := (name_of_methodNamed Bd.named Bd.method).1
  have X0 : Stand p l e ({ frames := 0, cells := 0, slots := 0, locals := 0 } : Room) s m #[(.long q0)] below meth c s₁ [] 0 0 := Stand.of_body Bd
  have e0 : s₁.heap = h0 := by rw [← hh, Bd.state]; rfl
  have N0 := Fr.nil n0
  show OFin p e below (KPost s (QMix Z q0 h0 n0) ({ frames := 0, cells := 0, slots := 0, locals := 0 } : Room).cells ({ frames := 0, cells := 0, slots := 0, locals := 0 } : Room).slots) _
  rw [efMix m q0]
  refine OFin.of (S' := s₁.setTop (mkF m 28 #[.val (.long q0), .second, .val (.long ((((q0 ^^^ ((q0.toUInt64 >>> ((30 : Int32) &&& 0x3f).toInt64.toUInt64).toInt64)) * (-4658895280553007687 : Int64)) ^^^ ((((q0 ^^^ ((q0.toUInt64 >>> ((30 : Int32) &&& 0x3f).toInt64.toUInt64).toInt64)) * (-4658895280553007687 : Int64)).toUInt64 >>> ((27 : Int32) &&& 0x3f).toInt64.toUInt64).toInt64)) * (-7723592293110705685 : Int64))), .second] [(.long (((((q0 ^^^ ((q0.toUInt64 >>> ((30 : Int32) &&& 0x3f).toInt64.toUInt64).toInt64)) * (-4658895280553007687 : Int64)) ^^^ ((((q0 ^^^ ((q0.toUInt64 >>> ((30 : Int32) &&& 0x3f).toInt64.toUInt64).toInt64)) * (-4658895280553007687 : Int64)).toUInt64 >>> ((27 : Int32) &&& 0x3f).toInt64.toUInt64).toInt64)) * (-7723592293110705685 : Int64)) ^^^ ((((((q0 ^^^ ((q0.toUInt64 >>> ((30 : Int32) &&& 0x3f).toInt64.toUInt64).toInt64)) * (-4658895280553007687 : Int64)) ^^^ ((((q0 ^^^ ((q0.toUInt64 >>> ((30 : Int32) &&& 0x3f).toInt64.toUInt64).toInt64)) * (-4658895280553007687 : Int64)).toUInt64 >>> ((27 : Int32) &&& 0x3f).toInt64.toUInt64).toInt64)) * (-7723592293110705685 : Int64)).toUInt64 >>> ((31 : Int32) &&& 0x3f).toInt64.toUInt64).toInt64)))])) (fun t ht => ?_) ?_
  · refine XS.lloadN X0.here hx rfl (hb hby dMix_0) rfl ?_
    show Steps p.tables e below (s₁.setTop (mkF m 1 _ [(.long q0)])) _
    refine XS.lloadN X0.here hx rfl (hb hby dMix_1) rfl ?_
    show Steps p.tables e below (s₁.setTop (mkF m 2 _ [(.long q0), (.long q0)])) _
    refine XS.bipush X0.here hx rfl (hb hby dMix_2) ?_
    show Steps p.tables e below (s₁.setTop (mkF m 4 _ [(.int (30 : Int32)), (.long q0), (.long q0)])) _
    refine XS.lushr X0.here hx rfl (hb hby dMix_4) rfl ?_
    show Steps p.tables e below (s₁.setTop (mkF m 5 _ [(.long ((q0.toUInt64 >>> ((30 : Int32) &&& 0x3f).toInt64.toUInt64).toInt64)), (.long q0)])) _
    refine XS.lxor X0.here hx rfl (hb hby dMix_5) rfl ?_
    show Steps p.tables e below (s₁.setTop (mkF m 6 _ [(.long (q0 ^^^ ((q0.toUInt64 >>> ((30 : Int32) &&& 0x3f).toInt64.toUInt64).toInt64)))])) _
    refine X0.ldc2Long hx hown (mvT hZ (hw _ (List.mem_of_getElem? (i := 20) rfl))) (g := (mkF m 6 #[.val (.long q0), .second, .unset, .unset] [(.long (q0 ^^^ ((q0.toUInt64 >>> ((30 : Int32) &&& 0x3f).toInt64.toUInt64).toInt64)))])) rfl (hb hby dMix_6) _ ?_
    show Steps p.tables e below (s₁.setTop (mkF m 9 _ [(.long (-4658895280553007687 : Int64)), (.long (q0 ^^^ ((q0.toUInt64 >>> ((30 : Int32) &&& 0x3f).toInt64.toUInt64).toInt64)))])) _
    refine XS.lmul X0.here hx rfl (hb hby dMix_9) rfl ?_
    show Steps p.tables e below (s₁.setTop (mkF m 10 _ [(.long ((q0 ^^^ ((q0.toUInt64 >>> ((30 : Int32) &&& 0x3f).toInt64.toUInt64).toInt64)) * (-4658895280553007687 : Int64)))])) _
    refine XS.lstoreN X0.here hx rfl (hb hby dMix_10) rfl (l' := #[.val (.long q0), .second, .val (.long ((q0 ^^^ ((q0.toUInt64 >>> ((30 : Int32) &&& 0x3f).toInt64.toUInt64).toInt64)) * (-4658895280553007687 : Int64))), .second]) rfl ?_
    show Steps p.tables e below (s₁.setTop (mkF m 11 #[.val (.long q0), .second, .val (.long ((q0 ^^^ ((q0.toUInt64 >>> ((30 : Int32) &&& 0x3f).toInt64.toUInt64).toInt64)) * (-4658895280553007687 : Int64))), .second] [])) _
    refine XS.lloadN X0.here hx rfl (hb hby dMix_11) rfl ?_
    show Steps p.tables e below (s₁.setTop (mkF m 12 _ [(.long ((q0 ^^^ ((q0.toUInt64 >>> ((30 : Int32) &&& 0x3f).toInt64.toUInt64).toInt64)) * (-4658895280553007687 : Int64)))])) _
    refine XS.lloadN X0.here hx rfl (hb hby dMix_12) rfl ?_
    show Steps p.tables e below (s₁.setTop (mkF m 13 _ [(.long ((q0 ^^^ ((q0.toUInt64 >>> ((30 : Int32) &&& 0x3f).toInt64.toUInt64).toInt64)) * (-4658895280553007687 : Int64))), (.long ((q0 ^^^ ((q0.toUInt64 >>> ((30 : Int32) &&& 0x3f).toInt64.toUInt64).toInt64)) * (-4658895280553007687 : Int64)))])) _
    refine XS.bipush X0.here hx rfl (hb hby dMix_13) ?_
    show Steps p.tables e below (s₁.setTop (mkF m 15 _ [(.int (27 : Int32)), (.long ((q0 ^^^ ((q0.toUInt64 >>> ((30 : Int32) &&& 0x3f).toInt64.toUInt64).toInt64)) * (-4658895280553007687 : Int64))), (.long ((q0 ^^^ ((q0.toUInt64 >>> ((30 : Int32) &&& 0x3f).toInt64.toUInt64).toInt64)) * (-4658895280553007687 : Int64)))])) _
    refine XS.lushr X0.here hx rfl (hb hby dMix_15) rfl ?_
    show Steps p.tables e below (s₁.setTop (mkF m 16 _ [(.long ((((q0 ^^^ ((q0.toUInt64 >>> ((30 : Int32) &&& 0x3f).toInt64.toUInt64).toInt64)) * (-4658895280553007687 : Int64)).toUInt64 >>> ((27 : Int32) &&& 0x3f).toInt64.toUInt64).toInt64)), (.long ((q0 ^^^ ((q0.toUInt64 >>> ((30 : Int32) &&& 0x3f).toInt64.toUInt64).toInt64)) * (-4658895280553007687 : Int64)))])) _
    refine XS.lxor X0.here hx rfl (hb hby dMix_16) rfl ?_
    show Steps p.tables e below (s₁.setTop (mkF m 17 _ [(.long (((q0 ^^^ ((q0.toUInt64 >>> ((30 : Int32) &&& 0x3f).toInt64.toUInt64).toInt64)) * (-4658895280553007687 : Int64)) ^^^ ((((q0 ^^^ ((q0.toUInt64 >>> ((30 : Int32) &&& 0x3f).toInt64.toUInt64).toInt64)) * (-4658895280553007687 : Int64)).toUInt64 >>> ((27 : Int32) &&& 0x3f).toInt64.toUInt64).toInt64)))])) _
    refine X0.ldc2Long hx hown (mvT hZ (hw _ (List.mem_of_getElem? (i := 21) rfl))) (g := (mkF m 17 #[.val (.long q0), .second, .val (.long ((q0 ^^^ ((q0.toUInt64 >>> ((30 : Int32) &&& 0x3f).toInt64.toUInt64).toInt64)) * (-4658895280553007687 : Int64))), .second] [(.long (((q0 ^^^ ((q0.toUInt64 >>> ((30 : Int32) &&& 0x3f).toInt64.toUInt64).toInt64)) * (-4658895280553007687 : Int64)) ^^^ ((((q0 ^^^ ((q0.toUInt64 >>> ((30 : Int32) &&& 0x3f).toInt64.toUInt64).toInt64)) * (-4658895280553007687 : Int64)).toUInt64 >>> ((27 : Int32) &&& 0x3f).toInt64.toUInt64).toInt64)))])) rfl (hb hby dMix_17) _ ?_
    show Steps p.tables e below (s₁.setTop (mkF m 20 _ [(.long (-7723592293110705685 : Int64)), (.long (((q0 ^^^ ((q0.toUInt64 >>> ((30 : Int32) &&& 0x3f).toInt64.toUInt64).toInt64)) * (-4658895280553007687 : Int64)) ^^^ ((((q0 ^^^ ((q0.toUInt64 >>> ((30 : Int32) &&& 0x3f).toInt64.toUInt64).toInt64)) * (-4658895280553007687 : Int64)).toUInt64 >>> ((27 : Int32) &&& 0x3f).toInt64.toUInt64).toInt64)))])) _
    refine XS.lmul X0.here hx rfl (hb hby dMix_20) rfl ?_
    show Steps p.tables e below (s₁.setTop (mkF m 21 _ [(.long ((((q0 ^^^ ((q0.toUInt64 >>> ((30 : Int32) &&& 0x3f).toInt64.toUInt64).toInt64)) * (-4658895280553007687 : Int64)) ^^^ ((((q0 ^^^ ((q0.toUInt64 >>> ((30 : Int32) &&& 0x3f).toInt64.toUInt64).toInt64)) * (-4658895280553007687 : Int64)).toUInt64 >>> ((27 : Int32) &&& 0x3f).toInt64.toUInt64).toInt64)) * (-7723592293110705685 : Int64)))])) _
    refine XS.lstoreN X0.here hx rfl (hb hby dMix_21) rfl (l' := #[.val (.long q0), .second, .val (.long ((((q0 ^^^ ((q0.toUInt64 >>> ((30 : Int32) &&& 0x3f).toInt64.toUInt64).toInt64)) * (-4658895280553007687 : Int64)) ^^^ ((((q0 ^^^ ((q0.toUInt64 >>> ((30 : Int32) &&& 0x3f).toInt64.toUInt64).toInt64)) * (-4658895280553007687 : Int64)).toUInt64 >>> ((27 : Int32) &&& 0x3f).toInt64.toUInt64).toInt64)) * (-7723592293110705685 : Int64))), .second]) rfl ?_
    show Steps p.tables e below (s₁.setTop (mkF m 22 #[.val (.long q0), .second, .val (.long ((((q0 ^^^ ((q0.toUInt64 >>> ((30 : Int32) &&& 0x3f).toInt64.toUInt64).toInt64)) * (-4658895280553007687 : Int64)) ^^^ ((((q0 ^^^ ((q0.toUInt64 >>> ((30 : Int32) &&& 0x3f).toInt64.toUInt64).toInt64)) * (-4658895280553007687 : Int64)).toUInt64 >>> ((27 : Int32) &&& 0x3f).toInt64.toUInt64).toInt64)) * (-7723592293110705685 : Int64))), .second] [])) _
    refine XS.lloadN X0.here hx rfl (hb hby dMix_22) rfl ?_
    show Steps p.tables e below (s₁.setTop (mkF m 23 _ [(.long ((((q0 ^^^ ((q0.toUInt64 >>> ((30 : Int32) &&& 0x3f).toInt64.toUInt64).toInt64)) * (-4658895280553007687 : Int64)) ^^^ ((((q0 ^^^ ((q0.toUInt64 >>> ((30 : Int32) &&& 0x3f).toInt64.toUInt64).toInt64)) * (-4658895280553007687 : Int64)).toUInt64 >>> ((27 : Int32) &&& 0x3f).toInt64.toUInt64).toInt64)) * (-7723592293110705685 : Int64)))])) _
    refine XS.lloadN X0.here hx rfl (hb hby dMix_23) rfl ?_
    show Steps p.tables e below (s₁.setTop (mkF m 24 _ [(.long ((((q0 ^^^ ((q0.toUInt64 >>> ((30 : Int32) &&& 0x3f).toInt64.toUInt64).toInt64)) * (-4658895280553007687 : Int64)) ^^^ ((((q0 ^^^ ((q0.toUInt64 >>> ((30 : Int32) &&& 0x3f).toInt64.toUInt64).toInt64)) * (-4658895280553007687 : Int64)).toUInt64 >>> ((27 : Int32) &&& 0x3f).toInt64.toUInt64).toInt64)) * (-7723592293110705685 : Int64))), (.long ((((q0 ^^^ ((q0.toUInt64 >>> ((30 : Int32) &&& 0x3f).toInt64.toUInt64).toInt64)) * (-4658895280553007687 : Int64)) ^^^ ((((q0 ^^^ ((q0.toUInt64 >>> ((30 : Int32) &&& 0x3f).toInt64.toUInt64).toInt64)) * (-4658895280553007687 : Int64)).toUInt64 >>> ((27 : Int32) &&& 0x3f).toInt64.toUInt64).toInt64)) * (-7723592293110705685 : Int64)))])) _
    refine XS.bipush X0.here hx rfl (hb hby dMix_24) ?_
    show Steps p.tables e below (s₁.setTop (mkF m 26 _ [(.int (31 : Int32)), (.long ((((q0 ^^^ ((q0.toUInt64 >>> ((30 : Int32) &&& 0x3f).toInt64.toUInt64).toInt64)) * (-4658895280553007687 : Int64)) ^^^ ((((q0 ^^^ ((q0.toUInt64 >>> ((30 : Int32) &&& 0x3f).toInt64.toUInt64).toInt64)) * (-4658895280553007687 : Int64)).toUInt64 >>> ((27 : Int32) &&& 0x3f).toInt64.toUInt64).toInt64)) * (-7723592293110705685 : Int64))), (.long ((((q0 ^^^ ((q0.toUInt64 >>> ((30 : Int32) &&& 0x3f).toInt64.toUInt64).toInt64)) * (-4658895280553007687 : Int64)) ^^^ ((((q0 ^^^ ((q0.toUInt64 >>> ((30 : Int32) &&& 0x3f).toInt64.toUInt64).toInt64)) * (-4658895280553007687 : Int64)).toUInt64 >>> ((27 : Int32) &&& 0x3f).toInt64.toUInt64).toInt64)) * (-7723592293110705685 : Int64)))])) _
    refine XS.lushr X0.here hx rfl (hb hby dMix_26) rfl ?_
    show Steps p.tables e below (s₁.setTop (mkF m 27 _ [(.long ((((((q0 ^^^ ((q0.toUInt64 >>> ((30 : Int32) &&& 0x3f).toInt64.toUInt64).toInt64)) * (-4658895280553007687 : Int64)) ^^^ ((((q0 ^^^ ((q0.toUInt64 >>> ((30 : Int32) &&& 0x3f).toInt64.toUInt64).toInt64)) * (-4658895280553007687 : Int64)).toUInt64 >>> ((27 : Int32) &&& 0x3f).toInt64.toUInt64).toInt64)) * (-7723592293110705685 : Int64)).toUInt64 >>> ((31 : Int32) &&& 0x3f).toInt64.toUInt64).toInt64)), (.long ((((q0 ^^^ ((q0.toUInt64 >>> ((30 : Int32) &&& 0x3f).toInt64.toUInt64).toInt64)) * (-4658895280553007687 : Int64)) ^^^ ((((q0 ^^^ ((q0.toUInt64 >>> ((30 : Int32) &&& 0x3f).toInt64.toUInt64).toInt64)) * (-4658895280553007687 : Int64)).toUInt64 >>> ((27 : Int32) &&& 0x3f).toInt64.toUInt64).toInt64)) * (-7723592293110705685 : Int64)))])) _
    refine XS.lxor X0.here hx rfl (hb hby dMix_27) rfl ?_
    exact ht
  exact OFin.retJ X0 hx hlk hret (hb hby dMix_28) (by decide) (by decide) (by rw [e0]; exact ⟨(by show some (Value.long (((((q0 ^^^ ((q0.toUInt64 >>> ((30 : Int32) &&& 0x3f).toInt64.toUInt64).toInt64)) * (-4658895280553007687 : Int64)) ^^^ ((((q0 ^^^ ((q0.toUInt64 >>> ((30 : Int32) &&& 0x3f).toInt64.toUInt64).toInt64)) * (-4658895280553007687 : Int64)).toUInt64 >>> ((27 : Int32) &&& 0x3f).toInt64.toUInt64).toInt64)) * (-7723592293110705685 : Int64)) ^^^ ((((((q0 ^^^ ((q0.toUInt64 >>> ((30 : Int32) &&& 0x3f).toInt64.toUInt64).toInt64)) * (-4658895280553007687 : Int64)) ^^^ ((((q0 ^^^ ((q0.toUInt64 >>> ((30 : Int32) &&& 0x3f).toInt64.toUInt64).toInt64)) * (-4658895280553007687 : Int64)).toUInt64 >>> ((27 : Int32) &&& 0x3f).toInt64.toUInt64).toInt64)) * (-7723592293110705685 : Int64)).toUInt64 >>> ((31 : Int32) &&& 0x3f).toInt64.toUInt64).toInt64))) = _; rfl), N0, rfl⟩)
theorem dNl_0 : decode prog_72_method_3_code 0 = .ok (.aload_n 0, 1) := by decide +kernel
theorem dNl_1 : decode prog_72_method_3_code 1 = .ok (.dup, 1) := by decide +kernel
theorem dNl_2 : decode prog_72_method_3_code 2 = .ok (.getfield 7, 3) := by decide +kernel
theorem dNl_5 : decode prog_72_method_3_code 5 = .ok (.ldc2_w 32, 3) := by decide +kernel
theorem dNl_8 : decode prog_72_method_3_code 8 = .ok (.ladd, 1) := by decide +kernel
theorem dNl_9 : decode prog_72_method_3_code 9 = .ok (.putfield 7, 3) := by decide +kernel
theorem dNl_12 : decode prog_72_method_3_code 12 = .ok (.aload_n 0, 1) := by decide +kernel
theorem dNl_13 : decode prog_72_method_3_code 13 = .ok (.getfield 7, 3) := by decide +kernel
theorem dNl_16 : decode prog_72_method_3_code 16 = .ok (.invokestatic 34, 3) := by decide +kernel
theorem dNl_19 : decode prog_72_method_3_code 19 = .ok (.lreturn, 1) := by decide +kernel
theorem pnNl : plainName "com/example/weekly_activity_scheduler/weeklyactivityscheduler/models/RandomStream" = true := by first | (simp [plainName, overriddenIn]; done) | decide +kernel
theorem efNl (m : MethodId) (a0 : Addr) : entryFrame m #[(.ref a0)] 1 = mkF m 0 #[.val (.ref a0)] [] := by first | (simp [entryFrame, mkF, argsToLocals, Value.category]; done) | rfl
def QNl (Z : State) (a0 : Addr) (w : Int64) (h0 : Heap) (n0 : Nat) (v : Option Value) (h : Heap) (L : List Loc) : Prop := v = some (.long (own_mix (w + (-7046029254386353131 : Int64)))) ∧ Fr n0 L ∧ Keep h0 h [a0] ∧ Fld Z h a0 "com/example/weekly_activity_scheduler/weeklyactivityscheduler/models/RandomStream" "state" "J" (.long (w + (-7046029254386353131 : Int64)))
set_option maxRecDepth 65536 in
set_option maxHeartbeats 40000000 in
theorem rmNl (l : Launch) (Z : State) (a0 : Array Value) (hw : ∀ d ∈ tables_1, d.before a0 Z = true) (ws : List Jvm.Cond) (a0 : Addr) (w : Int64) (h0 : Heap) (n0 : Nat) (Z0 : n0 ≤ h0.size) (E0 : Exa Z h0 a0 "com/example/weekly_activity_scheduler/weeklyactivityscheduler/models/RandomStream") (F1 : Fld Z h0 a0 "com/example/weekly_activity_scheduler/weeklyactivityscheduler/models/RandomStream" "state" "J" (.long w)) (g0 : n0 ≤ a0) :
    MetFree l (⟨"com/example/weekly_activity_scheduler/weeklyactivityscheduler/models/RandomStream", "nextLong", "()J"⟩ : MethodName) (head1 (Jvm.Cond.code (⟨"com/example/weekly_activity_scheduler/weeklyactivityscheduler/models/RandomStream", "nextLong", "()J"⟩ : MethodName) prog_72_method_3_code 1 (some .long) :: ws) ({ frames := 1, cells := 0, slots := 0, locals := 15 } : Room)) (fun a U => a = #[(.ref a0)] ∧ Z.Warmed39 U.vm ∧ U.heap = h0) (fun _ _ _ _ _ => True) (fun _ U o U' => ∃ v L, o = .returned v ∧ QNl Z a0 w h0 n0 v U'.heap L ∧ FrameEnd U o U' L ({ frames := 1, cells := 0, slots := 0, locals := 15 } : Room).cells ({ frames := 1, cells := 0, slots := 0, locals := 15 } : Room).slots) := by
  refine MetFree.of_bodySF (plainFor_of_name pnNl) hisR ?_
  intro p e s m args below meth c s₁ Bd hml0 hP hK
  obtain ⟨rfl, hZ, hh⟩ := hP
  have hx := Bd.exec
  have hby := Bd.bytes
  have hlk := BodyLoose.notSynchronized Bd
  have hret := Bd.returns
  have hml : c.maxLocals = 1 := hml0
  have hown : s.vm.findClass "com/example/weekly_activity_scheduler/weeklyactivityscheduler/models/RandomStream" = some m.cls := findClass_of_methodNamed Bd.named
  have hnm := (name_of_methodNamed Bd.named Bd.method).1
  have X0 : Stand p l e ({ frames := 1, cells := 0, slots := 0, locals := 15 } : Room) s m #[(.ref a0)] below meth c s₁ [] 0 0 := Stand.of_body Bd
  have e0 : s₁.heap = h0 := by rw [← hh, Bd.state]; rfl
  have N0 := Fr.nil n0
  show OFin p e below (KPost s (QNl Z a0 w h0 n0) ({ frames := 1, cells := 0, slots := 0, locals := 15 } : Room).cells ({ frames := 1, cells := 0, slots := 0, locals := 15 } : Room).slots) _
  rw [efNl m a0]
  have K0 : Keep h0 h0 [a0] := Keep.refl _ _
  refine OFin.of (S' := s₁.setTop (mkF m 2 #[.val (.ref a0)] [(.ref a0), (.ref a0)])) (fun t ht => ?_) ?_
  · refine XS.aloadN X0.here hx rfl (hb hby dNl_0) rfl rfl ?_
    show Steps p.tables e below (s₁.setTop (mkF m 1 _ [(.ref a0)])) _
    refine XS.dup X0.here hx rfl (hb hby dNl_1) rfl rfl ?_
    exact ht
  obtain ⟨T1, X1, e1, st1⟩ := getF X0 hx hZ hown (host := "") (Or.inl (hw _ (List.mem_of_getElem? (i := 9) rfl))) Via.refl e0 F1 (g := (mkF m 2 #[.val (.ref a0)] [(.ref a0), (.ref a0)])) rfl rfl (hb hby dNl_2)
  refine OFin.of (S' := T1.setTop (mkF m 5 #[.val (.ref a0)] [(.long w), (.ref a0)])) (fun t ht => st1 t ht) ?_
  refine OFin.of (S' := T1.setTop (mkF m 9 #[.val (.ref a0)] [(.long (w + (-7046029254386353131 : Int64))), (.ref a0)])) (fun t ht => ?_) ?_
  · refine X1.ldc2Long hx hown (mvT hZ (hw _ (List.mem_of_getElem? (i := 16) rfl))) (g := (mkF m 5 #[.val (.ref a0)] [(.long w), (.ref a0)])) rfl (hb hby dNl_5) _ ?_
    show Steps p.tables e below (T1.setTop (mkF m 8 _ [(.long (-7046029254386353131 : Int64)), (.long w), (.ref a0)])) _
    refine XS.ladd X1.here hx rfl (hb hby dNl_8) rfl ?_
    exact ht
  obtain ⟨T2, h2, X2, e2, W2, st2⟩ := putF X1 hx hZ hown (host := "") (Or.inl (hw _ (List.mem_of_getElem? (i := 9) rfl))) Via.refl e1 F1 E0 (Or.inl (hw _ (List.mem_of_getElem? (i := 10) rfl))) (hw _ (List.mem_of_getElem? (i := 1) rfl)) (ty := .long) (by decide) rfl rfl (g := (mkF m 9 #[.val (.ref a0)] [(.long (w + (-7046029254386353131 : Int64))), (.ref a0)])) rfl rfl (hb hby dNl_9)
  have f3 := (E0.wr W2)
  have Z4 : n0 ≤ h2.size := (Nat.le_trans Z0 (Keep.of_wr W2).1)
  have K5 : Keep h0 h2 [a0] := (K0.wr W2 (Or.inl (List.mem_of_getElem? (i := 0) rfl)))
  have N6 := Fr.snoc X2 N0 g0
  have f7 : Fld Z h2 a0 "com/example/weekly_activity_scheduler/weeklyactivityscheduler/models/RandomStream" "state" "J" (.long (w + (-7046029254386353131 : Int64))) := (F1.same W2)
  refine OFin.of (S' := T2.setTop (mkF m 12 #[.val (.ref a0)] [])) (fun t ht => st2 t ht) ?_
  refine OFin.of (S' := T2.setTop (mkF m 13 #[.val (.ref a0)] [(.ref a0)])) (fun t ht => ?_) ?_
  · refine XS.aloadN X2.here hx rfl (hb hby dNl_12) rfl rfl ?_
    exact ht
  obtain ⟨T8, X8, e8, st8⟩ := getF X2 hx hZ hown (host := "") (Or.inl (hw _ (List.mem_of_getElem? (i := 9) rfl))) Via.refl e2 f7 (g := (mkF m 13 #[.val (.ref a0)] [(.ref a0)])) rfl rfl (hb hby dNl_13)
  refine OFin.of (S' := T8.setTop (mkF m 16 #[.val (.ref a0)] [(.long (w + (-7046029254386353131 : Int64)))])) (fun t ht => st8 t ht) ?_
  obtain ⟨_, _, ⟨T9, L9, k9, n9⟩, -, X9, ⟨Lc9, hQ9, l9, y9, z9⟩, st9⟩ := Jvm.LawKit.callS X8 hx (y := (⟨"com/example/weekly_activity_scheduler/weeklyactivityscheduler/models/RandomStream", "mix", "(J)J"⟩ : MethodName)) hown (mvT hZ (hw _ (List.mem_of_getElem? (i := 17) rfl))) (mvT hZ (hw _ (List.mem_of_getElem? (i := 18) rfl))) (mvT hZ (hw _ (List.mem_of_getElem? (i := 2) rfl))) (mvT hZ (hw _ (List.mem_of_getElem? (i := 19) rfl))) (by decide) (backOf (W := 0) (rmMix l Z _ hw [] (w + (-7046029254386353131 : Int64)) h2 n0 Z4 ) hZ (hw _ (List.mem_of_getElem? (i := 19) rfl)) (hw _ (List.mem_of_getElem? (i := 2) rfl)) (by decide) (by decide)) (g := (mkF m 16 #[.val (.ref a0)] [(.long (w + (-7046029254386353131 : Int64)))])) rfl (by rw [hml]; rfl) (argsL := [(.long (w + (-7046029254386353131 : Int64)))]) (rest := []) (lenOf pd_0 rfl) rfl (by show 2 * 0 + _ ≤ _; exact Nat.le_of_eq rfl) (hb hby dNl_16) (fun _ _ => ⟨rfl, e8, (by decide : 0 + 0 ≤ _), (by decide : 0 + 0 ≤ _)⟩)
  dsimp only [Pt.U, Pt.locs, Pt.cells, Pt.slots] at X9 l9 y9 z9 st9 hQ9
  subst l9 y9 z9
  obtain ⟨rfl, Nq9, hs9⟩ := hQ9
  have N10 := Fr.app N6 Nq9
  refine OFin.of (S' := T9.setTop (mkF m 19 #[.val (.ref a0)] [(.long (own_mix (w + (-7046029254386353131 : Int64))))])) (fun t ht => st9 t ht) ?_
  exact OFin.retJ X9 hx hlk hret (hb hby dNl_19) (by decide) (by decide) (by rw [hs9]; exact ⟨rfl, N10, K5, f7⟩)
theorem pn0 : plainName "com/example/weekly_activity_scheduler/weeklyactivityscheduler/models/RandomStreamNextLongPinLaw" = true := by first | (simp [plainName, overriddenIn]; done) | decide +kernel
theorem ef0 (m : MethodId) (q0 : Int64) (q1 : Int64) : entryFrame m #[(.long q0), (.long q1)] maxLocals = mkF m 0 #[.val (.long q0), .second, .val (.long q1), .second, .unset, .unset, .unset, .unset, .unset, .unset, .unset, .unset, .unset, .unset, .unset, .unset, .unset, .unset, .unset, .unset, .unset] [] := by first | (simp [entryFrame, mkF, argsToLocals, Value.category, maxLocals]; done) | rfl
def Q0 (Z : State) (q0 : Int64) (q1 : Int64) (h0 : Heap) (n0 : Nat) (v : Option Value) (h : Heap) (L : List Loc) : Prop := v = some (.int (1 : Int32)) ∧ Fr n0 L
set_option maxRecDepth 65536 in
set_option maxHeartbeats 40000000 in
theorem rm0 (l : Launch) (Z : State) (a0 : Array Value) (hw : ∀ d ∈ tables_1, d.before a0 Z = true) (ws : List Jvm.Cond) (q0 : Int64) (q1 : Int64) (h0 : Heap) (n0 : Nat) (Z0 : n0 ≤ h0.size)  :
    MetFree l x (head1 (Jvm.Cond.code x code maxLocals ret :: ws) room_1) (fun a U => a = #[(.long q0), (.long q1)] ∧ Z.Warmed39 U.vm ∧ U.heap = h0) (fun _ _ _ _ _ => True) (fun _ U o U' => ∃ v L, o = .returned v ∧ Q0 Z q0 q1 h0 n0 v U'.heap L ∧ FrameEnd U o U' L room_1.cells room_1.slots) := by
  refine MetFree.of_bodySF (plainFor_of_name pn0) hisR ?_
  intro p e s m args below meth c s₁ Bd hml0 hP hK
  obtain ⟨rfl, hZ, hh⟩ := hP
  have hx := Bd.exec
  have hby := Bd.bytes
  have hlk := BodyLoose.notSynchronized Bd
  have hret := Bd.returns
  have hml : c.maxLocals = 21 := hml0
  have hown : s.vm.findClass "com/example/weekly_activity_scheduler/weeklyactivityscheduler/models/RandomStreamNextLongPinLaw" = some m.cls := findClass_of_methodNamed Bd.named
  have hnm := (name_of_methodNamed Bd.named Bd.method).1
  have X0 : Stand p l e room_1 s m #[(.long q0), (.long q1)] below meth c s₁ [] 0 0 := Stand.of_body Bd
  have e0 : s₁.heap = h0 := by rw [← hh, Bd.state]; rfl
  have N0 := Fr.nil n0
  show OFin p e below (KPost s (Q0 Z q0 q1 h0 n0) room_1.cells room_1.slots) _
  rw [ef0 m q0 q1]
  obtain ⟨T1, h1, X1, e1, E1, A1, D1, -, st1⟩ := newO X0 hx hZ hown (hw _ (List.mem_of_getElem? (i := 0) rfl)) (hw _ (List.mem_of_getElem? (i := 1) rfl)) (hw _ (List.mem_of_getElem? (i := 2) rfl)) e0 (g := (mkF m 0 #[.val (.long q0), .second, .val (.long q1), .second, .unset, .unset, .unset, .unset, .unset, .unset, .unset, .unset, .unset, .unset, .unset, .unset, .unset, .unset, .unset, .unset, .unset] [])) rfl (hb hby at_0) (by decide) (by decide)
  obtain ⟨b1, gq1⟩ : ∃ z, z = h0.size := ⟨_, rfl⟩
  rw [← gq1] at A1 D1 st1
  have g2 : n0 ≤ b1 := (Nat.le_trans Z0 (Nat.le_of_eq gq1.symm))
  have Z3 : n0 ≤ h1.size := (Nat.le_trans Z0 E1.1)
  have f4 : Fld Z h1 b1 "com/example/weekly_activity_scheduler/weeklyactivityscheduler/models/RandomStream" "state" "J" (.long (0 : Int64)) := D1 (Or.inl (hw _ (List.mem_of_getElem? (i := 10) rfl))) (ty := .long) (by decide)
  refine OFin.of (S' := T1.setTop (mkF m 3 #[.val (.long q0), .second, .val (.long q1), .second, .unset, .unset, .unset, .unset, .unset, .unset, .unset, .unset, .unset, .unset, .unset, .unset, .unset, .unset, .unset, .unset, .unset] [(.ref b1)])) (fun t ht => st1 t ht) ?_
  refine OFin.of (S' := T1.setTop (mkF m 5 #[.val (.long q0), .second, .val (.long q1), .second, .unset, .unset, .unset, .unset, .unset, .unset, .unset, .unset, .unset, .unset, .unset, .unset, .unset, .unset, .unset, .unset, .unset] [(.long q0), (.ref b1), (.ref b1)])) (fun t ht => ?_) ?_
  · refine XS.dup X1.here hx rfl (hb hby at_3) rfl rfl ?_
    show Steps p.tables e below (T1.setTop (mkF m 4 _ [(.ref b1), (.ref b1)])) _
    refine XS.lloadN X1.here hx rfl (hb hby at_4) rfl ?_
    exact ht
  obtain ⟨_, _, ⟨T5, L5, k5, n5⟩, -, X5, ⟨Lc5, hQ5, l5, y5, z5⟩, st5⟩ := X1.specialBack hx (y := (⟨"com/example/weekly_activity_scheduler/weeklyactivityscheduler/models/RandomStream", "<init>", "(J)V"⟩ : MethodName)) rfl hown (mvT hZ (hw _ (List.mem_of_getElem? (i := 3) rfl))) (mvT hZ (hw _ (List.mem_of_getElem? (i := 4) rfl))) (mvT hZ (hw _ (List.mem_of_getElem? (i := 5) rfl))) (by decide) (backOf (W := 1) (rmIni l Z _ hw [] b1 q0 h1 n0 Z3 A1 f4 g2) hZ (hw _ (List.mem_of_getElem? (i := 5) rfl)) (hw _ (List.mem_of_getElem? (i := 2) rfl)) (by decide) (by decide)) (g := (mkF m 5 #[.val (.long q0), .second, .val (.long q1), .second, .unset, .unset, .unset, .unset, .unset, .unset, .unset, .unset, .unset, .unset, .unset, .unset, .unset, .unset, .unset, .unset, .unset] [(.long q0), (.ref b1), (.ref b1)])) rfl (by rw [hml]; rfl) (Steps.refl _) (a := b1) (argsL := [(.long q0)]) (rest := [(.ref b1)]) (lenOf pd_1 rfl) rfl (by show 2 * 0 + _ ≤ _; exact Nat.le_of_eq rfl) (hb hby at_5) (fun _ _ => ⟨rfl, e1, (by decide : 1 + 0 ≤ _), (by decide : 1 + 0 ≤ _)⟩)
  dsimp only [Pt.U, Pt.locs, Pt.cells, Pt.slots] at X5 l5 y5 z5 st5 hQ5
  subst l5 y5 z5
  obtain ⟨rfl, Nq5, Kq5, f6⟩ := hQ5
  have N7 := Fr.app N0 Nq5
  have f8 := (A1.keep Kq5)
  have Z9 : n0 ≤ T5.heap.size := (Nat.le_trans Z3 Kq5.1)
  refine OFin.to (S' := T5.setTop (mkF m 8 #[.val (.long q0), .second, .val (.long q1), .second, .unset, .unset, .unset, .unset, .unset, .unset, .unset, .unset, .unset, .unset, .unset, .unset, .unset, .unset, .unset, .unset, .unset] [(.ref b1)])) st5 ?_
  refine OFin.of (S' := T5.setTop (mkF m 12 #[.val (.long q0), .second, .val (.long q1), .second, .val (.ref b1), .unset, .unset, .unset, .unset, .unset, .unset, .unset, .unset, .unset, .unset, .unset, .unset, .unset, .unset, .unset, .unset] [(.ref b1)])) (fun t ht => ?_) ?_
  · refine XS.astore X5.here hx rfl (hb hby at_8) rfl rfl (l' := #[.val (.long q0), .second, .val (.long q1), .second, .val (.ref b1), .unset, .unset, .unset, .unset, .unset, .unset, .unset, .unset, .unset, .unset, .unset, .unset, .unset, .unset, .unset, .unset]) rfl ?_
    show Steps p.tables e below (T5.setTop (mkF m 10 #[.val (.long q0), .second, .val (.long q1), .second, .val (.ref b1), .unset, .unset, .unset, .unset, .unset, .unset, .unset, .unset, .unset, .unset, .unset, .unset, .unset, .unset, .unset, .unset] [])) _
    refine XS.aload X5.here hx rfl (hb hby at_10) rfl rfl ?_
    exact ht
  obtain ⟨cq11, kq11, q11a, q11b, q11c⟩ := isOf hZ (rfl : T5.heap = T5.heap) f8
  obtain ⟨_, _, ⟨T10, L10, k10, n10⟩, -, X10, ⟨Lc10, hQ10, l10, y10, z10⟩, st10⟩ := X5.virtualBack hx (y := (⟨"com/example/weekly_activity_scheduler/weeklyactivityscheduler/models/RandomStream", "nextLong", "()J"⟩ : MethodName)) (z := (⟨"com/example/weekly_activity_scheduler/weeklyactivityscheduler/models/RandomStream", "nextLong", "()J"⟩ : MethodName)) hown (mvT hZ (hw _ (List.mem_of_getElem? (i := 11) rfl))) (mvT hZ (hw _ (List.mem_of_getElem? (i := 12) rfl))) (notFace_of_selects (args := #[]) (mvT hZ (hw _ (List.mem_of_getElem? (i := 14) rfl)))) (mvT hZ (hw _ (List.mem_of_getElem? (i := 14) rfl))) (mvT hZ (hw _ (List.mem_of_getElem? (i := 13) rfl))) (by decide) (backOf (W := 0) (rmNl l Z _ hw [] b1 q0 T5.heap n0 Z9 f8 f6 g2) hZ (hw _ (List.mem_of_getElem? (i := 15) rfl)) (hw _ (List.mem_of_getElem? (i := 2) rfl)) (by decide) (by decide)) q11a q11c (g := (mkF m 12 #[.val (.long q0), .second, .val (.long q1), .second, .val (.ref b1), .unset, .unset, .unset, .unset, .unset, .unset, .unset, .unset, .unset, .unset, .unset, .unset, .unset, .unset, .unset, .unset] [(.ref b1)])) rfl (by rw [hml]; rfl) (Steps.refl _) (argsL := []) (rest := []) (lenOf pd_2 rfl) rfl (by show 2 * 0 + _ ≤ _; exact Nat.le_of_eq rfl) (hb hby at_12) (fun _ _ => ⟨rfl, (rfl : T5.heap = T5.heap), (by decide : 1 + 0 ≤ _), (by decide : 1 + 0 ≤ _)⟩)
  dsimp only [Pt.U, Pt.locs, Pt.cells, Pt.slots] at X10 l10 y10 z10 st10 hQ10
  subst l10 y10 z10
  obtain ⟨rfl, Nq10, Kq10, f12⟩ := hQ10
  have N13 := Fr.app N7 Nq10
  have f14 := (f8.keep Kq10)
  have Z15 : n0 ≤ T10.heap.size := (Nat.le_trans Z9 Kq10.1)
  refine OFin.to (S' := T10.setTop (mkF m 15 #[.val (.long q0), .second, .val (.long q1), .second, .val (.ref b1), .unset, .unset, .unset, .unset, .unset, .unset, .unset, .unset, .unset, .unset, .unset, .unset, .unset, .unset, .unset, .unset] [(.long (own_mix (q0 + (-7046029254386353131 : Int64))))])) st10 ?_
  refine OFin.of (S' := T10.setTop (mkF m 19 #[.val (.long q0), .second, .val (.long q1), .second, .val (.ref b1), .val (.long (own_mix (q0 + (-7046029254386353131 : Int64)))), .second, .unset, .unset, .unset, .unset, .unset, .unset, .unset, .unset, .unset, .unset, .unset, .unset, .unset, .unset] [(.ref b1)])) (fun t ht => ?_) ?_
  · refine XS.lstore X10.here hx rfl (hb hby at_15) rfl (l' := #[.val (.long q0), .second, .val (.long q1), .second, .val (.ref b1), .val (.long (own_mix (q0 + (-7046029254386353131 : Int64)))), .second, .unset, .unset, .unset, .unset, .unset, .unset, .unset, .unset, .unset, .unset, .unset, .unset, .unset, .unset]) rfl ?_
    show Steps p.tables e below (T10.setTop (mkF m 17 #[.val (.long q0), .second, .val (.long q1), .second, .val (.ref b1), .val (.long (own_mix (q0 + (-7046029254386353131 : Int64)))), .second, .unset, .unset, .unset, .unset, .unset, .unset, .unset, .unset, .unset, .unset, .unset, .unset, .unset, .unset] [])) _
    refine XS.aload X10.here hx rfl (hb hby at_17) rfl rfl ?_
    exact ht
  obtain ⟨cq17, kq17, q17a, q17b, q17c⟩ := isOf hZ (rfl : T10.heap = T10.heap) f14
  obtain ⟨_, _, ⟨T16, L16, k16, n16⟩, -, X16, ⟨Lc16, hQ16, l16, y16, z16⟩, st16⟩ := X10.virtualBack hx (y := (⟨"com/example/weekly_activity_scheduler/weeklyactivityscheduler/models/RandomStream", "nextLong", "()J"⟩ : MethodName)) (z := (⟨"com/example/weekly_activity_scheduler/weeklyactivityscheduler/models/RandomStream", "nextLong", "()J"⟩ : MethodName)) hown (mvT hZ (hw _ (List.mem_of_getElem? (i := 11) rfl))) (mvT hZ (hw _ (List.mem_of_getElem? (i := 12) rfl))) (notFace_of_selects (args := #[]) (mvT hZ (hw _ (List.mem_of_getElem? (i := 14) rfl)))) (mvT hZ (hw _ (List.mem_of_getElem? (i := 14) rfl))) (mvT hZ (hw _ (List.mem_of_getElem? (i := 13) rfl))) (by decide) (backOf (W := 0) (rmNl l Z _ hw [] b1 (q0 + (-7046029254386353131 : Int64)) T10.heap n0 Z15 f14 f12 g2) hZ (hw _ (List.mem_of_getElem? (i := 15) rfl)) (hw _ (List.mem_of_getElem? (i := 2) rfl)) (by decide) (by decide)) q17a q17c (g := (mkF m 19 #[.val (.long q0), .second, .val (.long q1), .second, .val (.ref b1), .val (.long (own_mix (q0 + (-7046029254386353131 : Int64)))), .second, .unset, .unset, .unset, .unset, .unset, .unset, .unset, .unset, .unset, .unset, .unset, .unset, .unset, .unset] [(.ref b1)])) rfl (by rw [hml]; rfl) (Steps.refl _) (argsL := []) (rest := []) (lenOf pd_2 rfl) rfl (by show 2 * 0 + _ ≤ _; exact Nat.le_of_eq rfl) (hb hby at_19) (fun _ _ => ⟨rfl, (rfl : T10.heap = T10.heap), (by decide : 1 + 0 ≤ _), (by decide : 1 + 0 ≤ _)⟩)
  dsimp only [Pt.U, Pt.locs, Pt.cells, Pt.slots] at X16 l16 y16 z16 st16 hQ16
  subst l16 y16 z16
  obtain ⟨rfl, Nq16, Kq16, f18⟩ := hQ16
  have N19 := Fr.app N13 Nq16
  have f20 := (f14.keep Kq16)
  have Z21 : n0 ≤ T16.heap.size := (Nat.le_trans Z15 Kq16.1)
  refine OFin.to (S' := T16.setTop (mkF m 22 #[.val (.long q0), .second, .val (.long q1), .second, .val (.ref b1), .val (.long (own_mix (q0 + (-7046029254386353131 : Int64)))), .second, .unset, .unset, .unset, .unset, .unset, .unset, .unset, .unset, .unset, .unset, .unset, .unset, .unset, .unset] [(.long (own_mix ((q0 + (-7046029254386353131 : Int64)) + (-7046029254386353131 : Int64))))])) st16 ?_
  refine OFin.of (S' := T16.setTop (mkF m 24 #[.val (.long q0), .second, .val (.long q1), .second, .val (.ref b1), .val (.long (own_mix (q0 + (-7046029254386353131 : Int64)))), .second, .val (.long (own_mix ((q0 + (-7046029254386353131 : Int64)) + (-7046029254386353131 : Int64)))), .second, .unset, .unset, .unset, .unset, .unset, .unset, .unset, .unset, .unset, .unset, .unset, .unset] [])) (fun t ht => ?_) ?_
  · refine XS.lstore X16.here hx rfl (hb hby at_22) rfl (l' := #[.val (.long q0), .second, .val (.long q1), .second, .val (.ref b1), .val (.long (own_mix (q0 + (-7046029254386353131 : Int64)))), .second, .val (.long (own_mix ((q0 + (-7046029254386353131 : Int64)) + (-7046029254386353131 : Int64)))), .second, .unset, .unset, .unset, .unset, .unset, .unset, .unset, .unset, .unset, .unset, .unset, .unset]) rfl ?_
    exact ht
  obtain ⟨T22, h22, X22, e22, E22, A22, D22, -, st22⟩ := newO X16 hx hZ hown (hw _ (List.mem_of_getElem? (i := 0) rfl)) (hw _ (List.mem_of_getElem? (i := 1) rfl)) (hw _ (List.mem_of_getElem? (i := 2) rfl)) (rfl : T16.heap = T16.heap) (g := (mkF m 24 #[.val (.long q0), .second, .val (.long q1), .second, .val (.ref b1), .val (.long (own_mix (q0 + (-7046029254386353131 : Int64)))), .second, .val (.long (own_mix ((q0 + (-7046029254386353131 : Int64)) + (-7046029254386353131 : Int64)))), .second, .unset, .unset, .unset, .unset, .unset, .unset, .unset, .unset, .unset, .unset, .unset, .unset] [])) rfl (hb hby at_24) (by decide) (by decide)
  obtain ⟨b22, gq22⟩ : ∃ z, z = T16.heap.size := ⟨_, rfl⟩
  rw [← gq22] at A22 D22 st22
  have g23 : n0 ≤ b22 := (Nat.le_trans Z21 (Nat.le_of_eq gq22.symm))
  have ne24 : b1 ≠ b22 := (Nat.ne_of_lt (Nat.lt_of_lt_of_le f20.lt (Nat.le_of_eq gq22.symm)))
  have f25 := f20.ext E22
  have f26 := f18.ext E22
  have Z27 : n0 ≤ h22.size := (Nat.le_trans Z21 E22.1)
  have f28 : Fld Z h22 b22 "com/example/weekly_activity_scheduler/weeklyactivityscheduler/models/RandomStream" "state" "J" (.long (0 : Int64)) := D22 (Or.inl (hw _ (List.mem_of_getElem? (i := 10) rfl))) (ty := .long) (by decide)
  refine OFin.of (S' := T22.setTop (mkF m 27 #[.val (.long q0), .second, .val (.long q1), .second, .val (.ref b1), .val (.long (own_mix (q0 + (-7046029254386353131 : Int64)))), .second, .val (.long (own_mix ((q0 + (-7046029254386353131 : Int64)) + (-7046029254386353131 : Int64)))), .second, .unset, .unset, .unset, .unset, .unset, .unset, .unset, .unset, .unset, .unset, .unset, .unset] [(.ref b22)])) (fun t ht => st22 t ht) ?_
  refine OFin.of (S' := T22.setTop (mkF m 33 #[.val (.long q0), .second, .val (.long q1), .second, .val (.ref b1), .val (.long (own_mix (q0 + (-7046029254386353131 : Int64)))), .second, .val (.long (own_mix ((q0 + (-7046029254386353131 : Int64)) + (-7046029254386353131 : Int64)))), .second, .unset, .unset, .unset, .unset, .unset, .unset, .unset, .unset, .unset, .unset, .unset, .unset] [(.long (q0 + (-7046029254386353131 : Int64))), (.ref b22), (.ref b22)])) (fun t ht => ?_) ?_
  · refine XS.dup X22.here hx rfl (hb hby at_27) rfl rfl ?_
    show Steps p.tables e below (T22.setTop (mkF m 28 _ [(.ref b22), (.ref b22)])) _
    refine XS.lloadN X22.here hx rfl (hb hby at_28) rfl ?_
    show Steps p.tables e below (T22.setTop (mkF m 29 _ [(.long q0), (.ref b22), (.ref b22)])) _
    refine X22.ldc2Long hx hown (mvT hZ (hw _ (List.mem_of_getElem? (i := 22) rfl))) (g := (mkF m 29 #[.val (.long q0), .second, .val (.long q1), .second, .val (.ref b1), .val (.long (own_mix (q0 + (-7046029254386353131 : Int64)))), .second, .val (.long (own_mix ((q0 + (-7046029254386353131 : Int64)) + (-7046029254386353131 : Int64)))), .second, .unset, .unset, .unset, .unset, .unset, .unset, .unset, .unset, .unset, .unset, .unset, .unset] [(.long q0), (.ref b22), (.ref b22)])) rfl (hb hby at_29) _ ?_
    show Steps p.tables e below (T22.setTop (mkF m 32 _ [(.long (-7046029254386353131 : Int64)), (.long q0), (.ref b22), (.ref b22)])) _
    refine XS.ladd X22.here hx rfl (hb hby at_32) rfl ?_
    exact ht
  obtain ⟨_, _, ⟨T29, L29, k29, n29⟩, -, X29, ⟨Lc29, hQ29, l29, y29, z29⟩, st29⟩ := X22.specialBack hx (y := (⟨"com/example/weekly_activity_scheduler/weeklyactivityscheduler/models/RandomStream", "<init>", "(J)V"⟩ : MethodName)) rfl hown (mvT hZ (hw _ (List.mem_of_getElem? (i := 3) rfl))) (mvT hZ (hw _ (List.mem_of_getElem? (i := 4) rfl))) (mvT hZ (hw _ (List.mem_of_getElem? (i := 5) rfl))) (by decide) (backOf (W := 1) (rmIni l Z _ hw [] b22 (q0 + (-7046029254386353131 : Int64)) h22 n0 Z27 A22 f28 g23) hZ (hw _ (List.mem_of_getElem? (i := 5) rfl)) (hw _ (List.mem_of_getElem? (i := 2) rfl)) (by decide) (by decide)) (g := (mkF m 33 #[.val (.long q0), .second, .val (.long q1), .second, .val (.ref b1), .val (.long (own_mix (q0 + (-7046029254386353131 : Int64)))), .second, .val (.long (own_mix ((q0 + (-7046029254386353131 : Int64)) + (-7046029254386353131 : Int64)))), .second, .unset, .unset, .unset, .unset, .unset, .unset, .unset, .unset, .unset, .unset, .unset, .unset] [(.long (q0 + (-7046029254386353131 : Int64))), (.ref b22), (.ref b22)])) rfl (by rw [hml]; rfl) (Steps.refl _) (a := b22) (argsL := [(.long (q0 + (-7046029254386353131 : Int64)))]) (rest := [(.ref b22)]) (lenOf pd_1 rfl) rfl (by show 2 * 0 + _ ≤ _; exact Nat.le_of_eq rfl) (hb hby at_33) (fun _ _ => ⟨rfl, e22, (by decide : 2 + 0 ≤ _), (by decide : 2 + 0 ≤ _)⟩)
  dsimp only [Pt.U, Pt.locs, Pt.cells, Pt.slots] at X29 l29 y29 z29 st29 hQ29
  subst l29 y29 z29
  obtain ⟨rfl, Nq29, Kq29, f30⟩ := hQ29
  have N31 := Fr.app N19 Nq29
  have f32 := (f25.keep Kq29)
  have f33 := (f26.keep Kq29 (ninS ne24 nin0))
  have f34 := (A22.keep Kq29)
  have Z35 : n0 ≤ T29.heap.size := (Nat.le_trans Z27 Kq29.1)
  refine OFin.to (S' := T29.setTop (mkF m 36 #[.val (.long q0), .second, .val (.long q1), .second, .val (.ref b1), .val (.long (own_mix (q0 + (-7046029254386353131 : Int64)))), .second, .val (.long (own_mix ((q0 + (-7046029254386353131 : Int64)) + (-7046029254386353131 : Int64)))), .second, .unset, .unset, .unset, .unset, .unset, .unset, .unset, .unset, .unset, .unset, .unset, .unset] [(.ref b22)])) st29 ?_
  refine OFin.of (S' := T29.setTop (mkF m 40 #[.val (.long q0), .second, .val (.long q1), .second, .val (.ref b1), .val (.long (own_mix (q0 + (-7046029254386353131 : Int64)))), .second, .val (.long (own_mix ((q0 + (-7046029254386353131 : Int64)) + (-7046029254386353131 : Int64)))), .second, .val (.ref b22), .unset, .unset, .unset, .unset, .unset, .unset, .unset, .unset, .unset, .unset, .unset] [(.ref b22)])) (fun t ht => ?_) ?_
  · refine XS.astore X29.here hx rfl (hb hby at_36) rfl rfl (l' := #[.val (.long q0), .second, .val (.long q1), .second, .val (.ref b1), .val (.long (own_mix (q0 + (-7046029254386353131 : Int64)))), .second, .val (.long (own_mix ((q0 + (-7046029254386353131 : Int64)) + (-7046029254386353131 : Int64)))), .second, .val (.ref b22), .unset, .unset, .unset, .unset, .unset, .unset, .unset, .unset, .unset, .unset, .unset]) rfl ?_
    show Steps p.tables e below (T29.setTop (mkF m 38 #[.val (.long q0), .second, .val (.long q1), .second, .val (.ref b1), .val (.long (own_mix (q0 + (-7046029254386353131 : Int64)))), .second, .val (.long (own_mix ((q0 + (-7046029254386353131 : Int64)) + (-7046029254386353131 : Int64)))), .second, .val (.ref b22), .unset, .unset, .unset, .unset, .unset, .unset, .unset, .unset, .unset, .unset, .unset] [])) _
    refine XS.aload X29.here hx rfl (hb hby at_38) rfl rfl ?_
    exact ht
  obtain ⟨cq37, kq37, q37a, q37b, q37c⟩ := isOf hZ (rfl : T29.heap = T29.heap) f34
  obtain ⟨_, _, ⟨T36, L36, k36, n36⟩, -, X36, ⟨Lc36, hQ36, l36, y36, z36⟩, st36⟩ := X29.virtualBack hx (y := (⟨"com/example/weekly_activity_scheduler/weeklyactivityscheduler/models/RandomStream", "nextLong", "()J"⟩ : MethodName)) (z := (⟨"com/example/weekly_activity_scheduler/weeklyactivityscheduler/models/RandomStream", "nextLong", "()J"⟩ : MethodName)) hown (mvT hZ (hw _ (List.mem_of_getElem? (i := 11) rfl))) (mvT hZ (hw _ (List.mem_of_getElem? (i := 12) rfl))) (notFace_of_selects (args := #[]) (mvT hZ (hw _ (List.mem_of_getElem? (i := 14) rfl)))) (mvT hZ (hw _ (List.mem_of_getElem? (i := 14) rfl))) (mvT hZ (hw _ (List.mem_of_getElem? (i := 13) rfl))) (by decide) (backOf (W := 0) (rmNl l Z _ hw [] b22 (q0 + (-7046029254386353131 : Int64)) T29.heap n0 Z35 f34 f30 g23) hZ (hw _ (List.mem_of_getElem? (i := 15) rfl)) (hw _ (List.mem_of_getElem? (i := 2) rfl)) (by decide) (by decide)) q37a q37c (g := (mkF m 40 #[.val (.long q0), .second, .val (.long q1), .second, .val (.ref b1), .val (.long (own_mix (q0 + (-7046029254386353131 : Int64)))), .second, .val (.long (own_mix ((q0 + (-7046029254386353131 : Int64)) + (-7046029254386353131 : Int64)))), .second, .val (.ref b22), .unset, .unset, .unset, .unset, .unset, .unset, .unset, .unset, .unset, .unset, .unset] [(.ref b22)])) rfl (by rw [hml]; rfl) (Steps.refl _) (argsL := []) (rest := []) (lenOf pd_2 rfl) rfl (by show 2 * 0 + _ ≤ _; exact Nat.le_of_eq rfl) (hb hby at_40) (fun _ _ => ⟨rfl, (rfl : T29.heap = T29.heap), (by decide : 2 + 0 ≤ _), (by decide : 2 + 0 ≤ _)⟩)
  dsimp only [Pt.U, Pt.locs, Pt.cells, Pt.slots] at X36 l36 y36 z36 st36 hQ36
  subst l36 y36 z36
  obtain ⟨rfl, Nq36, Kq36, f38⟩ := hQ36
  have N39 := Fr.app N31 Nq36
  have f40 := (f32.keep Kq36)
  have f41 := (f33.keep Kq36 (ninS ne24 nin0))
  have f42 := (f34.keep Kq36)
  have Z43 : n0 ≤ T36.heap.size := (Nat.le_trans Z35 Kq36.1)
  refine OFin.to (S' := T36.setTop (mkF m 43 #[.val (.long q0), .second, .val (.long q1), .second, .val (.ref b1), .val (.long (own_mix (q0 + (-7046029254386353131 : Int64)))), .second, .val (.long (own_mix ((q0 + (-7046029254386353131 : Int64)) + (-7046029254386353131 : Int64)))), .second, .val (.ref b22), .unset, .unset, .unset, .unset, .unset, .unset, .unset, .unset, .unset, .unset, .unset] [(.long (own_mix ((q0 + (-7046029254386353131 : Int64)) + (-7046029254386353131 : Int64))))])) st36 ?_
  refine OFin.of (S' := T36.setTop (mkF m 45 #[.val (.long q0), .second, .val (.long q1), .second, .val (.ref b1), .val (.long (own_mix (q0 + (-7046029254386353131 : Int64)))), .second, .val (.long (own_mix ((q0 + (-7046029254386353131 : Int64)) + (-7046029254386353131 : Int64)))), .second, .val (.ref b22), .val (.long (own_mix ((q0 + (-7046029254386353131 : Int64)) + (-7046029254386353131 : Int64)))), .second, .unset, .unset, .unset, .unset, .unset, .unset, .unset, .unset, .unset] [])) (fun t ht => ?_) ?_
  · refine XS.lstore X36.here hx rfl (hb hby at_43) rfl (l' := #[.val (.long q0), .second, .val (.long q1), .second, .val (.ref b1), .val (.long (own_mix (q0 + (-7046029254386353131 : Int64)))), .second, .val (.long (own_mix ((q0 + (-7046029254386353131 : Int64)) + (-7046029254386353131 : Int64)))), .second, .val (.ref b22), .val (.long (own_mix ((q0 + (-7046029254386353131 : Int64)) + (-7046029254386353131 : Int64)))), .second, .unset, .unset, .unset, .unset, .unset, .unset, .unset, .unset, .unset]) rfl ?_
    exact ht
  obtain ⟨T44, h44, X44, e44, E44, A44, D44, -, st44⟩ := newO X36 hx hZ hown (hw _ (List.mem_of_getElem? (i := 0) rfl)) (hw _ (List.mem_of_getElem? (i := 1) rfl)) (hw _ (List.mem_of_getElem? (i := 2) rfl)) (rfl : T36.heap = T36.heap) (g := (mkF m 45 #[.val (.long q0), .second, .val (.long q1), .second, .val (.ref b1), .val (.long (own_mix (q0 + (-7046029254386353131 : Int64)))), .second, .val (.long (own_mix ((q0 + (-7046029254386353131 : Int64)) + (-7046029254386353131 : Int64)))), .second, .val (.ref b22), .val (.long (own_mix ((q0 + (-7046029254386353131 : Int64)) + (-7046029254386353131 : Int64)))), .second, .unset, .unset, .unset, .unset, .unset, .unset, .unset, .unset, .unset] [])) rfl (hb hby at_45) (by decide) (by decide)
  obtain ⟨b44, gq44⟩ : ∃ z, z = T36.heap.size := ⟨_, rfl⟩
  rw [← gq44] at A44 D44 st44
  have g45 : n0 ≤ b44 := (Nat.le_trans Z43 (Nat.le_of_eq gq44.symm))
  have ne46 : b1 ≠ b44 := (Nat.ne_of_lt (Nat.lt_of_lt_of_le f40.lt (Nat.le_of_eq gq44.symm)))
  have ne47 : b22 ≠ b44 := (Nat.ne_of_lt (Nat.lt_of_lt_of_le f42.lt (Nat.le_of_eq gq44.symm)))
  have f48 := f40.ext E44
  have f49 := f41.ext E44
  have f50 := f42.ext E44
  have f51 := f38.ext E44
  have Z52 : n0 ≤ h44.size := (Nat.le_trans Z43 E44.1)
  have f53 : Fld Z h44 b44 "com/example/weekly_activity_scheduler/weeklyactivityscheduler/models/RandomStream" "state" "J" (.long (0 : Int64)) := D44 (Or.inl (hw _ (List.mem_of_getElem? (i := 10) rfl))) (ty := .long) (by decide)
  refine OFin.of (S' := T44.setTop (mkF m 48 #[.val (.long q0), .second, .val (.long q1), .second, .val (.ref b1), .val (.long (own_mix (q0 + (-7046029254386353131 : Int64)))), .second, .val (.long (own_mix ((q0 + (-7046029254386353131 : Int64)) + (-7046029254386353131 : Int64)))), .second, .val (.ref b22), .val (.long (own_mix ((q0 + (-7046029254386353131 : Int64)) + (-7046029254386353131 : Int64)))), .second, .unset, .unset, .unset, .unset, .unset, .unset, .unset, .unset, .unset] [(.ref b44)])) (fun t ht => st44 t ht) ?_
  refine OFin.of (S' := T44.setTop (mkF m 50 #[.val (.long q0), .second, .val (.long q1), .second, .val (.ref b1), .val (.long (own_mix (q0 + (-7046029254386353131 : Int64)))), .second, .val (.long (own_mix ((q0 + (-7046029254386353131 : Int64)) + (-7046029254386353131 : Int64)))), .second, .val (.ref b22), .val (.long (own_mix ((q0 + (-7046029254386353131 : Int64)) + (-7046029254386353131 : Int64)))), .second, .unset, .unset, .unset, .unset, .unset, .unset, .unset, .unset, .unset] [(.long q1), (.ref b44), (.ref b44)])) (fun t ht => ?_) ?_
  · refine XS.dup X44.here hx rfl (hb hby at_48) rfl rfl ?_
    show Steps p.tables e below (T44.setTop (mkF m 49 _ [(.ref b44), (.ref b44)])) _
    refine XS.lloadN X44.here hx rfl (hb hby at_49) rfl ?_
    exact ht
  obtain ⟨_, _, ⟨T54, L54, k54, n54⟩, -, X54, ⟨Lc54, hQ54, l54, y54, z54⟩, st54⟩ := X44.specialBack hx (y := (⟨"com/example/weekly_activity_scheduler/weeklyactivityscheduler/models/RandomStream", "<init>", "(J)V"⟩ : MethodName)) rfl hown (mvT hZ (hw _ (List.mem_of_getElem? (i := 3) rfl))) (mvT hZ (hw _ (List.mem_of_getElem? (i := 4) rfl))) (mvT hZ (hw _ (List.mem_of_getElem? (i := 5) rfl))) (by decide) (backOf (W := 1) (rmIni l Z _ hw [] b44 q1 h44 n0 Z52 A44 f53 g45) hZ (hw _ (List.mem_of_getElem? (i := 5) rfl)) (hw _ (List.mem_of_getElem? (i := 2) rfl)) (by decide) (by decide)) (g := (mkF m 50 #[.val (.long q0), .second, .val (.long q1), .second, .val (.ref b1), .val (.long (own_mix (q0 + (-7046029254386353131 : Int64)))), .second, .val (.long (own_mix ((q0 + (-7046029254386353131 : Int64)) + (-7046029254386353131 : Int64)))), .second, .val (.ref b22), .val (.long (own_mix ((q0 + (-7046029254386353131 : Int64)) + (-7046029254386353131 : Int64)))), .second, .unset, .unset, .unset, .unset, .unset, .unset, .unset, .unset, .unset] [(.long q1), (.ref b44), (.ref b44)])) rfl (by rw [hml]; rfl) (Steps.refl _) (a := b44) (argsL := [(.long q1)]) (rest := [(.ref b44)]) (lenOf pd_1 rfl) rfl (by show 2 * 0 + _ ≤ _; exact Nat.le_of_eq rfl) (hb hby at_50) (fun _ _ => ⟨rfl, e44, (by decide : 3 + 0 ≤ _), (by decide : 3 + 0 ≤ _)⟩)
  dsimp only [Pt.U, Pt.locs, Pt.cells, Pt.slots] at X54 l54 y54 z54 st54 hQ54
  subst l54 y54 z54
  obtain ⟨rfl, Nq54, Kq54, f55⟩ := hQ54
  have N56 := Fr.app N39 Nq54
  have f57 := (f48.keep Kq54)
  have f58 := (f49.keep Kq54 (ninS ne46 nin0))
  have f59 := (f50.keep Kq54)
  have f60 := (f51.keep Kq54 (ninS ne47 nin0))
  have f61 := (A44.keep Kq54)
  have Z62 : n0 ≤ T54.heap.size := (Nat.le_trans Z52 Kq54.1)
  refine OFin.to (S' := T54.setTop (mkF m 53 #[.val (.long q0), .second, .val (.long q1), .second, .val (.ref b1), .val (.long (own_mix (q0 + (-7046029254386353131 : Int64)))), .second, .val (.long (own_mix ((q0 + (-7046029254386353131 : Int64)) + (-7046029254386353131 : Int64)))), .second, .val (.ref b22), .val (.long (own_mix ((q0 + (-7046029254386353131 : Int64)) + (-7046029254386353131 : Int64)))), .second, .unset, .unset, .unset, .unset, .unset, .unset, .unset, .unset, .unset] [(.ref b44)])) st54 ?_
  refine OFin.of (S' := T54.setTop (mkF m 57 #[.val (.long q0), .second, .val (.long q1), .second, .val (.ref b1), .val (.long (own_mix (q0 + (-7046029254386353131 : Int64)))), .second, .val (.long (own_mix ((q0 + (-7046029254386353131 : Int64)) + (-7046029254386353131 : Int64)))), .second, .val (.ref b22), .val (.long (own_mix ((q0 + (-7046029254386353131 : Int64)) + (-7046029254386353131 : Int64)))), .second, .val (.ref b44), .unset, .unset, .unset, .unset, .unset, .unset, .unset, .unset] [(.ref b44)])) (fun t ht => ?_) ?_
  · refine XS.astore X54.here hx rfl (hb hby at_53) rfl rfl (l' := #[.val (.long q0), .second, .val (.long q1), .second, .val (.ref b1), .val (.long (own_mix (q0 + (-7046029254386353131 : Int64)))), .second, .val (.long (own_mix ((q0 + (-7046029254386353131 : Int64)) + (-7046029254386353131 : Int64)))), .second, .val (.ref b22), .val (.long (own_mix ((q0 + (-7046029254386353131 : Int64)) + (-7046029254386353131 : Int64)))), .second, .val (.ref b44), .unset, .unset, .unset, .unset, .unset, .unset, .unset, .unset]) rfl ?_
    show Steps p.tables e below (T54.setTop (mkF m 55 #[.val (.long q0), .second, .val (.long q1), .second, .val (.ref b1), .val (.long (own_mix (q0 + (-7046029254386353131 : Int64)))), .second, .val (.long (own_mix ((q0 + (-7046029254386353131 : Int64)) + (-7046029254386353131 : Int64)))), .second, .val (.ref b22), .val (.long (own_mix ((q0 + (-7046029254386353131 : Int64)) + (-7046029254386353131 : Int64)))), .second, .val (.ref b44), .unset, .unset, .unset, .unset, .unset, .unset, .unset, .unset] [])) _
    refine XS.aload X54.here hx rfl (hb hby at_55) rfl rfl ?_
    exact ht
  obtain ⟨cq64, kq64, q64a, q64b, q64c⟩ := isOf hZ (rfl : T54.heap = T54.heap) f61
  obtain ⟨_, _, ⟨T63, L63, k63, n63⟩, -, X63, ⟨Lc63, hQ63, l63, y63, z63⟩, st63⟩ := X54.virtualBack hx (y := (⟨"com/example/weekly_activity_scheduler/weeklyactivityscheduler/models/RandomStream", "nextLong", "()J"⟩ : MethodName)) (z := (⟨"com/example/weekly_activity_scheduler/weeklyactivityscheduler/models/RandomStream", "nextLong", "()J"⟩ : MethodName)) hown (mvT hZ (hw _ (List.mem_of_getElem? (i := 11) rfl))) (mvT hZ (hw _ (List.mem_of_getElem? (i := 12) rfl))) (notFace_of_selects (args := #[]) (mvT hZ (hw _ (List.mem_of_getElem? (i := 14) rfl)))) (mvT hZ (hw _ (List.mem_of_getElem? (i := 14) rfl))) (mvT hZ (hw _ (List.mem_of_getElem? (i := 13) rfl))) (by decide) (backOf (W := 0) (rmNl l Z _ hw [] b44 q1 T54.heap n0 Z62 f61 f55 g45) hZ (hw _ (List.mem_of_getElem? (i := 15) rfl)) (hw _ (List.mem_of_getElem? (i := 2) rfl)) (by decide) (by decide)) q64a q64c (g := (mkF m 57 #[.val (.long q0), .second, .val (.long q1), .second, .val (.ref b1), .val (.long (own_mix (q0 + (-7046029254386353131 : Int64)))), .second, .val (.long (own_mix ((q0 + (-7046029254386353131 : Int64)) + (-7046029254386353131 : Int64)))), .second, .val (.ref b22), .val (.long (own_mix ((q0 + (-7046029254386353131 : Int64)) + (-7046029254386353131 : Int64)))), .second, .val (.ref b44), .unset, .unset, .unset, .unset, .unset, .unset, .unset, .unset] [(.ref b44)])) rfl (by rw [hml]; rfl) (Steps.refl _) (argsL := []) (rest := []) (lenOf pd_2 rfl) rfl (by show 2 * 0 + _ ≤ _; exact Nat.le_of_eq rfl) (hb hby at_57) (fun _ _ => ⟨rfl, (rfl : T54.heap = T54.heap), (by decide : 3 + 0 ≤ _), (by decide : 3 + 0 ≤ _)⟩)
  dsimp only [Pt.U, Pt.locs, Pt.cells, Pt.slots] at X63 l63 y63 z63 st63 hQ63
  subst l63 y63 z63
  obtain ⟨rfl, Nq63, Kq63, f65⟩ := hQ63
  have N66 := Fr.app N56 Nq63
  have f67 := (f57.keep Kq63)
  have f68 := (f58.keep Kq63 (ninS ne46 nin0))
  have f69 := (f59.keep Kq63)
  have f70 := (f60.keep Kq63 (ninS ne47 nin0))
  have f71 := (f61.keep Kq63)
  have Z72 : n0 ≤ T63.heap.size := (Nat.le_trans Z62 Kq63.1)
  refine OFin.to (S' := T63.setTop (mkF m 60 #[.val (.long q0), .second, .val (.long q1), .second, .val (.ref b1), .val (.long (own_mix (q0 + (-7046029254386353131 : Int64)))), .second, .val (.long (own_mix ((q0 + (-7046029254386353131 : Int64)) + (-7046029254386353131 : Int64)))), .second, .val (.ref b22), .val (.long (own_mix ((q0 + (-7046029254386353131 : Int64)) + (-7046029254386353131 : Int64)))), .second, .val (.ref b44), .unset, .unset, .unset, .unset, .unset, .unset, .unset, .unset] [(.long (own_mix (q1 + (-7046029254386353131 : Int64))))])) st63 ?_
  refine OFin.of (S' := T63.setTop (mkF m 62 #[.val (.long q0), .second, .val (.long q1), .second, .val (.ref b1), .val (.long (own_mix (q0 + (-7046029254386353131 : Int64)))), .second, .val (.long (own_mix ((q0 + (-7046029254386353131 : Int64)) + (-7046029254386353131 : Int64)))), .second, .val (.ref b22), .val (.long (own_mix ((q0 + (-7046029254386353131 : Int64)) + (-7046029254386353131 : Int64)))), .second, .val (.ref b44), .val (.long (own_mix (q1 + (-7046029254386353131 : Int64)))), .second, .unset, .unset, .unset, .unset, .unset, .unset] [])) (fun t ht => ?_) ?_
  · refine XS.lstore X63.here hx rfl (hb hby at_60) rfl (l' := #[.val (.long q0), .second, .val (.long q1), .second, .val (.ref b1), .val (.long (own_mix (q0 + (-7046029254386353131 : Int64)))), .second, .val (.long (own_mix ((q0 + (-7046029254386353131 : Int64)) + (-7046029254386353131 : Int64)))), .second, .val (.ref b22), .val (.long (own_mix ((q0 + (-7046029254386353131 : Int64)) + (-7046029254386353131 : Int64)))), .second, .val (.ref b44), .val (.long (own_mix (q1 + (-7046029254386353131 : Int64)))), .second, .unset, .unset, .unset, .unset, .unset, .unset]) rfl ?_
    exact ht
  obtain ⟨T73, h73, X73, e73, E73, A73, D73, -, st73⟩ := newO X63 hx hZ hown (hw _ (List.mem_of_getElem? (i := 0) rfl)) (hw _ (List.mem_of_getElem? (i := 1) rfl)) (hw _ (List.mem_of_getElem? (i := 2) rfl)) (rfl : T63.heap = T63.heap) (g := (mkF m 62 #[.val (.long q0), .second, .val (.long q1), .second, .val (.ref b1), .val (.long (own_mix (q0 + (-7046029254386353131 : Int64)))), .second, .val (.long (own_mix ((q0 + (-7046029254386353131 : Int64)) + (-7046029254386353131 : Int64)))), .second, .val (.ref b22), .val (.long (own_mix ((q0 + (-7046029254386353131 : Int64)) + (-7046029254386353131 : Int64)))), .second, .val (.ref b44), .val (.long (own_mix (q1 + (-7046029254386353131 : Int64)))), .second, .unset, .unset, .unset, .unset, .unset, .unset] [])) rfl (hb hby at_62) (by decide) (by decide)
  obtain ⟨b73, gq73⟩ : ∃ z, z = T63.heap.size := ⟨_, rfl⟩
  rw [← gq73] at A73 D73 st73
  have g74 : n0 ≤ b73 := (Nat.le_trans Z72 (Nat.le_of_eq gq73.symm))
  have ne75 : b1 ≠ b73 := (Nat.ne_of_lt (Nat.lt_of_lt_of_le f67.lt (Nat.le_of_eq gq73.symm)))
  have ne76 : b22 ≠ b73 := (Nat.ne_of_lt (Nat.lt_of_lt_of_le f69.lt (Nat.le_of_eq gq73.symm)))
  have ne77 : b44 ≠ b73 := (Nat.ne_of_lt (Nat.lt_of_lt_of_le f71.lt (Nat.le_of_eq gq73.symm)))
  have f78 := f67.ext E73
  have f79 := f68.ext E73
  have f80 := f69.ext E73
  have f81 := f70.ext E73
  have f82 := f71.ext E73
  have f83 := f65.ext E73
  have Z84 : n0 ≤ h73.size := (Nat.le_trans Z72 E73.1)
  have f85 : Fld Z h73 b73 "com/example/weekly_activity_scheduler/weeklyactivityscheduler/models/RandomStream" "state" "J" (.long (0 : Int64)) := D73 (Or.inl (hw _ (List.mem_of_getElem? (i := 10) rfl))) (ty := .long) (by decide)
  refine OFin.of (S' := T73.setTop (mkF m 65 #[.val (.long q0), .second, .val (.long q1), .second, .val (.ref b1), .val (.long (own_mix (q0 + (-7046029254386353131 : Int64)))), .second, .val (.long (own_mix ((q0 + (-7046029254386353131 : Int64)) + (-7046029254386353131 : Int64)))), .second, .val (.ref b22), .val (.long (own_mix ((q0 + (-7046029254386353131 : Int64)) + (-7046029254386353131 : Int64)))), .second, .val (.ref b44), .val (.long (own_mix (q1 + (-7046029254386353131 : Int64)))), .second, .unset, .unset, .unset, .unset, .unset, .unset] [(.ref b73)])) (fun t ht => st73 t ht) ?_
  refine OFin.of (S' := T73.setTop (mkF m 67 #[.val (.long q0), .second, .val (.long q1), .second, .val (.ref b1), .val (.long (own_mix (q0 + (-7046029254386353131 : Int64)))), .second, .val (.long (own_mix ((q0 + (-7046029254386353131 : Int64)) + (-7046029254386353131 : Int64)))), .second, .val (.ref b22), .val (.long (own_mix ((q0 + (-7046029254386353131 : Int64)) + (-7046029254386353131 : Int64)))), .second, .val (.ref b44), .val (.long (own_mix (q1 + (-7046029254386353131 : Int64)))), .second, .unset, .unset, .unset, .unset, .unset, .unset] [(.long (0 : Int64)), (.ref b73), (.ref b73)])) (fun t ht => ?_) ?_
  · refine XS.dup X73.here hx rfl (hb hby at_65) rfl rfl ?_
    show Steps p.tables e below (T73.setTop (mkF m 66 _ [(.ref b73), (.ref b73)])) _
    refine XS.lconst X73.here hx rfl (hb hby at_66) ?_
    exact ht
  obtain ⟨_, _, ⟨T86, L86, k86, n86⟩, -, X86, ⟨Lc86, hQ86, l86, y86, z86⟩, st86⟩ := X73.specialBack hx (y := (⟨"com/example/weekly_activity_scheduler/weeklyactivityscheduler/models/RandomStream", "<init>", "(J)V"⟩ : MethodName)) rfl hown (mvT hZ (hw _ (List.mem_of_getElem? (i := 3) rfl))) (mvT hZ (hw _ (List.mem_of_getElem? (i := 4) rfl))) (mvT hZ (hw _ (List.mem_of_getElem? (i := 5) rfl))) (by decide) (backOf (W := 1) (rmIni l Z _ hw [] b73 (0 : Int64) h73 n0 Z84 A73 f85 g74) hZ (hw _ (List.mem_of_getElem? (i := 5) rfl)) (hw _ (List.mem_of_getElem? (i := 2) rfl)) (by decide) (by decide)) (g := (mkF m 67 #[.val (.long q0), .second, .val (.long q1), .second, .val (.ref b1), .val (.long (own_mix (q0 + (-7046029254386353131 : Int64)))), .second, .val (.long (own_mix ((q0 + (-7046029254386353131 : Int64)) + (-7046029254386353131 : Int64)))), .second, .val (.ref b22), .val (.long (own_mix ((q0 + (-7046029254386353131 : Int64)) + (-7046029254386353131 : Int64)))), .second, .val (.ref b44), .val (.long (own_mix (q1 + (-7046029254386353131 : Int64)))), .second, .unset, .unset, .unset, .unset, .unset, .unset] [(.long (0 : Int64)), (.ref b73), (.ref b73)])) rfl (by rw [hml]; rfl) (Steps.refl _) (a := b73) (argsL := [(.long (0 : Int64))]) (rest := [(.ref b73)]) (lenOf pd_1 rfl) rfl (by show 2 * 0 + _ ≤ _; exact Nat.le_of_eq rfl) (hb hby at_67) (fun _ _ => ⟨rfl, e73, (by decide : 4 + 0 ≤ _), (by decide : 4 + 0 ≤ _)⟩)
  dsimp only [Pt.U, Pt.locs, Pt.cells, Pt.slots] at X86 l86 y86 z86 st86 hQ86
  subst l86 y86 z86
  obtain ⟨rfl, Nq86, Kq86, f87⟩ := hQ86
  have N88 := Fr.app N66 Nq86
  have f89 := (f78.keep Kq86)
  have f90 := (f79.keep Kq86 (ninS ne75 nin0))
  have f91 := (f80.keep Kq86)
  have f92 := (f81.keep Kq86 (ninS ne76 nin0))
  have f93 := (f82.keep Kq86)
  have f94 := (f83.keep Kq86 (ninS ne77 nin0))
  have f95 := (A73.keep Kq86)
  have Z96 : n0 ≤ T86.heap.size := (Nat.le_trans Z84 Kq86.1)
  refine OFin.to (S' := T86.setTop (mkF m 70 #[.val (.long q0), .second, .val (.long q1), .second, .val (.ref b1), .val (.long (own_mix (q0 + (-7046029254386353131 : Int64)))), .second, .val (.long (own_mix ((q0 + (-7046029254386353131 : Int64)) + (-7046029254386353131 : Int64)))), .second, .val (.ref b22), .val (.long (own_mix ((q0 + (-7046029254386353131 : Int64)) + (-7046029254386353131 : Int64)))), .second, .val (.ref b44), .val (.long (own_mix (q1 + (-7046029254386353131 : Int64)))), .second, .unset, .unset, .unset, .unset, .unset, .unset] [(.ref b73)])) st86 ?_
  refine OFin.of (S' := T86.setTop (mkF m 74 #[.val (.long q0), .second, .val (.long q1), .second, .val (.ref b1), .val (.long (own_mix (q0 + (-7046029254386353131 : Int64)))), .second, .val (.long (own_mix ((q0 + (-7046029254386353131 : Int64)) + (-7046029254386353131 : Int64)))), .second, .val (.ref b22), .val (.long (own_mix ((q0 + (-7046029254386353131 : Int64)) + (-7046029254386353131 : Int64)))), .second, .val (.ref b44), .val (.long (own_mix (q1 + (-7046029254386353131 : Int64)))), .second, .val (.ref b73), .unset, .unset, .unset, .unset, .unset] [(.ref b73)])) (fun t ht => ?_) ?_
  · refine XS.astore X86.here hx rfl (hb hby at_70) rfl rfl (l' := #[.val (.long q0), .second, .val (.long q1), .second, .val (.ref b1), .val (.long (own_mix (q0 + (-7046029254386353131 : Int64)))), .second, .val (.long (own_mix ((q0 + (-7046029254386353131 : Int64)) + (-7046029254386353131 : Int64)))), .second, .val (.ref b22), .val (.long (own_mix ((q0 + (-7046029254386353131 : Int64)) + (-7046029254386353131 : Int64)))), .second, .val (.ref b44), .val (.long (own_mix (q1 + (-7046029254386353131 : Int64)))), .second, .val (.ref b73), .unset, .unset, .unset, .unset, .unset]) rfl ?_
    show Steps p.tables e below (T86.setTop (mkF m 72 #[.val (.long q0), .second, .val (.long q1), .second, .val (.ref b1), .val (.long (own_mix (q0 + (-7046029254386353131 : Int64)))), .second, .val (.long (own_mix ((q0 + (-7046029254386353131 : Int64)) + (-7046029254386353131 : Int64)))), .second, .val (.ref b22), .val (.long (own_mix ((q0 + (-7046029254386353131 : Int64)) + (-7046029254386353131 : Int64)))), .second, .val (.ref b44), .val (.long (own_mix (q1 + (-7046029254386353131 : Int64)))), .second, .val (.ref b73), .unset, .unset, .unset, .unset, .unset] [])) _
    refine XS.aload X86.here hx rfl (hb hby at_72) rfl rfl ?_
    exact ht
  obtain ⟨cq98, kq98, q98a, q98b, q98c⟩ := isOf hZ (rfl : T86.heap = T86.heap) f95
  obtain ⟨_, _, ⟨T97, L97, k97, n97⟩, -, X97, ⟨Lc97, hQ97, l97, y97, z97⟩, st97⟩ := X86.virtualBack hx (y := (⟨"com/example/weekly_activity_scheduler/weeklyactivityscheduler/models/RandomStream", "nextLong", "()J"⟩ : MethodName)) (z := (⟨"com/example/weekly_activity_scheduler/weeklyactivityscheduler/models/RandomStream", "nextLong", "()J"⟩ : MethodName)) hown (mvT hZ (hw _ (List.mem_of_getElem? (i := 11) rfl))) (mvT hZ (hw _ (List.mem_of_getElem? (i := 12) rfl))) (notFace_of_selects (args := #[]) (mvT hZ (hw _ (List.mem_of_getElem? (i := 14) rfl)))) (mvT hZ (hw _ (List.mem_of_getElem? (i := 14) rfl))) (mvT hZ (hw _ (List.mem_of_getElem? (i := 13) rfl))) (by decide) (backOf (W := 0) (rmNl l Z _ hw [] b73 (0 : Int64) T86.heap n0 Z96 f95 f87 g74) hZ (hw _ (List.mem_of_getElem? (i := 15) rfl)) (hw _ (List.mem_of_getElem? (i := 2) rfl)) (by decide) (by decide)) q98a q98c (g := (mkF m 74 #[.val (.long q0), .second, .val (.long q1), .second, .val (.ref b1), .val (.long (own_mix (q0 + (-7046029254386353131 : Int64)))), .second, .val (.long (own_mix ((q0 + (-7046029254386353131 : Int64)) + (-7046029254386353131 : Int64)))), .second, .val (.ref b22), .val (.long (own_mix ((q0 + (-7046029254386353131 : Int64)) + (-7046029254386353131 : Int64)))), .second, .val (.ref b44), .val (.long (own_mix (q1 + (-7046029254386353131 : Int64)))), .second, .val (.ref b73), .unset, .unset, .unset, .unset, .unset] [(.ref b73)])) rfl (by rw [hml]; rfl) (Steps.refl _) (argsL := []) (rest := []) (lenOf pd_2 rfl) rfl (by show 2 * 0 + _ ≤ _; exact Nat.le_of_eq rfl) (hb hby at_74) (fun _ _ => ⟨rfl, (rfl : T86.heap = T86.heap), (by decide : 4 + 0 ≤ _), (by decide : 4 + 0 ≤ _)⟩)
  dsimp only [Pt.U, Pt.locs, Pt.cells, Pt.slots] at X97 l97 y97 z97 st97 hQ97
  subst l97 y97 z97
  obtain ⟨rfl, Nq97, Kq97, f99⟩ := hQ97
  have N100 := Fr.app N88 Nq97
  have f101 := (f89.keep Kq97)
  have f102 := (f90.keep Kq97 (ninS ne75 nin0))
  have f103 := (f91.keep Kq97)
  have f104 := (f92.keep Kq97 (ninS ne76 nin0))
  have f105 := (f93.keep Kq97)
  have f106 := (f94.keep Kq97 (ninS ne77 nin0))
  have f107 := (f95.keep Kq97)
  have Z108 : n0 ≤ T97.heap.size := (Nat.le_trans Z96 Kq97.1)
  refine OFin.to (S' := T97.setTop (mkF m 77 #[.val (.long q0), .second, .val (.long q1), .second, .val (.ref b1), .val (.long (own_mix (q0 + (-7046029254386353131 : Int64)))), .second, .val (.long (own_mix ((q0 + (-7046029254386353131 : Int64)) + (-7046029254386353131 : Int64)))), .second, .val (.ref b22), .val (.long (own_mix ((q0 + (-7046029254386353131 : Int64)) + (-7046029254386353131 : Int64)))), .second, .val (.ref b44), .val (.long (own_mix (q1 + (-7046029254386353131 : Int64)))), .second, .val (.ref b73), .unset, .unset, .unset, .unset, .unset] [(.long (own_mix ((0 : Int64) + (-7046029254386353131 : Int64))))])) st97 ?_
  refine OFin.of (S' := T97.setTop (mkF m 97 #[.val (.long q0), .second, .val (.long q1), .second, .val (.ref b1), .val (.long (own_mix (q0 + (-7046029254386353131 : Int64)))), .second, .val (.long (own_mix ((q0 + (-7046029254386353131 : Int64)) + (-7046029254386353131 : Int64)))), .second, .val (.ref b22), .val (.long (own_mix ((q0 + (-7046029254386353131 : Int64)) + (-7046029254386353131 : Int64)))), .second, .val (.ref b44), .val (.long (own_mix (q1 + (-7046029254386353131 : Int64)))), .second, .val (.ref b73), .val (.long (own_mix ((0 : Int64) + (-7046029254386353131 : Int64)))), .second, .val (.int (1 : Int32)), .unset, .unset] [(.int (lcmpW q0 q1))])) (fun t ht => ?_) ?_
  · refine XS.lstore X97.here hx rfl (hb hby at_77) rfl (l' := #[.val (.long q0), .second, .val (.long q1), .second, .val (.ref b1), .val (.long (own_mix (q0 + (-7046029254386353131 : Int64)))), .second, .val (.long (own_mix ((q0 + (-7046029254386353131 : Int64)) + (-7046029254386353131 : Int64)))), .second, .val (.ref b22), .val (.long (own_mix ((q0 + (-7046029254386353131 : Int64)) + (-7046029254386353131 : Int64)))), .second, .val (.ref b44), .val (.long (own_mix (q1 + (-7046029254386353131 : Int64)))), .second, .val (.ref b73), .val (.long (own_mix ((0 : Int64) + (-7046029254386353131 : Int64)))), .second, .unset, .unset, .unset]) rfl ?_
    show Steps p.tables e below (T97.setTop (mkF m 79 #[.val (.long q0), .second, .val (.long q1), .second, .val (.ref b1), .val (.long (own_mix (q0 + (-7046029254386353131 : Int64)))), .second, .val (.long (own_mix ((q0 + (-7046029254386353131 : Int64)) + (-7046029254386353131 : Int64)))), .second, .val (.ref b22), .val (.long (own_mix ((q0 + (-7046029254386353131 : Int64)) + (-7046029254386353131 : Int64)))), .second, .val (.ref b44), .val (.long (own_mix (q1 + (-7046029254386353131 : Int64)))), .second, .val (.ref b73), .val (.long (own_mix ((0 : Int64) + (-7046029254386353131 : Int64)))), .second, .unset, .unset, .unset] [])) _
    refine XS.lload X97.here hx rfl (hb hby at_79) rfl ?_
    show Steps p.tables e below (T97.setTop (mkF m 81 _ [(.long (own_mix ((q0 + (-7046029254386353131 : Int64)) + (-7046029254386353131 : Int64))))])) _
    refine XS.lload X97.here hx rfl (hb hby at_81) rfl ?_
    show Steps p.tables e below (T97.setTop (mkF m 83 _ [(.long (own_mix ((q0 + (-7046029254386353131 : Int64)) + (-7046029254386353131 : Int64)))), (.long (own_mix ((q0 + (-7046029254386353131 : Int64)) + (-7046029254386353131 : Int64))))])) _
    refine XS.lcmp X97.here hx rfl (hb hby at_83) rfl ?_
    show Steps p.tables e below (T97.setTop (mkF m 84 _ [(.int (lcmpW (own_mix ((q0 + (-7046029254386353131 : Int64)) + (-7046029254386353131 : Int64))) (own_mix ((q0 + (-7046029254386353131 : Int64)) + (-7046029254386353131 : Int64)))))])) _
    refine XS.ifNo X97.here hx rfl (hb hby at_84) rfl ((if0 _ _).trans (teq ((lw_eq _ _).mpr rfl : (lcmpW (own_mix ((q0 + (-7046029254386353131 : Int64)) + (-7046029254386353131 : Int64))) (own_mix ((q0 + (-7046029254386353131 : Int64)) + (-7046029254386353131 : Int64)))) = (0 : Int32))).2) ?_
    show Steps p.tables e below (T97.setTop (mkF m 87 _ [])) _
    refine XS.iconst X97.here hx rfl (hb hby at_87) ?_
    show Steps p.tables e below (T97.setTop (mkF m 88 _ [(.int (1 : Int32))])) _
    refine XS.goto X97.here hx rfl (pc0 := 88) (pc' := 92) rfl (hb hby at_88) (by decide) (by decide) ?_
    show Steps p.tables e below (T97.setTop (mkF m 92 _ [(.int (1 : Int32))])) _
    refine XS.istore X97.here hx rfl (hb hby at_92) rfl (l' := #[.val (.long q0), .second, .val (.long q1), .second, .val (.ref b1), .val (.long (own_mix (q0 + (-7046029254386353131 : Int64)))), .second, .val (.long (own_mix ((q0 + (-7046029254386353131 : Int64)) + (-7046029254386353131 : Int64)))), .second, .val (.ref b22), .val (.long (own_mix ((q0 + (-7046029254386353131 : Int64)) + (-7046029254386353131 : Int64)))), .second, .val (.ref b44), .val (.long (own_mix (q1 + (-7046029254386353131 : Int64)))), .second, .val (.ref b73), .val (.long (own_mix ((0 : Int64) + (-7046029254386353131 : Int64)))), .second, .val (.int (1 : Int32)), .unset, .unset]) rfl ?_
    show Steps p.tables e below (T97.setTop (mkF m 94 #[.val (.long q0), .second, .val (.long q1), .second, .val (.ref b1), .val (.long (own_mix (q0 + (-7046029254386353131 : Int64)))), .second, .val (.long (own_mix ((q0 + (-7046029254386353131 : Int64)) + (-7046029254386353131 : Int64)))), .second, .val (.ref b22), .val (.long (own_mix ((q0 + (-7046029254386353131 : Int64)) + (-7046029254386353131 : Int64)))), .second, .val (.ref b44), .val (.long (own_mix (q1 + (-7046029254386353131 : Int64)))), .second, .val (.ref b73), .val (.long (own_mix ((0 : Int64) + (-7046029254386353131 : Int64)))), .second, .val (.int (1 : Int32)), .unset, .unset] [])) _
    refine XS.lloadN X97.here hx rfl (hb hby at_94) rfl ?_
    show Steps p.tables e below (T97.setTop (mkF m 95 _ [(.long q0)])) _
    refine XS.lloadN X97.here hx rfl (hb hby at_95) rfl ?_
    show Steps p.tables e below (T97.setTop (mkF m 96 _ [(.long q1), (.long q0)])) _
    refine XS.lcmp X97.here hx rfl (hb hby at_96) rfl ?_
    exact ht
  by_cases hc109 : (lcmpW q0 q1) = (0 : Int32)
  · refine OFin.of (S' := T97.setTop (mkF m 164 #[.val (.long q0), .second, .val (.long q1), .second, .val (.ref b1), .val (.long (own_mix (q0 + (-7046029254386353131 : Int64)))), .second, .val (.long (own_mix ((q0 + (-7046029254386353131 : Int64)) + (-7046029254386353131 : Int64)))), .second, .val (.ref b22), .val (.long (own_mix ((q0 + (-7046029254386353131 : Int64)) + (-7046029254386353131 : Int64)))), .second, .val (.ref b44), .val (.long (own_mix (q1 + (-7046029254386353131 : Int64)))), .second, .val (.ref b73), .val (.long (own_mix ((0 : Int64) + (-7046029254386353131 : Int64)))), .second, .val (.int (1 : Int32)), .val (.int (1 : Int32)), .val (.int (1 : Int32))] [(.int (1 : Int32))])) (fun t ht => ?_) ?_
    · refine XS.ifNo X97.here hx rfl (hb hby at_97) rfl ((if0 _ _).trans (teq (hc109 : (lcmpW q0 q1) = (0 : Int32))).2) ?_
      show Steps p.tables e below (T97.setTop (mkF m 100 _ [])) _
      refine XS.iconst X97.here hx rfl (hb hby at_100) ?_
      show Steps p.tables e below (T97.setTop (mkF m 101 _ [(.int (1 : Int32))])) _
      refine XS.goto X97.here hx rfl (pc0 := 101) (pc' := 105) rfl (hb hby at_101) (by decide) (by decide) ?_
      show Steps p.tables e below (T97.setTop (mkF m 105 _ [(.int (1 : Int32))])) _
      refine XS.lload X97.here hx rfl (hb hby at_105) rfl ?_
      show Steps p.tables e below (T97.setTop (mkF m 107 _ [(.long (own_mix (q0 + (-7046029254386353131 : Int64)))), (.int (1 : Int32))])) _
      refine XS.lload X97.here hx rfl (hb hby at_107) rfl ?_
      show Steps p.tables e below (T97.setTop (mkF m 109 _ [(.long (own_mix (q1 + (-7046029254386353131 : Int64)))), (.long (own_mix (q0 + (-7046029254386353131 : Int64)))), (.int (1 : Int32))])) _
      refine XS.lcmp X97.here hx rfl (hb hby at_109) rfl ?_
      show Steps p.tables e below (T97.setTop (mkF m 110 _ [(.int (lcmpW (own_mix (q0 + (-7046029254386353131 : Int64))) (own_mix (q1 + (-7046029254386353131 : Int64))))), (.int (1 : Int32))])) _
      refine XS.ifNo X97.here hx rfl (hb hby at_110) rfl ((if0 _ _).trans (teq (own_eqs hc109 : (lcmpW (own_mix (q0 + (-7046029254386353131 : Int64))) (own_mix (q1 + (-7046029254386353131 : Int64)))) = (0 : Int32))).2) ?_
      show Steps p.tables e below (T97.setTop (mkF m 113 _ [(.int (1 : Int32))])) _
      refine XS.iconst X97.here hx rfl (hb hby at_113) ?_
      show Steps p.tables e below (T97.setTop (mkF m 114 _ [(.int (1 : Int32)), (.int (1 : Int32))])) _
      refine XS.goto X97.here hx rfl (pc0 := 114) (pc' := 118) rfl (hb hby at_114) (by decide) (by decide) ?_
      show Steps p.tables e below (T97.setTop (mkF m 118 _ [(.int (1 : Int32)), (.int (1 : Int32))])) _
      refine XS.icmpNo X97.here hx rfl (hb hby at_118) rfl (teq (by decide : (1 : Int32) = (1 : Int32))).2 ?_
      show Steps p.tables e below (T97.setTop (mkF m 121 _ [])) _
      refine XS.iconst X97.here hx rfl (hb hby at_121) ?_
      show Steps p.tables e below (T97.setTop (mkF m 122 _ [(.int (1 : Int32))])) _
      refine XS.goto X97.here hx rfl (pc0 := 122) (pc' := 126) rfl (hb hby at_122) (by decide) (by decide) ?_
      show Steps p.tables e below (T97.setTop (mkF m 126 _ [(.int (1 : Int32))])) _
      refine XS.istore X97.here hx rfl (hb hby at_126) rfl (l' := #[.val (.long q0), .second, .val (.long q1), .second, .val (.ref b1), .val (.long (own_mix (q0 + (-7046029254386353131 : Int64)))), .second, .val (.long (own_mix ((q0 + (-7046029254386353131 : Int64)) + (-7046029254386353131 : Int64)))), .second, .val (.ref b22), .val (.long (own_mix ((q0 + (-7046029254386353131 : Int64)) + (-7046029254386353131 : Int64)))), .second, .val (.ref b44), .val (.long (own_mix (q1 + (-7046029254386353131 : Int64)))), .second, .val (.ref b73), .val (.long (own_mix ((0 : Int64) + (-7046029254386353131 : Int64)))), .second, .val (.int (1 : Int32)), .val (.int (1 : Int32)), .unset]) rfl ?_
      show Steps p.tables e below (T97.setTop (mkF m 128 #[.val (.long q0), .second, .val (.long q1), .second, .val (.ref b1), .val (.long (own_mix (q0 + (-7046029254386353131 : Int64)))), .second, .val (.long (own_mix ((q0 + (-7046029254386353131 : Int64)) + (-7046029254386353131 : Int64)))), .second, .val (.ref b22), .val (.long (own_mix ((q0 + (-7046029254386353131 : Int64)) + (-7046029254386353131 : Int64)))), .second, .val (.ref b44), .val (.long (own_mix (q1 + (-7046029254386353131 : Int64)))), .second, .val (.ref b73), .val (.long (own_mix ((0 : Int64) + (-7046029254386353131 : Int64)))), .second, .val (.int (1 : Int32)), .val (.int (1 : Int32)), .unset] [])) _
      refine XS.lload X97.here hx rfl (hb hby at_128) rfl ?_
      show Steps p.tables e below (T97.setTop (mkF m 130 _ [(.long (own_mix ((0 : Int64) + (-7046029254386353131 : Int64))))])) _
      refine X97.ldc2Long hx hown (mvT hZ (hw _ (List.mem_of_getElem? (i := 23) rfl))) (g := (mkF m 130 #[.val (.long q0), .second, .val (.long q1), .second, .val (.ref b1), .val (.long (own_mix (q0 + (-7046029254386353131 : Int64)))), .second, .val (.long (own_mix ((q0 + (-7046029254386353131 : Int64)) + (-7046029254386353131 : Int64)))), .second, .val (.ref b22), .val (.long (own_mix ((q0 + (-7046029254386353131 : Int64)) + (-7046029254386353131 : Int64)))), .second, .val (.ref b44), .val (.long (own_mix (q1 + (-7046029254386353131 : Int64)))), .second, .val (.ref b73), .val (.long (own_mix ((0 : Int64) + (-7046029254386353131 : Int64)))), .second, .val (.int (1 : Int32)), .val (.int (1 : Int32)), .unset] [(.long (own_mix ((0 : Int64) + (-7046029254386353131 : Int64))))])) rfl (hb hby at_130) _ ?_
      show Steps p.tables e below (T97.setTop (mkF m 133 _ [(.long (-2152535657050944081 : Int64)), (.long (own_mix ((0 : Int64) + (-7046029254386353131 : Int64))))])) _
      refine XS.lcmp X97.here hx rfl (hb hby at_133) rfl ?_
      show Steps p.tables e below (T97.setTop (mkF m 134 _ [(.int (lcmpW (own_mix ((0 : Int64) + (-7046029254386353131 : Int64))) (-2152535657050944081 : Int64)))])) _
      refine XS.ifNo X97.here hx rfl (hb hby at_134) rfl ((if0 _ _).trans (teq (own_vec : (lcmpW (own_mix ((0 : Int64) + (-7046029254386353131 : Int64))) (-2152535657050944081 : Int64)) = (0 : Int32))).2) ?_
      show Steps p.tables e below (T97.setTop (mkF m 137 _ [])) _
      refine XS.iconst X97.here hx rfl (hb hby at_137) ?_
      show Steps p.tables e below (T97.setTop (mkF m 138 _ [(.int (1 : Int32))])) _
      refine XS.goto X97.here hx rfl (pc0 := 138) (pc' := 142) rfl (hb hby at_138) (by decide) (by decide) ?_
      show Steps p.tables e below (T97.setTop (mkF m 142 _ [(.int (1 : Int32))])) _
      refine XS.istore X97.here hx rfl (hb hby at_142) rfl (l' := #[.val (.long q0), .second, .val (.long q1), .second, .val (.ref b1), .val (.long (own_mix (q0 + (-7046029254386353131 : Int64)))), .second, .val (.long (own_mix ((q0 + (-7046029254386353131 : Int64)) + (-7046029254386353131 : Int64)))), .second, .val (.ref b22), .val (.long (own_mix ((q0 + (-7046029254386353131 : Int64)) + (-7046029254386353131 : Int64)))), .second, .val (.ref b44), .val (.long (own_mix (q1 + (-7046029254386353131 : Int64)))), .second, .val (.ref b73), .val (.long (own_mix ((0 : Int64) + (-7046029254386353131 : Int64)))), .second, .val (.int (1 : Int32)), .val (.int (1 : Int32)), .val (.int (1 : Int32))]) rfl ?_
      show Steps p.tables e below (T97.setTop (mkF m 144 #[.val (.long q0), .second, .val (.long q1), .second, .val (.ref b1), .val (.long (own_mix (q0 + (-7046029254386353131 : Int64)))), .second, .val (.long (own_mix ((q0 + (-7046029254386353131 : Int64)) + (-7046029254386353131 : Int64)))), .second, .val (.ref b22), .val (.long (own_mix ((q0 + (-7046029254386353131 : Int64)) + (-7046029254386353131 : Int64)))), .second, .val (.ref b44), .val (.long (own_mix (q1 + (-7046029254386353131 : Int64)))), .second, .val (.ref b73), .val (.long (own_mix ((0 : Int64) + (-7046029254386353131 : Int64)))), .second, .val (.int (1 : Int32)), .val (.int (1 : Int32)), .val (.int (1 : Int32))] [])) _
      refine XS.iload X97.here hx rfl (hb hby at_144) rfl ?_
      show Steps p.tables e below (T97.setTop (mkF m 146 _ [(.int (1 : Int32))])) _
      refine XS.ifNo X97.here hx rfl (hb hby at_146) rfl ((if0 _ _).trans (feq (by decide : ¬ ((1 : Int32) = (0 : Int32)))).1) ?_
      show Steps p.tables e below (T97.setTop (mkF m 149 _ [])) _
      refine XS.iload X97.here hx rfl (hb hby at_149) rfl ?_
      show Steps p.tables e below (T97.setTop (mkF m 151 _ [(.int (1 : Int32))])) _
      refine XS.ifNo X97.here hx rfl (hb hby at_151) rfl ((if0 _ _).trans (feq (by decide : ¬ ((1 : Int32) = (0 : Int32)))).1) ?_
      show Steps p.tables e below (T97.setTop (mkF m 154 _ [])) _
      refine XS.iload X97.here hx rfl (hb hby at_154) rfl ?_
      show Steps p.tables e below (T97.setTop (mkF m 156 _ [(.int (1 : Int32))])) _
      refine XS.ifNo X97.here hx rfl (hb hby at_156) rfl ((if0 _ _).trans (feq (by decide : ¬ ((1 : Int32) = (0 : Int32)))).1) ?_
      show Steps p.tables e below (T97.setTop (mkF m 159 _ [])) _
      refine XS.iconst X97.here hx rfl (hb hby at_159) ?_
      show Steps p.tables e below (T97.setTop (mkF m 160 _ [(.int (1 : Int32))])) _
      refine XS.goto X97.here hx rfl (pc0 := 160) (pc' := 164) rfl (hb hby at_160) (by decide) (by decide) ?_
      exact ht
    exact OFin.retB X97 hx hlk (t := .boolean) (by simp) hret (hb hby at_164) (by decide) (by decide) (by exact ⟨rfl, N100⟩)
  · refine OFin.of (S' := T97.setTop (mkF m 164 #[.val (.long q0), .second, .val (.long q1), .second, .val (.ref b1), .val (.long (own_mix (q0 + (-7046029254386353131 : Int64)))), .second, .val (.long (own_mix ((q0 + (-7046029254386353131 : Int64)) + (-7046029254386353131 : Int64)))), .second, .val (.ref b22), .val (.long (own_mix ((q0 + (-7046029254386353131 : Int64)) + (-7046029254386353131 : Int64)))), .second, .val (.ref b44), .val (.long (own_mix (q1 + (-7046029254386353131 : Int64)))), .second, .val (.ref b73), .val (.long (own_mix ((0 : Int64) + (-7046029254386353131 : Int64)))), .second, .val (.int (1 : Int32)), .val (.int (1 : Int32)), .val (.int (1 : Int32))] [(.int (1 : Int32))])) (fun t ht => ?_) ?_
    · refine XS.ifYes X97.here hx rfl (pc0 := 97) (pc' := 104) rfl (hb hby at_97) rfl ((if0 _ _).trans (feq (hc109 : ¬ ((lcmpW q0 q1) = (0 : Int32)))).2) (by decide) (by decide) ?_
      show Steps p.tables e below (T97.setTop (mkF m 104 _ [])) _
      refine XS.iconst X97.here hx rfl (hb hby at_104) ?_
      show Steps p.tables e below (T97.setTop (mkF m 105 _ [(.int (0 : Int32))])) _
      refine XS.lload X97.here hx rfl (hb hby at_105) rfl ?_
      show Steps p.tables e below (T97.setTop (mkF m 107 _ [(.long (own_mix (q0 + (-7046029254386353131 : Int64)))), (.int (0 : Int32))])) _
      refine XS.lload X97.here hx rfl (hb hby at_107) rfl ?_
      show Steps p.tables e below (T97.setTop (mkF m 109 _ [(.long (own_mix (q1 + (-7046029254386353131 : Int64)))), (.long (own_mix (q0 + (-7046029254386353131 : Int64)))), (.int (0 : Int32))])) _
      refine XS.lcmp X97.here hx rfl (hb hby at_109) rfl ?_
      show Steps p.tables e below (T97.setTop (mkF m 110 _ [(.int (lcmpW (own_mix (q0 + (-7046029254386353131 : Int64))) (own_mix (q1 + (-7046029254386353131 : Int64))))), (.int (0 : Int32))])) _
      refine XS.ifYes X97.here hx rfl (pc0 := 110) (pc' := 117) rfl (hb hby at_110) rfl ((if0 _ _).trans (feq (own_nes hc109 : ¬ ((lcmpW (own_mix (q0 + (-7046029254386353131 : Int64))) (own_mix (q1 + (-7046029254386353131 : Int64)))) = (0 : Int32)))).2) (by decide) (by decide) ?_
      show Steps p.tables e below (T97.setTop (mkF m 117 _ [(.int (0 : Int32))])) _
      refine XS.iconst X97.here hx rfl (hb hby at_117) ?_
      show Steps p.tables e below (T97.setTop (mkF m 118 _ [(.int (0 : Int32)), (.int (0 : Int32))])) _
      refine XS.icmpNo X97.here hx rfl (hb hby at_118) rfl (teq (by decide : (0 : Int32) = (0 : Int32))).2 ?_
      show Steps p.tables e below (T97.setTop (mkF m 121 _ [])) _
      refine XS.iconst X97.here hx rfl (hb hby at_121) ?_
      show Steps p.tables e below (T97.setTop (mkF m 122 _ [(.int (1 : Int32))])) _
      refine XS.goto X97.here hx rfl (pc0 := 122) (pc' := 126) rfl (hb hby at_122) (by decide) (by decide) ?_
      show Steps p.tables e below (T97.setTop (mkF m 126 _ [(.int (1 : Int32))])) _
      refine XS.istore X97.here hx rfl (hb hby at_126) rfl (l' := #[.val (.long q0), .second, .val (.long q1), .second, .val (.ref b1), .val (.long (own_mix (q0 + (-7046029254386353131 : Int64)))), .second, .val (.long (own_mix ((q0 + (-7046029254386353131 : Int64)) + (-7046029254386353131 : Int64)))), .second, .val (.ref b22), .val (.long (own_mix ((q0 + (-7046029254386353131 : Int64)) + (-7046029254386353131 : Int64)))), .second, .val (.ref b44), .val (.long (own_mix (q1 + (-7046029254386353131 : Int64)))), .second, .val (.ref b73), .val (.long (own_mix ((0 : Int64) + (-7046029254386353131 : Int64)))), .second, .val (.int (1 : Int32)), .val (.int (1 : Int32)), .unset]) rfl ?_
      show Steps p.tables e below (T97.setTop (mkF m 128 #[.val (.long q0), .second, .val (.long q1), .second, .val (.ref b1), .val (.long (own_mix (q0 + (-7046029254386353131 : Int64)))), .second, .val (.long (own_mix ((q0 + (-7046029254386353131 : Int64)) + (-7046029254386353131 : Int64)))), .second, .val (.ref b22), .val (.long (own_mix ((q0 + (-7046029254386353131 : Int64)) + (-7046029254386353131 : Int64)))), .second, .val (.ref b44), .val (.long (own_mix (q1 + (-7046029254386353131 : Int64)))), .second, .val (.ref b73), .val (.long (own_mix ((0 : Int64) + (-7046029254386353131 : Int64)))), .second, .val (.int (1 : Int32)), .val (.int (1 : Int32)), .unset] [])) _
      refine XS.lload X97.here hx rfl (hb hby at_128) rfl ?_
      show Steps p.tables e below (T97.setTop (mkF m 130 _ [(.long (own_mix ((0 : Int64) + (-7046029254386353131 : Int64))))])) _
      refine X97.ldc2Long hx hown (mvT hZ (hw _ (List.mem_of_getElem? (i := 23) rfl))) (g := (mkF m 130 #[.val (.long q0), .second, .val (.long q1), .second, .val (.ref b1), .val (.long (own_mix (q0 + (-7046029254386353131 : Int64)))), .second, .val (.long (own_mix ((q0 + (-7046029254386353131 : Int64)) + (-7046029254386353131 : Int64)))), .second, .val (.ref b22), .val (.long (own_mix ((q0 + (-7046029254386353131 : Int64)) + (-7046029254386353131 : Int64)))), .second, .val (.ref b44), .val (.long (own_mix (q1 + (-7046029254386353131 : Int64)))), .second, .val (.ref b73), .val (.long (own_mix ((0 : Int64) + (-7046029254386353131 : Int64)))), .second, .val (.int (1 : Int32)), .val (.int (1 : Int32)), .unset] [(.long (own_mix ((0 : Int64) + (-7046029254386353131 : Int64))))])) rfl (hb hby at_130) _ ?_
      show Steps p.tables e below (T97.setTop (mkF m 133 _ [(.long (-2152535657050944081 : Int64)), (.long (own_mix ((0 : Int64) + (-7046029254386353131 : Int64))))])) _
      refine XS.lcmp X97.here hx rfl (hb hby at_133) rfl ?_
      show Steps p.tables e below (T97.setTop (mkF m 134 _ [(.int (lcmpW (own_mix ((0 : Int64) + (-7046029254386353131 : Int64))) (-2152535657050944081 : Int64)))])) _
      refine XS.ifNo X97.here hx rfl (hb hby at_134) rfl ((if0 _ _).trans (teq (own_vec : (lcmpW (own_mix ((0 : Int64) + (-7046029254386353131 : Int64))) (-2152535657050944081 : Int64)) = (0 : Int32))).2) ?_
      show Steps p.tables e below (T97.setTop (mkF m 137 _ [])) _
      refine XS.iconst X97.here hx rfl (hb hby at_137) ?_
      show Steps p.tables e below (T97.setTop (mkF m 138 _ [(.int (1 : Int32))])) _
      refine XS.goto X97.here hx rfl (pc0 := 138) (pc' := 142) rfl (hb hby at_138) (by decide) (by decide) ?_
      show Steps p.tables e below (T97.setTop (mkF m 142 _ [(.int (1 : Int32))])) _
      refine XS.istore X97.here hx rfl (hb hby at_142) rfl (l' := #[.val (.long q0), .second, .val (.long q1), .second, .val (.ref b1), .val (.long (own_mix (q0 + (-7046029254386353131 : Int64)))), .second, .val (.long (own_mix ((q0 + (-7046029254386353131 : Int64)) + (-7046029254386353131 : Int64)))), .second, .val (.ref b22), .val (.long (own_mix ((q0 + (-7046029254386353131 : Int64)) + (-7046029254386353131 : Int64)))), .second, .val (.ref b44), .val (.long (own_mix (q1 + (-7046029254386353131 : Int64)))), .second, .val (.ref b73), .val (.long (own_mix ((0 : Int64) + (-7046029254386353131 : Int64)))), .second, .val (.int (1 : Int32)), .val (.int (1 : Int32)), .val (.int (1 : Int32))]) rfl ?_
      show Steps p.tables e below (T97.setTop (mkF m 144 #[.val (.long q0), .second, .val (.long q1), .second, .val (.ref b1), .val (.long (own_mix (q0 + (-7046029254386353131 : Int64)))), .second, .val (.long (own_mix ((q0 + (-7046029254386353131 : Int64)) + (-7046029254386353131 : Int64)))), .second, .val (.ref b22), .val (.long (own_mix ((q0 + (-7046029254386353131 : Int64)) + (-7046029254386353131 : Int64)))), .second, .val (.ref b44), .val (.long (own_mix (q1 + (-7046029254386353131 : Int64)))), .second, .val (.ref b73), .val (.long (own_mix ((0 : Int64) + (-7046029254386353131 : Int64)))), .second, .val (.int (1 : Int32)), .val (.int (1 : Int32)), .val (.int (1 : Int32))] [])) _
      refine XS.iload X97.here hx rfl (hb hby at_144) rfl ?_
      show Steps p.tables e below (T97.setTop (mkF m 146 _ [(.int (1 : Int32))])) _
      refine XS.ifNo X97.here hx rfl (hb hby at_146) rfl ((if0 _ _).trans (feq (by decide : ¬ ((1 : Int32) = (0 : Int32)))).1) ?_
      show Steps p.tables e below (T97.setTop (mkF m 149 _ [])) _
      refine XS.iload X97.here hx rfl (hb hby at_149) rfl ?_
      show Steps p.tables e below (T97.setTop (mkF m 151 _ [(.int (1 : Int32))])) _
      refine XS.ifNo X97.here hx rfl (hb hby at_151) rfl ((if0 _ _).trans (feq (by decide : ¬ ((1 : Int32) = (0 : Int32)))).1) ?_
      show Steps p.tables e below (T97.setTop (mkF m 154 _ [])) _
      refine XS.iload X97.here hx rfl (hb hby at_154) rfl ?_
      show Steps p.tables e below (T97.setTop (mkF m 156 _ [(.int (1 : Int32))])) _
      refine XS.ifNo X97.here hx rfl (hb hby at_156) rfl ((if0 _ _).trans (feq (by decide : ¬ ((1 : Int32) = (0 : Int32)))).1) ?_
      show Steps p.tables e below (T97.setTop (mkF m 159 _ [])) _
      refine XS.iconst X97.here hx rfl (hb hby at_159) ?_
      show Steps p.tables e below (T97.setTop (mkF m 160 _ [(.int (1 : Int32))])) _
      refine XS.goto X97.here hx rfl (pc0 := 160) (pc' := 164) rfl (hb hby at_160) (by decide) (by decide) ?_
      exact ht
    exact OFin.retB X97 hx hlk (t := .boolean) (by simp) hret (hb hby at_164) (by decide) (by decide) (by exact ⟨rfl, N100⟩)
set_option maxRecDepth 65536 in
set_option maxHeartbeats 40000000 in
theorem comes_1 {Post : Tables → Env → Array Value → State → Outcome → State → Prop} (hpost : ∀ tb e args s v u, (limb_1_1.after args s (.returned v) u = true ∧ limb_1_2.after args s (.returned v) u = true ∧ True) → FrameEnd s (.returned v) u (Jvm.fieldLocs frame_1_writes args s ++ Jvm.arrayLocs frame_1_arrays args s ++ Jvm.staticLocs frame_1_statics s) 16 128 → Post tb e args s (.returned v) u) :
    ArmFor flags0 classFile x code maxLocals ret World_1 tables_1 room_1 Calls_1 rest_1 Pre_1 Post := by
  intro l hfl _ _ p e ha hc hk s m args below hf hA hF happ hP
  obtain ⟨hcalls, hrest, hpre⟩ := hP
  obtain ⟨-, -, -, hnamed, -, -, -, hat⟩ := (Spec.applies_iff hf).mp happ
  obtain ⟨hg, hn⟩ := and_e (Cond.before_iff.mp (show (Jvm.Cond.and given_1 narrow_1).before args s = true from hpre))
  obtain ⟨gg0, hg0⟩ := and_e hg
  obtain ⟨gg1, hg1⟩ := and_e hg0
  obtain ⟨w0, w1, rfl⟩ : ∃ w0 w1 : Value, args = #[w0, w1] := by
    have hs : args.size = 2 := by simpa [Cond.value, given_1] using gg0
    obtain ⟨L⟩ := args
    match L, hs with
    | [w0, w1], _ => exact ⟨w0, w1, rfl⟩
  have hw := fun d (hd : d ∈ tables_1) => atoms_spec (ws := Jvm.Cond.code x code maxLocals ret :: tables_1) hat d (List.mem_cons_of_mem _ hd)
  have hfit : Fit s := fun {y c} hc i hi => by
    obtain ⟨ha, rfl⟩ := Array.getElem?_eq_some_iff.mp hc
    have q := List.all_eq_true.mp ((Array.all_eq_true_iff_forall_mem.mp hF) _ (Array.getElem_mem ha)) i (List.mem_range.mpr hi)
    simpa [Array.getElem?_eq_getElem hi] using q
  obtain ⟨i0, ei0⟩ := isL_v gg1
  obtain rfl : w0 = (.long i0) := Option.some.inj ei0
  obtain ⟨i1, ei1⟩ := isL_v hg1
  obtain rfl : w1 = (.long i1) := Option.some.inj ei1

  obtain ⟨n, o, h1, h2, h3, _, L, rfl, ⟨rfl, N⟩, hq⟩ := rm0 l s _ hw tables_1 i0 i1  s.heap s.heap.size (Nat.le_refl _)  p e ha hc hk s m _ below hf ((Spec.applies_iff_loose hf).mp happ).1 ⟨rfl, State.Warmed39.refl s, rfl⟩ trivial
  refine ⟨n, _, h1, h2, h3, hpost _ _ _ _ _ _ ⟨Cond.after_iff.mpr rfl, Cond.after_iff.mpr (eq_i res_at (Term.int_eval (1)) rfl), trivial⟩ ⟨hq.1, hq.2.1, (hq.2.2.sift fun y hy => Or.inr (N y hy)).mono (by decide) (by decide)⟩⟩
theorem main_1_1 : Claimed_1_1 := comes_1 fun _ _ _ _ _ _ h hF => ⟨h.1, hF⟩
theorem main_1_2 : Claimed_1_2 := comes_1 fun _ _ _ _ _ _ h hF => ⟨h.2.1, hF⟩
end Jvm.Pilot.@@N@@
namespace Jvm.Pilot.@@N@@
open Jvm Jvm.ClassFile Sem Op Lib Jvm.Free Jvm.Stand Jvm.Pilot.@@N@@.Jvm.D
/-! MADE BY PROGRAM (witnessworld.py) out of the Statement's table words and the real class files: 9 classes; the members and pool entries that the words name. The judged class is class 1, her method 1. -/
namespace start1
open Jvm.ClassFile
def u (s : String) : CpInfo := .utf8 (stringToUtf16 s)
/-- a pool by its gaps: so many unusable entries, then the entry; so many at the end -/
def gap : Nat → List CpInfo → List CpInfo
  | 0, r => r
  | n + 1, r => .unusable :: gap n r
def poolList (es : List (Nat × CpInfo)) (last : Nat) : List CpInfo := es.foldr (fun e r => gap e.1 (e.2 :: r)) (gap last [])
def pool (es : List (Nat × CpInfo)) (last : Nat) : Array CpInfo := ⟨poolList es last⟩
def fileOf (pool : Array CpInfo) (this : Nat) (attrs : Array Attribute := #[]) (ms : Array MethodInfo := #[]) (fl : Nat := 33) (sup : Nat := 0) (ifs : Array Nat := #[]) (fds : Array FieldInfo := #[]) : ClassFile where
  minorVersion := 0
  majorVersion := 65
  constantPool := pool
  accessFlags := fl
  thisClass := this
  superClass := sup
  interfaces := ifs
  fields := fds
  methods := ms
  attributes := attrs
def plain (name : String) (sup : Option ClassId) : Class where
  name := name
  kind := .ordinary
  loader := none
  accessFlags := 33
  super := sup
  interfaces := #[]
  cf := none
  fields := #[]
  methods := #[]
  instanceTypes := #[]
  staticTypes := #[]
  resolved := #[]
  callSites := []
  init := .initialized
  statics := none
  mirror := none

def pool0 : Array CpInfo := pool [(5, u "<init>"), (0, u "()V"), (1, .class_ 10), (1, u "java/lang/Object")] 113

def k0c0 : Code := { maxStack := 0, maxLocals := 1, code := object_method_1_code, exceptionTable := #[], attributes := #[] }
def k0m0 : Method := { name := "<init>", desc := "()V", sig := { parameters := [], returnType := none }, accessFlags := 1, code := some k0c0 }
/-- java/lang/Object -/
def k0 : Class := { plain "java/lang/Object" none with
  accessFlags := 33
  interfaces := #[]
  cf := some (fileOf pool0 8 #[] #[{ accessFlags := 1, nameIndex := 5, descriptorIndex := 6, attributes := #[] }] 33 0 #[] #[])
  fields := #[]
  methods := #[k0m0]
  instanceTypes := #[]
  staticTypes := #[]
  resolved := Array.replicate 124 none
  statics := none }

def pool1 : Array CpInfo := pool [(2, .class_ 4), (1, u "java/lang/Object"), (0, u "<init>"), (0, u "()V"), (0, .class_ 8), (0, u "com/example/weekly_activity_scheduler/weeklyactivityscheduler/models/RandomStream"), (0, .methodref 7 10), (0, .nameAndType 5 11), (0, u "(J)V"), (0, .methodref 7 13), (0, .nameAndType 14 15), (0, u "nextLong"), (0, u "()J"), (0, .long 11400714819323198485), (1, .long 16294208416658607535), (1, .class_ 21), (0, u "com/example/weekly_activity_scheduler/weeklyactivityscheduler/models/RandomStreamNextLongPinLaw"), (2, u "law"), (0, u "(JJ)Z")] 3

def k1m0 : Method := { name := "<init>", desc := "()V", sig := { parameters := [], returnType := none }, accessFlags := 1, code := none }
def k1c1 : Code := { maxStack := 6, maxLocals := 21, code := code, exceptionTable := #[], attributes := #[] }
def k1m1 : Method := { name := "law", desc := "(JJ)Z", sig := { parameters := [.long, .long], returnType := some .boolean }, accessFlags := 9, code := some k1c1 }
/-- com/example/weekly_activity_scheduler/weeklyactivityscheduler/models/RandomStreamNextLongPinLaw -/
def k1 : Class := { plain "com/example/weekly_activity_scheduler/weeklyactivityscheduler/models/RandomStreamNextLongPinLaw" (some 0) with
  accessFlags := 49
  interfaces := #[]
  cf := some (fileOf pool1 20 #[] #[{ accessFlags := 1, nameIndex := 5, descriptorIndex := 6, attributes := #[] }, { accessFlags := 9, nameIndex := 24, descriptorIndex := 25, attributes := #[] }] 49 2 #[] #[])
  fields := #[]
  methods := #[k1m0, k1m1]
  instanceTypes := #[]
  staticTypes := #[]
  resolved := Array.replicate 29 none
  statics := none }

def pool2 : Array CpInfo := pool [(1, .methodref 2 3), (0, .class_ 4), (0, .nameAndType 5 6), (0, u "java/lang/Object"), (0, u "<init>"), (0, u "()V"), (0, .fieldref 8 9), (0, .class_ 10), (0, .nameAndType 11 12), (0, u "com/example/weekly_activity_scheduler/weeklyactivityscheduler/models/RandomStream"), (0, u "state"), (0, u "J"), (18, u "(J)V"), (0, .long 11400714819323198485), (1, .methodref 8 35), (0, .nameAndType 36 37), (0, u "mix"), (0, u "(J)J"), (2, u "nextLong"), (0, u "()J"), (8, .long 13787848793156543929), (1, .long 10723151780598845931), (1, u "INCREMENT"), (1, u "OPEN_UNIT_STEP"), (0, u "D")] 13

def k2c0 : Code := { maxStack := 3, maxLocals := 3, code := prog_72_method_1_code, exceptionTable := #[], attributes := #[] }
def k2m0 : Method := { name := "<init>", desc := "(J)V", sig := { parameters := [.long], returnType := none }, accessFlags := 0, code := some k2c0 }
def k2c1 : Code := { maxStack := 5, maxLocals := 1, code := prog_72_method_3_code, exceptionTable := #[], attributes := #[] }
def k2m1 : Method := { name := "nextLong", desc := "()J", sig := { parameters := [], returnType := some .long }, accessFlags := 0, code := some k2c1 }
def k2c2 : Code := { maxStack := 5, maxLocals := 4, code := prog_72_method_7_code, exceptionTable := #[], attributes := #[] }
def k2m2 : Method := { name := "mix", desc := "(J)J", sig := { parameters := [.long], returnType := some .long }, accessFlags := 10, code := some k2c2 }
/-- com/example/weekly_activity_scheduler/weeklyactivityscheduler/models/RandomStream -/
def k2 : Class := { plain "com/example/weekly_activity_scheduler/weeklyactivityscheduler/models/RandomStream" (some 0) with
  accessFlags := 32
  interfaces := #[]
  cf := some (fileOf pool2 8 #[] #[{ accessFlags := 0, nameIndex := 5, descriptorIndex := 31, attributes := #[] }, { accessFlags := 0, nameIndex := 40, descriptorIndex := 41, attributes := #[] }, { accessFlags := 10, nameIndex := 36, descriptorIndex := 37, attributes := #[] }] 32 2 #[] #[{ accessFlags := 26, nameIndex := 54, descriptorIndex := 12, attributes := #[] }, { accessFlags := 26, nameIndex := 56, descriptorIndex := 57, attributes := #[] }, { accessFlags := 2, nameIndex := 11, descriptorIndex := 12, attributes := #[] }])
  fields := #[{ name := "INCREMENT", type := .long, accessFlags := 26, slot := 0, constantValue := 0 }, { name := "OPEN_UNIT_STEP", type := .double, accessFlags := 26, slot := 1, constantValue := 0 }, { name := "state", type := .long, accessFlags := 2, slot := 0, constantValue := 0 }]
  methods := #[k2m0, k2m1, k2m2]
  instanceTypes := #[.long]
  staticTypes := #[.long, .double]
  resolved := Array.replicate 71 none
  statics := none }

def pool3 : Array CpInfo := pool [(1, u "java/lang/Cloneable"), (0, .class_ 1), (0, u "java/lang/Object"), (0, .class_ 3)] 3

/-- java/lang/Cloneable -/
def k3 : Class := { plain "java/lang/Cloneable" (some 0) with
  accessFlags := 1537
  interfaces := #[]
  cf := some (fileOf pool3 2 #[] #[] 1537 4 #[] #[])
  fields := #[]
  methods := #[]
  instanceTypes := #[]
  staticTypes := #[]
  resolved := Array.replicate 8 none
  statics := none }

def pool4 : Array CpInfo := pool [(1, u "java/io/Serializable"), (0, .class_ 1), (0, u "java/lang/Object"), (0, .class_ 3)] 3

/-- java/io/Serializable -/
def k4 : Class := { plain "java/io/Serializable" (some 0) with
  accessFlags := 1537
  interfaces := #[]
  cf := some (fileOf pool4 2 #[] #[] 1537 4 #[] #[])
  fields := #[]
  methods := #[]
  instanceTypes := #[]
  staticTypes := #[]
  resolved := Array.replicate 8 none
  statics := none }

/-- the primitive byte -/
def k5 : Class := { plain "byte" none with kind := .primitive 'B', accessFlags := 0x411 }
/-- [B -/
def k6 : Class := { plain "[B" (some 0) with kind := .array 5 .byte, interfaces := #[3, 4], accessFlags := 1041 }

/-- the primitive int -/
def k7 : Class := { plain "int" none with kind := .primitive 'I', accessFlags := 0x411 }
/-- [I -/
def k8 : Class := { plain "[I" (some 0) with kind := .array 7 .int, interfaces := #[3, 4], accessFlags := 1041 }

def heap : Heap := #[]
def classes : Array Class := #[k0, k1, k2, k3, k4, k5, k6, k7, k8]
def interned : List (Array UInt16 × Addr) := []
def slotsUsed : Nat := 0
def theMethod : MethodId := ⟨1, 1⟩
def args0 : Array Value := #[.long 5, .long 5]
def aboutOver (below : List Frame) : State where
  vm := { classes := classes, interned := interned.toArray }
  heap := heap
  slotsUsed := slotsUsed
  threads := #[{ frames := .invoking theMethod args0 :: below }]
def below0 : List Frame := [.native { method := ⟨0, 0⟩, args := #[] }]
def about1 : State := aboutOver below0
def p0 : Program := .bare "" "" ""
def e0 : Env := launch0.env 0 0 0
theorem w_frames : about1.frames = Frame.invoking theMethod args0 :: below0 := rfl
set_option maxRecDepth 65536 in
theorem w_args : argsFit about1.vm theMethod args0 = true := by decide +kernel
set_option maxRecDepth 65536 in
theorem w_heap : heapFits about1 = true := by decide +kernel
set_option maxRecDepth 65536 in
theorem w_runnable : about1.curStatus? = some .runnable := by decide +kernel
set_option maxRecDepth 65536 in
theorem w_alone : about1.alone = true := by decide +kernel
set_option maxRecDepth 65536 in
theorem w_named : about1.methodNamed? x = some theMethod := by decide +kernel
set_option maxRecDepth 65536 in
theorem w_hears : about1.hears theMethod below0 = true := by decide +kernel
set_option maxRecDepth 65536 in
theorem w_ripe : about1.ripe theMethod args0 below0 = true := by decide +kernel
theorem w_running : about1.status = .running := rfl
set_option maxRecDepth 65536 in
theorem w_room : about1.hasRoom e0.platform room_1 = true :=
  launch0.hasRoom_least _ room_1 (by decide +kernel) (by decide +kernel) (by decide +kernel) (by decide +kernel) (by decide +kernel) (by decide +kernel)
theorem allAtoms_all (ts : List Jvm.Cond) (a : Array Jvm.Value) (st : Jvm.State) : (allAtoms ts).before a st = ts.all (fun c => c.before a st) := by
  induction ts with
  | nil => rfl
  | cons c t ih =>
    show (Jvm.Cond.and c (allAtoms t)).before a st = _
    rw [Jvm.Cond.before_and, ih, List.all_cons]
def words1 : List Jvm.Cond := Jvm.Cond.code x code maxLocals ret :: tables_1
/-- a 'code' word, met by the world's own term for the bytes: nothing is compared byte by byte -/
theorem code_word {y : MethodName} {bytes : ByteArray} {mx : Nat} {rt : Option FieldType} {a : Array Value} {s : State} {m : MethodId} {meth : Method} {c : Code} (h1 : s.methodNamed? y = some m) (h2 : s.vm.method? m = some meth) (h3 : meth.code = some c) (h4 : c.code = bytes)
    (h5 : (c.maxLocals == mx && c.exceptionTable.isEmpty && decide (c.maxStack ≤ mostOperands) && decide (meth.sig.returnType = rt) && !meth.locks && decide (parseMethodDescriptor y.desc = some meth.sig)) = true) : (Jvm.Cond.code y bytes mx rt).before a s = true := by
  simp only [Bool.and_eq_true, beq_iff_eq, Bool.not_eq_true', decide_eq_true_eq] at h5
  obtain ⟨⟨⟨⟨⟨g1, g2⟩, g3⟩, g4⟩, g5⟩, g6⟩ := h5
  simp [Cond.before, Cond.holds, Cond.value, h1, h2, h3, h4, g1, g2, g3, g4, g5, g6]
def isCode : Jvm.Cond → Bool
  | .code _ _ _ _ => true
  | _ => false
theorem all_split {L : List Jvm.Cond} {P : Jvm.Cond → Bool} (h1 : L.all (fun c => isCode c || P c) = true) (h2 : ∀ c ∈ L.filter isCode, P c = true) : L.all P = true := by
  refine List.all_eq_true.mpr fun c hc => ?_
  have h := List.all_eq_true.mp h1 c hc
  rcases Bool.eq_false_or_eq_true (isCode c) with hi | hi
  · exact h2 c (List.mem_filter.mpr ⟨hc, hi⟩)
  · simpa [hi] using h
set_option maxRecDepth 65536 in
theorem w_c0 : (Jvm.Cond.code x code maxLocals ret).before args0 about1 = true := code_word (m := ⟨1, 1⟩) (meth := k1m1) (c := k1c1) (by decide +kernel) rfl rfl rfl (by decide +kernel)
set_option maxRecDepth 65536 in
theorem w_c1 : (Jvm.Cond.code ({ cls := "com/example/weekly_activity_scheduler/weeklyactivityscheduler/models/RandomStream", name := "<init>", desc := "(J)V" } : Jvm.MethodName) prog_72_method_1_code (3 : Nat) (Option.none : Option Jvm.ClassFile.FieldType)).before args0 about1 = true := code_word (m := ⟨2, 0⟩) (meth := k2m0) (c := k2c0) (by decide +kernel) rfl rfl rfl (by decide +kernel)
set_option maxRecDepth 65536 in
theorem w_c2 : (Jvm.Cond.code ({ cls := "java/lang/Object", name := "<init>", desc := "()V" } : Jvm.MethodName) object_method_1_code (1 : Nat) (Option.none : Option Jvm.ClassFile.FieldType)).before args0 about1 = true := code_word (m := ⟨0, 0⟩) (meth := k0m0) (c := k0c0) (by decide +kernel) rfl rfl rfl (by decide +kernel)
set_option maxRecDepth 65536 in
theorem w_c3 : (Jvm.Cond.code ({ cls := "com/example/weekly_activity_scheduler/weeklyactivityscheduler/models/RandomStream", name := "nextLong", desc := "()J" } : Jvm.MethodName) prog_72_method_3_code (1 : Nat) (Option.some Jvm.ClassFile.FieldType.long)).before args0 about1 = true := code_word (m := ⟨2, 1⟩) (meth := k2m1) (c := k2c1) (by decide +kernel) rfl rfl rfl (by decide +kernel)
set_option maxRecDepth 65536 in
theorem w_c4 : (Jvm.Cond.code ({ cls := "com/example/weekly_activity_scheduler/weeklyactivityscheduler/models/RandomStream", name := "mix", desc := "(J)J" } : Jvm.MethodName) prog_72_method_7_code (4 : Nat) (Option.some Jvm.ClassFile.FieldType.long)).before args0 about1 = true := code_word (m := ⟨2, 2⟩) (meth := k2m2) (c := k2c2) (by decide +kernel) rfl rfl rfl (by decide +kernel)
def codes1 : List Jvm.Cond := [Jvm.Cond.code x code maxLocals ret, Jvm.Cond.code ({ cls := "com/example/weekly_activity_scheduler/weeklyactivityscheduler/models/RandomStream", name := "<init>", desc := "(J)V" } : Jvm.MethodName) prog_72_method_1_code (3 : Nat) (Option.none : Option Jvm.ClassFile.FieldType), Jvm.Cond.code ({ cls := "java/lang/Object", name := "<init>", desc := "()V" } : Jvm.MethodName) object_method_1_code (1 : Nat) (Option.none : Option Jvm.ClassFile.FieldType), Jvm.Cond.code ({ cls := "com/example/weekly_activity_scheduler/weeklyactivityscheduler/models/RandomStream", name := "nextLong", desc := "()J" } : Jvm.MethodName) prog_72_method_3_code (1 : Nat) (Option.some Jvm.ClassFile.FieldType.long), Jvm.Cond.code ({ cls := "com/example/weekly_activity_scheduler/weeklyactivityscheduler/models/RandomStream", name := "mix", desc := "(J)J" } : Jvm.MethodName) prog_72_method_7_code (4 : Nat) (Option.some Jvm.ClassFile.FieldType.long)]
set_option maxRecDepth 65536 in
theorem codes_eq : words1.filter isCode = codes1 := rfl
theorem w_codes : ∀ c ∈ words1.filter isCode, c.before args0 about1 = true := by
  rw [codes_eq]
  intro c hc
  simp only [codes1, List.mem_cons, List.not_mem_nil, or_false] at hc
  rcases hc with rfl | rfl | rfl | rfl | rfl
  · exact w_c0
  · exact w_c1
  · exact w_c2
  · exact w_c3
  · exact w_c4
set_option maxRecDepth 65536 in
theorem w_t1 : (words1.take 24).all (fun c => isCode c || c.before args0 about1) = true := by decide +kernel
set_option maxRecDepth 65536 in
theorem w_t2 : (words1.drop 24).all (fun c => isCode c || c.before args0 about1) = true := by decide +kernel
theorem w_tables : (allAtoms (Jvm.Cond.code x code maxLocals ret :: tables_1)).before args0 about1 = true := by
  rw [allAtoms_all]
  show words1.all (fun c => c.before args0 about1) = true
  refine all_split ?_ w_codes
  rw [← List.take_append_drop 24 words1, List.all_append, w_t1, w_t2]
  rfl
set_option maxRecDepth 65536 in
theorem w_case : (Jvm.Cond.and given_1 narrow_1).before args0 about1 = true := by decide +kernel
theorem w_applies : (headSpec (Jvm.Cond.code x code maxLocals ret :: tables_1) room_1).applies x e0.platform about1 = true :=
  (Spec.applies_iff w_frames).mpr ⟨w_running, w_runnable, w_alone, w_named, w_hears, w_ripe, w_room, w_tables⟩
theorem atStart : AtStart classFile x code maxLocals ret World_1 tables_1 room_1 Calls_1 rest_1 Pre_1 launch0 p0 e0 about1 theMethod args0 below0 :=
  ⟨lists_1, trivial, launch0.admits_env _ _ _, launch0.least_env, fairChoices_fair.cas, fairChoices_fair.clock, w_frames, w_args, w_heap, w_applies, trivial, trivial, w_case⟩
end start1
theorem witness_1 : WitnessClaimed_1 := ⟨start1.p0, start1.e0, start1.about1, start1.theMethod, start1.args0, start1.below0, start1.atStart⟩
end Jvm.Pilot.@@N@@
