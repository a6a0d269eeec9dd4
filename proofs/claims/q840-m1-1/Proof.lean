import JvmDerived
import JvmDerived.Pilot.@@N@@Statement
import JvmDerived.Pilot.@@N@@Code
set_option linter.unusedVariables false
set_option linter.unusedSimpArgs false
namespace Jvm.RoadKit
open Sem ClassFile Op Lib Jvm.Stand Jvm.Free Jvm.LawKit
section OwnNew
variable {p : Program} {l : Launch} {e : Env} {R : Room} {s : State} {m : MethodId} {args : Array Value} {below : List Frame} {meth : Method} {c : Code} {T : State} {locs : List Loc} {cells slots : Nat}
theorem retI (X : Stand p l e R s m args below meth c T locs cells slots) (hx : p.tables.exec = Jvm.exec) {pc : Nat} {Ls : Array Slot} {z : Int32} {rest : List Value} (hret : meth.sig.returnType = some .int) (hd : decode c.code pc = .ok (.ireturn, 1)) {fs : List Frame}
    (hl : ∀ (f : JFrame) (acts : List Action), f.method = m → f.locked = none → f.entered = [] → (doReturn e (T.setTop f) acts (some (.int z))).1 = T.setFrames fs) : Steps p.tables e below (T.setTop (mkF m pc Ls (.int z :: rest))) (T.setFrames fs) := by
  have hm' : T.vm.method? m = some meth := X.method'
  have hn : narrow .int (.int z) = .int z := rfl
  show Steps p.tables e below (T.setTop { method := m, pc := pc, locals := Ls, stack := _ :: rest, locked := none }) _
  jvm_step X.here [X.here.top, hx, hd, hm', hret, hn]
  first | (intro acts; rw [hl _ acts rfl rfl rfl]) | rw [hl _ _ rfl rfl rfl]
  exact Steps.refl _
/-- from S the run comes to an end of this invocation at which K holds -/
def OFin (p : Program) (e : Env) (below : List Frame) (K : Outcome → State → Prop) (S : State) : Prop := ∃ s₂ o, Steps p.tables e below S s₂ ∧ s₂.status = .running ∧ Ended s₂ below o ∧ K o s₂
theorem OFin.of {K : Outcome → State → Prop} {S S' : State} (h : ∀ t, Steps p.tables e below S' t → Steps p.tables e below S t) (k : OFin p e below K S') : OFin p e below K S := by
  obtain ⟨t, o, a, b⟩ := k; exact ⟨t, o, h t a, b⟩
theorem OFin.to {K : Outcome → State → Prop} {S S' : State} (h : Steps p.tables e below S S') (k : OFin p e below K S') : OFin p e below K S := by
  obtain ⟨t, o, a, b⟩ := k; exact ⟨t, o, h.trans a, b⟩
abbrev KPost (s : State) (Q : Option Value → Heap → List Loc → Prop) (C D : Nat) : Outcome → State → Prop := fun o U' => ∃ v L, o = .returned v ∧ Q v U'.heap L ∧ FrameEnd s o U' L C D
theorem OFin.retI (X : Stand p l e R s m args below meth c T locs cells slots) (hx : p.tables.exec = Jvm.exec) (hlk : meth.locks = false) {pc : Nat} {Ls : Array Slot} {z : Int32} {rest : List Value} {Q : Option Value → Heap → List Loc → Prop} {C D : Nat} (hret : meth.sig.returnType = some .int) (hd : decode c.code pc = .ok (.ireturn, 1)) (hC : cells ≤ C) (hD : slots ≤ D) (hQ : Q (some (.int z)) T.heap locs) :
    OFin p e below (KPost s Q C D) (T.setTop (mkF m pc Ls (.int z :: rest))) := by
  obtain ⟨fs, hr, hrun, hended, hW, hsame⟩ := X.leave (v := some (.int z)) (fun h => by rw [hret] at h; cases h) hlk
  exact ⟨_, _, Jvm.RoadKit.retI X hx hret hd hr, hrun, hended, _, _, rfl, hQ, ⟨_, rfl⟩, hW, hsame.mono hC hD⟩
theorem OFin.retB (X : Stand p l e R s m args below meth c T locs cells slots) (hx : p.tables.exec = Jvm.exec) (hlk : meth.locks = false) {pc : Nat} {Ls : Array Slot} {z : Int32} {rest : List Value} {Q : Option Value → Heap → List Loc → Prop} {C D : Nat} {t : FieldType} (ht : t = .boolean ∨ t = .byte ∨ t = .char ∨ t = .short) (hret : meth.sig.returnType = some t) (hd : decode c.code pc = .ok (.ireturn, 1)) (hC : cells ≤ C) (hD : slots ≤ D) (hQ : Q (some (.int (nar t z))) T.heap locs) :
    OFin p e below (KPost s Q C D) (T.setTop (mkF m pc Ls (.int z :: rest))) := by
  obtain ⟨fs, hr, hrun, hended, hW, hsame⟩ := X.leave (v := some (.int (nar t z))) (fun h => by rw [hret] at h; cases h) hlk
  exact ⟨_, _, retN X hx hret ht hd hr, hrun, hended, _, _, rfl, hQ, ⟨_, rfl⟩, hW, hsame.mono hC hD⟩
theorem OFin.retJ (X : Stand p l e R s m args below meth c T locs cells slots) (hx : p.tables.exec = Jvm.exec) (hlk : meth.locks = false) {pc : Nat} {Ls : Array Slot} {z : Int64} {Q : Option Value → Heap → List Loc → Prop} {C D : Nat} (hret : meth.sig.returnType = some .long) (hd : decode c.code pc = .ok (.lreturn, 1)) (hC : cells ≤ C) (hD : slots ≤ D) (hQ : Q (some (.long z)) T.heap locs) :
    OFin p e below (KPost s Q C D) (T.setTop (mkF m pc Ls [.long z])) := by
  obtain ⟨fs, hr, hrun, hended, hW, hsame⟩ := X.leave (v := some (.long z)) (fun h => by rw [hret] at h; cases h) hlk
  exact ⟨_, _, X.lreturnOut hx hret hd hr, hrun, hended, _, _, rfl, hQ, ⟨_, rfl⟩, hW, hsame.mono hC hD⟩
theorem OFin.retA (X : Stand p l e R s m args below meth c T locs cells slots) (hx : p.tables.exec = Jvm.exec) (hlk : meth.locks = false) {pc : Nat} {Ls : Array Slot} {z : Value} {Q : Option Value → Heap → List Loc → Prop} {C D : Nat} {t : FieldType} (ht : t.isReference = true) (hz : z.isRef = true) (hret : meth.sig.returnType = some t) (hd : decode c.code pc = .ok (.areturn, 1)) (hC : cells ≤ C) (hD : slots ≤ D) (hQ : Q (some z) T.heap locs) :
    OFin p e below (KPost s Q C D) (T.setTop (mkF m pc Ls [z])) := by
  obtain ⟨fs, hr, hrun, hended, hW, hsame⟩ := X.leave (v := some z) (fun h => by rw [hret] at h; cases h) hlk
  exact ⟨_, _, X.areturnOut hx hz hret ht hd hr, hrun, hended, _, _, rfl, hQ, ⟨_, rfl⟩, hW, hsame.mono hC hD⟩
theorem OFin.retD (X : Stand p l e R s m args below meth c T locs cells slots) (hx : p.tables.exec = Jvm.exec) (hlk : meth.locks = false) {pc : Nat} {Ls : Array Slot} {z : UInt64} {rest : List Value} {Q : Option Value → Heap → List Loc → Prop} {C D : Nat} (hret : meth.sig.returnType = some .double) (hd : decode c.code pc = .ok (.dreturn, 1)) (hC : cells ≤ C) (hD : slots ≤ D) (hQ : Q (some (.double z)) T.heap locs) :
    OFin p e below (KPost s Q C D) (T.setTop (mkF m pc Ls (.double z :: rest))) := by
  obtain ⟨fs, hr, hrun, hended, hW, hsame⟩ := X.leave (v := some (.double z)) (fun h => by rw [hret] at h; cases h) hlk
  exact ⟨_, _, retOut X hx hret rfl (Or.inr (Or.inr (Or.inl ⟨rfl, rfl, z, rfl⟩))) hd hr, hrun, hended, _, _, rfl, hQ, ⟨_, rfl⟩, hW, hsame.mono hC hD⟩
theorem OFin.retV (X : Stand p l e R s m args below meth c T locs cells slots) (hx : p.tables.exec = Jvm.exec) (hlk : meth.locks = false) {pc : Nat} {Ls : Array Slot} {Q : Option Value → Heap → List Loc → Prop} {C D : Nat} (hret : meth.sig.returnType = none) (hd : decode c.code pc = .ok (.return_, 1)) (hC : cells ≤ C) (hD : slots ≤ D) (hQ : Q none T.heap locs) :
    OFin p e below (KPost s Q C D) (T.setTop (mkF m pc Ls [])) := by
  obtain ⟨fs, hr, hrun, hended, hW, hsame⟩ := X.leave (v := none) (fun _ => rfl) hlk
  exact ⟨_, _, X.returnOut hx hret hd hr, hrun, hended, _, _, rfl, hQ, ⟨_, rfl⟩, hW, hsame.mono hC hD⟩
abbrev KPostW (s : State) (Q : Option Value → Heap → List Loc → Prop) (C D : Nat) : Outcome → State → Prop := fun o U' => ∃ v L, o = .returned v ∧ Q v U'.heap L ∧ ReturnedEndW s o U' L C D
theorem OFin.retBW {vm₁ : Vm} {k : Nat} (X : Stand p l e R (s.setVm vm₁) m args below meth c T locs cells slots) (hS : s.Since vm₁ k) (hk : k ≤ T.heap.size) (hx : p.tables.exec = Jvm.exec) (hlk : meth.locks = false) {pc : Nat} {Ls : Array Slot} {z : Int32} {rest : List Value} {Q : Option Value → Heap → List Loc → Prop} {C D : Nat} {t : FieldType} (ht : t = .boolean ∨ t = .byte ∨ t = .char ∨ t = .short) (hret : meth.sig.returnType = some t) (hd : decode c.code pc = .ok (.ireturn, 1)) (hC : cells ≤ C) (hD : slots ≤ D) (hQ : Q (some (.int (nar t z))) T.heap locs) :
    OFin p e below (KPostW s Q C D) (T.setTop (mkF m pc Ls (.int z :: rest))) := by
  obtain ⟨fs, hr, hrun, hended, h1, h2, h3, h4⟩ := X.leaveW hS hk (v := some (.int (nar t z))) (fun h => by rw [hret] at h; cases h) hlk
  exact ⟨_, _, retN X hx hret ht hd hr, hrun, hended, _, _, rfl, hQ, ⟨_, rfl⟩, h2, h3, h4.mono hC hD⟩
theorem own_alen {Z : State} {h : Heap} {a : Addr} {cl : Cell} {ty : FieldType} {z : Int32} {g : JFrame} {rest : List Value} {target : State} (X : Stand p l e R s m args below meth c T locs cells slots) (hx : p.tables.exec = Jvm.exec) (hZ : Z.Warmed39 s.vm) (eT : T.heap = h) (A : Arr Z h a cl ty) (S : cl.slots.size = z.toNatClampNeg) (q : ¬ z < 0) (hg : g.method = m) (hs : g.stack = .ref a :: rest) (hd : decode c.code g.pc = .ok (.arraylength, 1))
    (hr : Steps p.tables e below (T.setTop { g with pc := g.pc + 1, stack := .int z :: rest }) target) : Steps p.tables e below (T.setTop g) target := by
  refine X.arraylength hx (by rw [eT]; exact A.1) (State.isArrayOf_alike hZ.alike A.2.1) hg hs hd _ ?_
  rw [len_of S q]; exact hr
def OwnNoSta (h : Heap) (ws : List Addr) : Prop := ∀ x ∈ ws, ∀ cell : Cell, h[x]? = some cell → cell.vm.isStatics = false
theorem own_sn0 {h : Heap} : OwnNoSta h [] := fun _ q => nomatch q
theorem own_snS {Z : State} {h : Heap} {a : Addr} {C : String} {ws : List Addr} (E : Exa Z h a C) (r : OwnNoSta h ws) : OwnNoSta h (a :: ws) := fun x q cell hc => by
  rcases List.mem_cons.mp q with rfl | q
  · obtain ⟨c', _, h1, -, -, h4, -⟩ := E; cases h1.symm.trans hc; exact h4
  · exact r x q cell hc
theorem own_snV {Z : State} {h : Heap} {a : Addr} {k : ClassId} {ty : FieldType} {z : Int32} {vs : List Value} {dv : Value} {ws : List Addr} (F : Arv Z h a k ty z vs dv) (r : OwnNoSta h ws) : OwnNoSta h (a :: ws) := fun x q cell hc => by
  rcases List.mem_cons.mp q with rfl | q
  · obtain ⟨c', A, -⟩ := F; cases A.1.symm.trans hc; exact A.plain
  · exact r x q cell hc
theorem own_staKeep {Z : State} {h h' : Heap} {C n d : String} {v : Value} {ws : List Addr} (F : Sta Z h C n d v) (K : Keep h h' ws) (q : OwnNoSta h ws) : Sta Z h' C n d v := by
  obtain ⟨cf, i, k, f, st, cell, h1, h2, h3, h4, h5, h6, h7⟩ := F
  refine ⟨cf, i, k, f, st, cell, h1, h2, h3, h4, K.2.1 st cell h5 (fun z => ?_), h6, h7⟩
  have := q st z cell h5
  rw [this] at h6; cases h6
theorem own_pop2L {tb : Tables} [Ours tb] {e : Env} {below : List Frame} {T target : State} {m : MethodId} {c : Code} {g : JFrame} (h : At T m c below) (hx : tb.exec = Jvm.exec) (hg : g.method = m) {x : Int64} {rest : List Value} (hd : decode c.code g.pc = .ok (.pop2, 1)) (hs : g.stack = .long x :: rest)
    (hr : Steps tb e below (T.setTop { g with pc := g.pc + 1, stack := rest }) target) : Steps tb e below (T.setTop g) target := by
  subst hg
  jvm_step h [h.top, hx, hd, hs, Value.category]
  exact hr
end OwnNew
end Jvm.RoadKit
namespace Jvm.Pilot.@@N@@
open Jvm Jvm.ClassFile Sem Op Lib Jvm.Free Jvm.Stand Jvm.LawKit Jvm.RoadKit Bundle Jvm.Pilot.@@N@@.Jvm.D
theorem pd_0 : parseMethodDescriptor "()V" = some ⟨[], none⟩ := by decide +kernel
theorem pd_1 : parseMethodDescriptor "()D" = some ⟨[], some .double⟩ := by decide +kernel
theorem pd_2 : parseMethodDescriptor "(J)V" = some ⟨[.long], none⟩ := by decide +kernel
theorem own_and3 (x : Int32) : x &&& (3 : Int32) = (0 : Int32) ∨ x &&& (3 : Int32) = (1 : Int32) ∨ x &&& (3 : Int32) = (2 : Int32) ∨ x &&& (3 : Int32) = (3 : Int32) := by
  have h2 := c_mask x 3 2 (by decide) (by decide)
  generalize x &&& 3 = z at h2
  have h3 : z.toInt = 0 ∨ z.toInt = 1 ∨ z.toInt = 2 ∨ z.toInt = 3 := by omega
  have e : ∀ k : Int32, z.toInt = k.toInt → z = k := fun k => Int32.toInt_inj.mp
  rcases h3 with h | h | h | h
  · exact Or.inl (e _ h)
  · exact Or.inr (Or.inl (e _ h))
  · exact Or.inr (Or.inr (Or.inl (e _ h)))
  · exact Or.inr (Or.inr (Or.inr (e _ h)))
theorem own_nz64 {w : Int64} (h : w ≠ 0) : ¬ FP.Core.DZero (FP.l2d w) := fun z => FP.Core.l2d_ne_zero h ((FP.Core.zero_bits2 _).mp z)
theorem own_nn (t : Int64) {w : Int64} (h : w ≠ 0) : Jvm.Free.Fl.NoNaN64 (FP.ddiv (FP.l2d t) (FP.l2d w)) :=
  Jvm.Free.Fl.noNaN64_no.mpr (FP.Core.ddiv_out (FP.Core.l2d_notNaN t) (FP.Core.l2d_fin w) (own_nz64 h))
theorem own_nn0 : Jvm.Free.Fl.NoNaN64 FP.dconst0 := by unfold Jvm.Free.Fl.NoNaN64; decide +kernel
theorem own_two : FP.l2d 2 = (4611686018427387904 : UInt64) := by decide +kernel
theorem own_three : FP.l2d 3 = (4613937818241073152 : UInt64) := by decide +kernel
theorem own_one : FP.l2d 1 = FP.Core.dconst1 := by decide +kernel
theorem own_nn2 (t : Int64) : Jvm.Free.Fl.NoNaN64 (FP.ddiv (FP.l2d t) (4611686018427387904 : UInt64)) := by
  rw [← own_two]; exact own_nn t (by decide)
theorem own_nn3 (t : Int64) : Jvm.Free.Fl.NoNaN64 (FP.ddiv (FP.l2d t) (4613937818241073152 : UInt64)) := by
  rw [← own_three]; exact own_nn t (by decide)
theorem own_nni (t : Int64) {w : Int32} (h : w.toInt64 ≠ 0) : Jvm.Free.Fl.NoNaN64 (FP.ddiv (FP.l2d t) (FP.i2d w)) := by
  rw [i2d_w]; exact own_nn t h
theorem own_div1 (a : Int64) : FP.ddiv (FP.l2d ((0 : Int64) + a)) (FP.l2d (1 : Int64)) = FP.l2d a := by
  rw [Int64.zero_add, own_one]; exact FP.Core.ddiv_one (FP.Core.l2d_fin a).ne_nan
theorem own_div2 (a b : Int64) : FP.ddiv (FP.l2d (((0 : Int64) + a) + b)) (FP.l2d (2 : Int64)) = FP.ddiv (FP.l2d (a + b)) (4611686018427387904 : UInt64) := by
  rw [Int64.zero_add, own_two]
theorem own_div3 (a b c : Int64) : FP.ddiv (FP.l2d ((((0 : Int64) + a) + b) + c)) (FP.l2d (3 : Int64)) = FP.ddiv (FP.l2d ((a + b) + c)) (4613937818241073152 : UInt64) := by
  rw [Int64.zero_add, own_three]
theorem own_i1 : FP.i2d (1 : Int32) = FP.l2d (1 : Int64) := by rw [i2d_w]; rfl
theorem own_i2 : FP.i2d (2 : Int32) = FP.l2d (2 : Int64) := by rw [i2d_w]; rfl
theorem own_i3 : FP.i2d (3 : Int32) = FP.l2d (3 : Int64) := by rw [i2d_w]; rfl
theorem own_e1 (a : Int64) : FP.ddiv (FP.l2d ((0 : Int64) + a)) (FP.l2d (1 : Int64)) = FP.ddiv (FP.l2d ((a + (0 : Int64)) + (0 : Int64))) (FP.i2d (1 : Int32)) := by
  rw [Int64.zero_add, Int64.add_zero, Int64.add_zero, own_i1]
theorem own_e2 (a b : Int64) : FP.ddiv (FP.l2d (((0 : Int64) + a) + b)) (FP.l2d (2 : Int64)) = FP.ddiv (FP.l2d ((a + b) + (0 : Int64))) (FP.i2d (2 : Int32)) := by
  rw [Int64.zero_add, Int64.add_zero, own_i2]
theorem own_e3 (a b c : Int64) : FP.ddiv (FP.l2d ((((0 : Int64) + a) + b) + c)) (FP.l2d (3 : Int64)) = FP.ddiv (FP.l2d ((a + b) + c)) (FP.i2d (3 : Int32)) := by
  rw [Int64.zero_add, own_i3]
theorem own_ge0 {T k : Int64} (hT : 0 ≤ T.toInt) (hk : 0 < k.toInt) : ¬ cmpValue (FP.dcmp (FP.ddiv (FP.l2d T) (FP.l2d k)) FP.dconst0) .l < (0 : Int32) := by
  have hkz : k ≠ 0 := fun q => by subst q; exact absurd hk (by decide)
  have hd := own_nz64 hkz
  obtain ⟨c, q, e1⟩ := FP.Core.l2d_shape T
  obtain ⟨d, r, e2⟩ := FP.Core.l2d_shape k
  rw [show decide (T.toInt < 0) = false from decide_eq_false (by omega)] at e1
  rw [show decide (k.toInt < 0) = false from decide_eq_false (by omega)] at e2
  have hd0 : d ≠ 0 := fun z => hd ⟨false, r, by subst z; exact e2⟩
  have h1 : FP.Core.val64 (FP.ddiv (FP.l2d T) (FP.l2d k)) = FP.Core.roundRatio FP.Core.b64 false c d (q - r) := by
    have h := FP.Core.val64_ddiv (FP.l2d T) (FP.l2d k)
    rw [e1, e2] at h
    refine h.trans ?_
    show (if d = 0 then _ else _) = _
    rw [if_neg hd0]; rfl
  have h2 : FP.dcmp (FP.ddiv (FP.l2d T) (FP.l2d k)) FP.dconst0 = FP.Core.order (FP.Core.val64 (FP.ddiv (FP.l2d T) (FP.l2d k))) (FP.Core.val64 FP.dconst0) := rfl
  have h3 : FP.Core.val64 FP.dconst0 = .fin false 0 FP.Core.b64.qmin := FP.Core.val64_dconst0
  rw [h2, h1, h3]
  rcases FP.Core.roundRatio_cases FP.Core.b64 false c d (q - r) with ⟨c', q', h⟩ | h
  · rw [h]
    show ¬ cmpValue (some (compare (FP.Core.signed false (FP.Core.inUnits c' q' _)) (FP.Core.signed false (FP.Core.inUnits 0 _ _)))) .l < (0 : Int32)
    have z : FP.Core.signed false (FP.Core.inUnits 0 FP.Core.b64.qmin (min q' FP.Core.b64.qmin)) = 0 := by simp [FP.Core.signed, FP.Core.inUnits]
    rw [z]
    have g : 0 ≤ FP.Core.signed false (FP.Core.inUnits c' q' (min q' FP.Core.b64.qmin)) := by simp [FP.Core.signed]
    generalize FP.Core.signed false (FP.Core.inUnits c' q' (min q' FP.Core.b64.qmin)) = w at g
    rw [FP.Core.compare_ite, if_neg (by omega)]
    split <;> decide
  · rw [h]; decide
theorem own_m61 (x : Int64) : 0 ≤ (x &&& (2305843009213693951 : Int64)).toInt ∧ (x &&& (2305843009213693951 : Int64)).toInt < 2305843009213693952 := by
  have h := c_maskL x 2305843009213693951 61 (by decide) (by decide)
  have p : ((2 ^ 61 : Nat) : Int) = 2305843009213693952 := by decide
  rw [p] at h
  omega
theorem own_p1 (a : Int64) : 0 ≤ ((0 : Int64) + (a &&& (2305843009213693951 : Int64))).toInt := by
  rw [Int64.zero_add]; exact (own_m61 a).1
theorem own_p2 (a b : Int64) : 0 ≤ (((0 : Int64) + (a &&& (2305843009213693951 : Int64))) + (b &&& (2305843009213693951 : Int64))).toInt := by
  rw [Int64.zero_add]
  have h1 := own_m61 a
  have h2 := own_m61 b
  have h3 := c_ladd (a &&& 2305843009213693951) (b &&& 2305843009213693951)
  have h4 := rng64 ((a &&& 2305843009213693951) + (b &&& 2305843009213693951))
  omega
theorem own_p3 (a b c : Int64) : 0 ≤ ((((0 : Int64) + (a &&& (2305843009213693951 : Int64))) + (b &&& (2305843009213693951 : Int64))) + (c &&& (2305843009213693951 : Int64))).toInt := by
  rw [Int64.zero_add]
  have h1 := own_m61 a
  have h2 := own_m61 b
  have h5 := own_m61 c
  have h3 := c_ladd (a &&& 2305843009213693951) (b &&& 2305843009213693951)
  have h4 := rng64 ((a &&& 2305843009213693951) + (b &&& 2305843009213693951))
  have h6 := c_ladd ((a &&& 2305843009213693951) + (b &&& 2305843009213693951)) (c &&& 2305843009213693951)
  have h7 := rng64 (((a &&& 2305843009213693951) + (b &&& 2305843009213693951)) + (c &&& 2305843009213693951))
  omega
theorem dIni_0 : decode prog_71_method_1_code 0 = .ok (.aload_n 0, 1) := by decide +kernel
theorem dIni_1 : decode prog_71_method_1_code 1 = .ok (.invokespecial 1, 3) := by decide +kernel
theorem dIni_4 : decode prog_71_method_1_code 4 = .ok (.return_, 1) := by decide +kernel
theorem pnIni : plainName "com/example/kindred_mesh/kindredmesh/peer/SearchTime" = true := by first | (simp [plainName, overriddenIn]; done) | decide +kernel
theorem efIni (m : MethodId) (a0 : Addr) : entryFrame m #[(.ref a0)] 1 = mkF m 0 #[.val (.ref a0)] [] := by first | (simp [entryFrame, mkF, argsToLocals, Value.category]; done) | rfl
def QIni (Z : State) (a0 : Addr) (h0 : Heap) (n0 : Nat) (v : Option Value) (h : Heap) (L : List Loc) : Prop := v = none ∧ Fr n0 L ∧ h = h0
set_option maxRecDepth 65536 in
set_option maxHeartbeats 40000000 in
theorem rmIni (l : Launch) (Z : State) (a0 : Array Value) (hw : ∀ d ∈ tables_1, d.before a0 Z = true) (ws : List Jvm.Cond) (a0 : Addr) (h0 : Heap) (n0 : Nat) (Z0 : n0 ≤ h0.size)  :
    MetFree l (⟨"com/example/kindred_mesh/kindredmesh/peer/SearchTime", "<init>", "()V"⟩ : MethodName) (head1 (Jvm.Cond.code (⟨"com/example/kindred_mesh/kindredmesh/peer/SearchTime", "<init>", "()V"⟩ : MethodName) prog_71_method_1_code 1 none :: ws) ({ frames := 1, cells := 0, slots := 0, locals := 12 } : Room)) (fun a U => a = #[(.ref a0)] ∧ Z.Warmed39 U.vm ∧ U.heap = h0) (fun _ _ _ _ _ => True) (fun _ U o U' => ∃ v L, o = .returned v ∧ QIni Z a0 h0 n0 v U'.heap L ∧ FrameEnd U o U' L ({ frames := 1, cells := 0, slots := 0, locals := 12 } : Room).cells ({ frames := 1, cells := 0, slots := 0, locals := 12 } : Room).slots) := by
  refine MetFree.of_bodySF (plainFor_of_name pnIni) hisR ?_
  intro p e s m args below meth c s₁ Bd hml0 hP hK
  obtain ⟨rfl, hZ, hh⟩ := hP
  have hx := Bd.exec
  have hby := Bd.bytes
  have hlk := BodyLoose.notSynchronized Bd
  have hret := Bd.returns
  have hml : c.maxLocals = 1 := hml0
  have hown : s.vm.findClass "com/example/kindred_mesh/kindredmesh/peer/SearchTime" = some m.cls := findClass_of_methodNamed Bd.named
  have hnm := (name_of_methodNamed Bd.named Bd.method).1
  have X0 : Stand p l e ({ frames := 1, cells := 0, slots := 0, locals := 12 } : Room) s m #[(.ref a0)] below meth c s₁ [] 0 0 := Stand.of_body Bd
  have e0 : s₁.heap = h0 := by rw [← hh, Bd.state]; rfl
  have N0 := Fr.nil n0
  show OFin p e below (KPost s (QIni Z a0 h0 n0) ({ frames := 1, cells := 0, slots := 0, locals := 12 } : Room).cells ({ frames := 1, cells := 0, slots := 0, locals := 12 } : Room).slots) _
  rw [efIni m a0]
  refine OFin.of (S' := s₁.setTop (mkF m 1 #[.val (.ref a0)] [(.ref a0)])) (fun t ht => ?_) ?_
  · refine XS.aloadN X0.here hx rfl (hb hby dIni_0) rfl rfl ?_
    exact ht
  obtain ⟨T1, X1, e1, st1⟩ := initO X0 hx hZ hown (hw _ (List.mem_of_getElem? (i := 6) rfl)) (hw _ (List.mem_of_getElem? (i := 7) rfl)) (hw _ (List.mem_of_getElem? (i := 8) rfl)) e0 (g := (mkF m 1 #[.val (.ref a0)] [(.ref a0)])) rfl (by rw [hml]; rfl) rfl (hb hby dIni_1) (by decide) (W := 0) (by show 2 * 0 + _ ≤ _; exact Nat.le_of_eq rfl) (by decide)
  refine OFin.of (S' := T1.setTop (mkF m 4 #[.val (.ref a0)] [])) (fun t ht => st1 t ht) ?_
  exact OFin.retV X1 hx hlk hret (hb hby dIni_4) (by decide) (by decide) (by rw [e1]; exact ⟨rfl, N0, rfl⟩)
theorem dSv_0 : decode prog_71_method_2_code 0 = .ok (.aload_n 0, 1) := by decide +kernel
theorem dSv_1 : decode prog_71_method_2_code 1 = .ok (.dup, 1) := by decide +kernel
theorem dSv_2 : decode prog_71_method_2_code 2 = .ok (.getfield 7, 3) := by decide +kernel
theorem dSv_5 : decode prog_71_method_2_code 5 = .ok (.lconst 1, 1) := by decide +kernel
theorem dSv_6 : decode prog_71_method_2_code 6 = .ok (.ladd, 1) := by decide +kernel
theorem dSv_7 : decode prog_71_method_2_code 7 = .ok (.putfield 7, 3) := by decide +kernel
theorem dSv_10 : decode prog_71_method_2_code 10 = .ok (.aload_n 0, 1) := by decide +kernel
theorem dSv_11 : decode prog_71_method_2_code 11 = .ok (.dup, 1) := by decide +kernel
theorem dSv_12 : decode prog_71_method_2_code 12 = .ok (.getfield 13, 3) := by decide +kernel
theorem dSv_15 : decode prog_71_method_2_code 15 = .ok (.lload_n 1, 1) := by decide +kernel
theorem dSv_16 : decode prog_71_method_2_code 16 = .ok (.ladd, 1) := by decide +kernel
theorem dSv_17 : decode prog_71_method_2_code 17 = .ok (.putfield 13, 3) := by decide +kernel
theorem dSv_20 : decode prog_71_method_2_code 20 = .ok (.return_, 1) := by decide +kernel
theorem pnSv : plainName "com/example/kindred_mesh/kindredmesh/peer/SearchTime" = true := by first | (simp [plainName, overriddenIn]; done) | decide +kernel
theorem efSv (m : MethodId) (a0 : Addr) (q1 : Int64) : entryFrame m #[(.ref a0), (.long q1)] 3 = mkF m 0 #[.val (.ref a0), .val (.long q1), .second] [] := by first | (simp [entryFrame, mkF, argsToLocals, Value.category]; done) | rfl
def QSv (Z : State) (a0 : Addr) (q1 : Int64) (ww : Int64) (tt : Int64) (mm : UInt64) (h0 : Heap) (n0 : Nat) (v : Option Value) (h : Heap) (L : List Loc) : Prop := v = none ∧ Fr n0 L ∧ Keep h0 h [a0] ∧ Fld Z h a0 "com/example/kindred_mesh/kindredmesh/peer/SearchTime" "served" "J" (.long (ww + (1 : Int64))) ∧ Fld Z h a0 "com/example/kindred_mesh/kindredmesh/peer/SearchTime" "total" "J" (.long (tt + q1)) ∧ Fld Z h a0 "com/example/kindred_mesh/kindredmesh/peer/SearchTime" "lastMean" "D" (.double mm)
set_option maxRecDepth 65536 in
set_option maxHeartbeats 40000000 in
theorem rmSv (l : Launch) (Z : State) (a0 : Array Value) (hw : ∀ d ∈ tables_1, d.before a0 Z = true) (ws : List Jvm.Cond) (a0 : Addr) (q1 : Int64) (ww : Int64) (tt : Int64) (mm : UInt64) (h0 : Heap) (n0 : Nat) (Z0 : n0 ≤ h0.size) (E0 : Exa Z h0 a0 "com/example/kindred_mesh/kindredmesh/peer/SearchTime") (F_served : Fld Z h0 a0 "com/example/kindred_mesh/kindredmesh/peer/SearchTime" "served" "J" (.long ww)) (F_total : Fld Z h0 a0 "com/example/kindred_mesh/kindredmesh/peer/SearchTime" "total" "J" (.long tt)) (F_lastMean : Fld Z h0 a0 "com/example/kindred_mesh/kindredmesh/peer/SearchTime" "lastMean" "D" (.double mm)) (g0 : n0 ≤ a0) :
    MetFree l (⟨"com/example/kindred_mesh/kindredmesh/peer/SearchTime", "served", "(J)V"⟩ : MethodName) (head1 (Jvm.Cond.code (⟨"com/example/kindred_mesh/kindredmesh/peer/SearchTime", "served", "(J)V"⟩ : MethodName) prog_71_method_2_code 3 none :: ws) ({ frames := 0, cells := 0, slots := 0, locals := 0 } : Room)) (fun a U => a = #[(.ref a0), (.long q1)] ∧ Z.Warmed39 U.vm ∧ U.heap = h0) (fun _ _ _ _ _ => True) (fun _ U o U' => ∃ v L, o = .returned v ∧ QSv Z a0 q1 ww tt mm h0 n0 v U'.heap L ∧ FrameEnd U o U' L ({ frames := 0, cells := 0, slots := 0, locals := 0 } : Room).cells ({ frames := 0, cells := 0, slots := 0, locals := 0 } : Room).slots) := by
  refine MetFree.of_bodySF (plainFor_of_name pnSv) hisR ?_
  intro p e s m args below meth c s₁ Bd hml0 hP hK
  obtain ⟨rfl, hZ, hh⟩ := hP
  have hx := Bd.exec
  have hby := Bd.bytes
  have hlk := BodyLoose.notSynchronized Bd
  have hret := Bd.returns
  have hml : c.maxLocals = 3 := hml0
  have hown : s.vm.findClass "com/example/kindred_mesh/kindredmesh/peer/SearchTime" = some m.cls := findClass_of_methodNamed Bd.named
  have hnm := (name_of_methodNamed Bd.named Bd.method).1
  have X0 : Stand p l e ({ frames := 0, cells := 0, slots := 0, locals := 0 } : Room) s m #[(.ref a0), (.long q1)] below meth c s₁ [] 0 0 := Stand.of_body Bd
  have e0 : s₁.heap = h0 := by rw [← hh, Bd.state]; rfl
  have N0 := Fr.nil n0
  show OFin p e below (KPost s (QSv Z a0 q1 ww tt mm h0 n0) ({ frames := 0, cells := 0, slots := 0, locals := 0 } : Room).cells ({ frames := 0, cells := 0, slots := 0, locals := 0 } : Room).slots) _
  rw [efSv m a0 q1]
  have K0 : Keep h0 h0 [a0] := Keep.refl _ _
  refine OFin.of (S' := s₁.setTop (mkF m 2 #[.val (.ref a0), .val (.long q1), .second] [(.ref a0), (.ref a0)])) (fun t ht => ?_) ?_
  · refine XS.aloadN X0.here hx rfl (hb hby dSv_0) rfl rfl ?_
    show Steps p.tables e below (s₁.setTop (mkF m 1 _ [(.ref a0)])) _
    refine XS.dup X0.here hx rfl (hb hby dSv_1) rfl rfl ?_
    exact ht
  obtain ⟨T1, X1, e1, st1⟩ := getF X0 hx hZ hown (host := "") (Or.inl (hw _ (List.mem_of_getElem? (i := 14) rfl))) Via.refl e0 F_served (g := (mkF m 2 #[.val (.ref a0), .val (.long q1), .second] [(.ref a0), (.ref a0)])) rfl rfl (hb hby dSv_2)
  refine OFin.of (S' := T1.setTop (mkF m 5 #[.val (.ref a0), .val (.long q1), .second] [(.long ww), (.ref a0)])) (fun t ht => st1 t ht) ?_
  refine OFin.of (S' := T1.setTop (mkF m 7 #[.val (.ref a0), .val (.long q1), .second] [(.long (ww + (1 : Int64))), (.ref a0)])) (fun t ht => ?_) ?_
  · refine XS.lconst X1.here hx rfl (hb hby dSv_5) ?_
    show Steps p.tables e below (T1.setTop (mkF m 6 _ [(.long (1 : Int64)), (.long ww), (.ref a0)])) _
    refine XS.ladd X1.here hx rfl (hb hby dSv_6) rfl ?_
    exact ht
  obtain ⟨T2, h2, X2, e2, W2, st2⟩ := putF X1 hx hZ hown (host := "") (Or.inl (hw _ (List.mem_of_getElem? (i := 14) rfl))) Via.refl e1 F_served E0 (Or.inl (hw _ (List.mem_of_getElem? (i := 15) rfl))) (hw _ (List.mem_of_getElem? (i := 1) rfl)) (ty := .long) (by decide) rfl rfl (g := (mkF m 7 #[.val (.ref a0), .val (.long q1), .second] [(.long (ww + (1 : Int64))), (.ref a0)])) rfl rfl (hb hby dSv_7)
  have f3 := (E0.wr W2)
  have f4 := (F_total.other W2 (Or.inr (slot_ne (Or.inl (hw _ (List.mem_of_getElem? (i := 19) rfl))) (Or.inl (hw _ (List.mem_of_getElem? (i := 15) rfl))) (by decide) (t := .long) (t' := .long) (by decide) (by decide))))
  have f5 := (F_lastMean.other W2 (Or.inr (slot_ne (Or.inl (hw _ (List.mem_of_getElem? (i := 17) rfl))) (Or.inl (hw _ (List.mem_of_getElem? (i := 15) rfl))) (by decide) (t := .double) (t' := .long) (by decide) (by decide))))
  have Z6 : n0 ≤ h2.size := (Nat.le_trans Z0 (Keep.of_wr W2).1)
  have K7 : Keep h0 h2 [a0] := (K0.wr W2 (Or.inl (List.mem_of_getElem? (i := 0) rfl)))
  have N8 := Fr.snoc X2 N0 g0
  have f9 : Fld Z h2 a0 "com/example/kindred_mesh/kindredmesh/peer/SearchTime" "served" "J" (.long (ww + (1 : Int64))) := (F_served.same W2)
  refine OFin.of (S' := T2.setTop (mkF m 10 #[.val (.ref a0), .val (.long q1), .second] [])) (fun t ht => st2 t ht) ?_
  refine OFin.of (S' := T2.setTop (mkF m 12 #[.val (.ref a0), .val (.long q1), .second] [(.ref a0), (.ref a0)])) (fun t ht => ?_) ?_
  · refine XS.aloadN X2.here hx rfl (hb hby dSv_10) rfl rfl ?_
    show Steps p.tables e below (T2.setTop (mkF m 11 _ [(.ref a0)])) _
    refine XS.dup X2.here hx rfl (hb hby dSv_11) rfl rfl ?_
    exact ht
  obtain ⟨T10, X10, e10, st10⟩ := getF X2 hx hZ hown (host := "") (Or.inl (hw _ (List.mem_of_getElem? (i := 18) rfl))) Via.refl e2 f4 (g := (mkF m 12 #[.val (.ref a0), .val (.long q1), .second] [(.ref a0), (.ref a0)])) rfl rfl (hb hby dSv_12)
  refine OFin.of (S' := T10.setTop (mkF m 15 #[.val (.ref a0), .val (.long q1), .second] [(.long tt), (.ref a0)])) (fun t ht => st10 t ht) ?_
  refine OFin.of (S' := T10.setTop (mkF m 17 #[.val (.ref a0), .val (.long q1), .second] [(.long (tt + q1)), (.ref a0)])) (fun t ht => ?_) ?_
  · refine XS.lloadN X10.here hx rfl (hb hby dSv_15) rfl ?_
    show Steps p.tables e below (T10.setTop (mkF m 16 _ [(.long q1), (.long tt), (.ref a0)])) _
    refine XS.ladd X10.here hx rfl (hb hby dSv_16) rfl ?_
    exact ht
  obtain ⟨T11, h11, X11, e11, W11, st11⟩ := putF X10 hx hZ hown (host := "") (Or.inl (hw _ (List.mem_of_getElem? (i := 18) rfl))) Via.refl e10 f4 f3 (Or.inl (hw _ (List.mem_of_getElem? (i := 19) rfl))) (hw _ (List.mem_of_getElem? (i := 1) rfl)) (ty := .long) (by decide) rfl rfl (g := (mkF m 17 #[.val (.ref a0), .val (.long q1), .second] [(.long (tt + q1)), (.ref a0)])) rfl rfl (hb hby dSv_17)
  have f12 := (f3.wr W11)
  have f13 := (f5.other W11 (Or.inr (slot_ne (Or.inl (hw _ (List.mem_of_getElem? (i := 17) rfl))) (Or.inl (hw _ (List.mem_of_getElem? (i := 19) rfl))) (by decide) (t := .double) (t' := .long) (by decide) (by decide))))
  have f14 := (f9.other W11 (Or.inr (slot_ne (Or.inl (hw _ (List.mem_of_getElem? (i := 15) rfl))) (Or.inl (hw _ (List.mem_of_getElem? (i := 19) rfl))) (by decide) (t := .long) (t' := .long) (by decide) (by decide))))
  have Z15 : n0 ≤ h11.size := (Nat.le_trans Z6 (Keep.of_wr W11).1)
  have K16 : Keep h0 h11 [a0] := (K7.wr W11 (Or.inl (List.mem_of_getElem? (i := 0) rfl)))
  have N17 := Fr.snoc X11 N8 g0
  have f18 : Fld Z h11 a0 "com/example/kindred_mesh/kindredmesh/peer/SearchTime" "total" "J" (.long (tt + q1)) := (f4.same W11)
  refine OFin.of (S' := T11.setTop (mkF m 20 #[.val (.ref a0), .val (.long q1), .second] [])) (fun t ht => st11 t ht) ?_
  exact OFin.retV X11 hx hlk hret (hb hby dSv_20) (by decide) (by decide) (by rw [e11]; exact ⟨rfl, N17, K16, f14, f18, f13⟩)
theorem dNp0_0 : decode prog_71_method_3_code 0 = .ok (.aload_n 0, 1) := by decide +kernel
theorem dNp0_1 : decode prog_71_method_3_code 1 = .ok (.aload_n 0, 1) := by decide +kernel
theorem dNp0_2 : decode prog_71_method_3_code 2 = .ok (.getfield 7, 3) := by decide +kernel
theorem dNp0_5 : decode prog_71_method_3_code 5 = .ok (.lconst 0, 1) := by decide +kernel
theorem dNp0_6 : decode prog_71_method_3_code 6 = .ok (.lcmp, 1) := by decide +kernel
theorem dNp0_7 : decode prog_71_method_3_code 7 = .ok (.ifCond .ne 7, 3) := by decide +kernel
theorem dNp0_10 : decode prog_71_method_3_code 10 = .ok (.dconst 0, 1) := by decide +kernel
theorem dNp0_11 : decode prog_71_method_3_code 11 = .ok (.goto 14, 3) := by decide +kernel
theorem dNp0_25 : decode prog_71_method_3_code 25 = .ok (.putfield 16, 3) := by decide +kernel
theorem dNp0_28 : decode prog_71_method_3_code 28 = .ok (.aload_n 0, 1) := by decide +kernel
theorem dNp0_29 : decode prog_71_method_3_code 29 = .ok (.lconst 0, 1) := by decide +kernel
theorem dNp0_30 : decode prog_71_method_3_code 30 = .ok (.putfield 7, 3) := by decide +kernel
theorem dNp0_33 : decode prog_71_method_3_code 33 = .ok (.aload_n 0, 1) := by decide +kernel
theorem dNp0_34 : decode prog_71_method_3_code 34 = .ok (.lconst 0, 1) := by decide +kernel
theorem dNp0_35 : decode prog_71_method_3_code 35 = .ok (.putfield 13, 3) := by decide +kernel
theorem dNp0_38 : decode prog_71_method_3_code 38 = .ok (.return_, 1) := by decide +kernel
theorem pnNp0 : plainName "com/example/kindred_mesh/kindredmesh/peer/SearchTime" = true := by first | (simp [plainName, overriddenIn]; done) | decide +kernel
theorem efNp0 (m : MethodId) (a0 : Addr) : entryFrame m #[(.ref a0)] 1 = mkF m 0 #[.val (.ref a0)] [] := by first | (simp [entryFrame, mkF, argsToLocals, Value.category]; done) | rfl
def QNp0 (Z : State) (a0 : Addr) (ww : Int64) (tt : Int64) (mm : UInt64) (h0 : Heap) (n0 : Nat) (v : Option Value) (h : Heap) (L : List Loc) : Prop := v = none ∧ Fr n0 L ∧ Keep h0 h [a0] ∧ Fld Z h a0 "com/example/kindred_mesh/kindredmesh/peer/SearchTime" "served" "J" (.long (0 : Int64)) ∧ Fld Z h a0 "com/example/kindred_mesh/kindredmesh/peer/SearchTime" "total" "J" (.long (0 : Int64)) ∧ Fld Z h a0 "com/example/kindred_mesh/kindredmesh/peer/SearchTime" "lastMean" "D" (.double FP.dconst0)
set_option maxRecDepth 65536 in
set_option maxHeartbeats 40000000 in
theorem rmNp0 (l : Launch) (Z : State) (a0 : Array Value) (hw : ∀ d ∈ tables_1, d.before a0 Z = true) (ws : List Jvm.Cond) (a0 : Addr) (ww : Int64) (tt : Int64) (mm : UInt64) (h0 : Heap) (n0 : Nat) (Z0 : n0 ≤ h0.size) (E0 : Exa Z h0 a0 "com/example/kindred_mesh/kindredmesh/peer/SearchTime") (F_served : Fld Z h0 a0 "com/example/kindred_mesh/kindredmesh/peer/SearchTime" "served" "J" (.long ww)) (F_total : Fld Z h0 a0 "com/example/kindred_mesh/kindredmesh/peer/SearchTime" "total" "J" (.long tt)) (F_lastMean : Fld Z h0 a0 "com/example/kindred_mesh/kindredmesh/peer/SearchTime" "lastMean" "D" (.double mm)) (g0 : n0 ≤ a0) (hz : (lcmpW ww (0 : Int64)) = (0 : Int32)) :
    MetFree l (⟨"com/example/kindred_mesh/kindredmesh/peer/SearchTime", "newPeriod", "()V"⟩ : MethodName) (head1 (Jvm.Cond.code (⟨"com/example/kindred_mesh/kindredmesh/peer/SearchTime", "newPeriod", "()V"⟩ : MethodName) prog_71_method_3_code 1 none :: ws) ({ frames := 0, cells := 0, slots := 0, locals := 0 } : Room)) (fun a U => a = #[(.ref a0)] ∧ Z.Warmed39 U.vm ∧ U.heap = h0) (fun _ _ _ _ _ => True) (fun _ U o U' => ∃ v L, o = .returned v ∧ QNp0 Z a0 ww tt mm h0 n0 v U'.heap L ∧ FrameEnd U o U' L ({ frames := 0, cells := 0, slots := 0, locals := 0 } : Room).cells ({ frames := 0, cells := 0, slots := 0, locals := 0 } : Room).slots) := by
  refine MetFree.of_bodySF (plainFor_of_name pnNp0) hisR ?_
  intro p e s m args below meth c s₁ Bd hml0 hP hK
  obtain ⟨rfl, hZ, hh⟩ := hP
  have hx := Bd.exec
  have hby := Bd.bytes
  have hlk := BodyLoose.notSynchronized Bd
  have hret := Bd.returns
  have hml : c.maxLocals = 1 := hml0
  have hown : s.vm.findClass "com/example/kindred_mesh/kindredmesh/peer/SearchTime" = some m.cls := findClass_of_methodNamed Bd.named
  have hnm := (name_of_methodNamed Bd.named Bd.method).1
  have X0 : Stand p l e ({ frames := 0, cells := 0, slots := 0, locals := 0 } : Room) s m #[(.ref a0)] below meth c s₁ [] 0 0 := Stand.of_body Bd
  have e0 : s₁.heap = h0 := by rw [← hh, Bd.state]; rfl
  have N0 := Fr.nil n0
  show OFin p e below (KPost s (QNp0 Z a0 ww tt mm h0 n0) ({ frames := 0, cells := 0, slots := 0, locals := 0 } : Room).cells ({ frames := 0, cells := 0, slots := 0, locals := 0 } : Room).slots) _
  rw [efNp0 m a0]
  have K0 : Keep h0 h0 [a0] := Keep.refl _ _
  refine OFin.of (S' := s₁.setTop (mkF m 2 #[.val (.ref a0)] [(.ref a0), (.ref a0)])) (fun t ht => ?_) ?_
  · refine XS.aloadN X0.here hx rfl (hb hby dNp0_0) rfl rfl ?_
    show Steps p.tables e below (s₁.setTop (mkF m 1 _ [(.ref a0)])) _
    refine XS.aloadN X0.here hx rfl (hb hby dNp0_1) rfl rfl ?_
    exact ht
  obtain ⟨T1, X1, e1, st1⟩ := getF X0 hx hZ hown (host := "") (Or.inl (hw _ (List.mem_of_getElem? (i := 14) rfl))) Via.refl e0 F_served (g := (mkF m 2 #[.val (.ref a0)] [(.ref a0), (.ref a0)])) rfl rfl (hb hby dNp0_2)
  refine OFin.of (S' := T1.setTop (mkF m 5 #[.val (.ref a0)] [(.long ww), (.ref a0)])) (fun t ht => st1 t ht) ?_
  refine OFin.of (S' := T1.setTop (mkF m 25 #[.val (.ref a0)] [(.double FP.dconst0), (.ref a0)])) (fun t ht => ?_) ?_
  · refine XS.lconst X1.here hx rfl (hb hby dNp0_5) ?_
    show Steps p.tables e below (T1.setTop (mkF m 6 _ [(.long (0 : Int64)), (.long ww), (.ref a0)])) _
    refine XS.lcmp X1.here hx rfl (hb hby dNp0_6) rfl ?_
    show Steps p.tables e below (T1.setTop (mkF m 7 _ [(.int (lcmpW ww (0 : Int64))), (.ref a0)])) _
    refine XS.ifNo X1.here hx rfl (hb hby dNp0_7) rfl ((if0 _ _).trans (teq (hz : (lcmpW ww (0 : Int64)) = (0 : Int32))).2) ?_
    show Steps p.tables e below (T1.setTop (mkF m 10 _ [(.ref a0)])) _
    refine XS.dconst0 X1.here hx rfl (hb hby dNp0_10) rfl ?_
    show Steps p.tables e below (T1.setTop (mkF m 11 _ [(.double FP.dconst0), (.ref a0)])) _
    refine XS.goto X1.here hx rfl (pc0 := 11) (pc' := 25) rfl (hb hby dNp0_11) (by decide) (by decide) ?_
    exact ht
  obtain ⟨T2, h2, X2, e2, W2, st2⟩ := putF X1 hx hZ hown (host := "") (Or.inl (hw _ (List.mem_of_getElem? (i := 16) rfl))) Via.refl e1 F_lastMean E0 (Or.inl (hw _ (List.mem_of_getElem? (i := 17) rfl))) (hw _ (List.mem_of_getElem? (i := 1) rfl)) (ty := .double) (by decide) rfl rfl (g := (mkF m 25 #[.val (.ref a0)] [(.double FP.dconst0), (.ref a0)])) rfl rfl (hb hby dNp0_25)
  have f3 := (E0.wr W2)
  have f4 := (F_served.other W2 (Or.inr (slot_ne (Or.inl (hw _ (List.mem_of_getElem? (i := 15) rfl))) (Or.inl (hw _ (List.mem_of_getElem? (i := 17) rfl))) (by decide) (t := .long) (t' := .double) (by decide) (by decide))))
  have f5 := (F_total.other W2 (Or.inr (slot_ne (Or.inl (hw _ (List.mem_of_getElem? (i := 19) rfl))) (Or.inl (hw _ (List.mem_of_getElem? (i := 17) rfl))) (by decide) (t := .long) (t' := .double) (by decide) (by decide))))
  have Z6 : n0 ≤ h2.size := (Nat.le_trans Z0 (Keep.of_wr W2).1)
  have K7 : Keep h0 h2 [a0] := (K0.wr W2 (Or.inl (List.mem_of_getElem? (i := 0) rfl)))
  have N8 := Fr.snoc X2 N0 g0
  have f9 : Fld Z h2 a0 "com/example/kindred_mesh/kindredmesh/peer/SearchTime" "lastMean" "D" (.double FP.dconst0) := (F_lastMean.same W2)
  refine OFin.of (S' := T2.setTop (mkF m 28 #[.val (.ref a0)] [])) (fun t ht => st2 t ht) ?_
  refine OFin.of (S' := T2.setTop (mkF m 30 #[.val (.ref a0)] [(.long (0 : Int64)), (.ref a0)])) (fun t ht => ?_) ?_
  · refine XS.aloadN X2.here hx rfl (hb hby dNp0_28) rfl rfl ?_
    show Steps p.tables e below (T2.setTop (mkF m 29 _ [(.ref a0)])) _
    refine XS.lconst X2.here hx rfl (hb hby dNp0_29) ?_
    exact ht
  obtain ⟨T10, h10, X10, e10, W10, st10⟩ := putF X2 hx hZ hown (host := "") (Or.inl (hw _ (List.mem_of_getElem? (i := 14) rfl))) Via.refl e2 f4 f3 (Or.inl (hw _ (List.mem_of_getElem? (i := 15) rfl))) (hw _ (List.mem_of_getElem? (i := 1) rfl)) (ty := .long) (by decide) rfl rfl (g := (mkF m 30 #[.val (.ref a0)] [(.long (0 : Int64)), (.ref a0)])) rfl rfl (hb hby dNp0_30)
  have f11 := (f3.wr W10)
  have f12 := (f5.other W10 (Or.inr (slot_ne (Or.inl (hw _ (List.mem_of_getElem? (i := 19) rfl))) (Or.inl (hw _ (List.mem_of_getElem? (i := 15) rfl))) (by decide) (t := .long) (t' := .long) (by decide) (by decide))))
  have f13 := (f9.other W10 (Or.inr (slot_ne (Or.inl (hw _ (List.mem_of_getElem? (i := 17) rfl))) (Or.inl (hw _ (List.mem_of_getElem? (i := 15) rfl))) (by decide) (t := .double) (t' := .long) (by decide) (by decide))))
  have Z14 : n0 ≤ h10.size := (Nat.le_trans Z6 (Keep.of_wr W10).1)
  have K15 : Keep h0 h10 [a0] := (K7.wr W10 (Or.inl (List.mem_of_getElem? (i := 0) rfl)))
  have N16 := Fr.snoc X10 N8 g0
  have f17 : Fld Z h10 a0 "com/example/kindred_mesh/kindredmesh/peer/SearchTime" "served" "J" (.long (0 : Int64)) := (f4.same W10)
  refine OFin.of (S' := T10.setTop (mkF m 33 #[.val (.ref a0)] [])) (fun t ht => st10 t ht) ?_
  refine OFin.of (S' := T10.setTop (mkF m 35 #[.val (.ref a0)] [(.long (0 : Int64)), (.ref a0)])) (fun t ht => ?_) ?_
  · refine XS.aloadN X10.here hx rfl (hb hby dNp0_33) rfl rfl ?_
    show Steps p.tables e below (T10.setTop (mkF m 34 _ [(.ref a0)])) _
    refine XS.lconst X10.here hx rfl (hb hby dNp0_34) ?_
    exact ht
  obtain ⟨T18, h18, X18, e18, W18, st18⟩ := putF X10 hx hZ hown (host := "") (Or.inl (hw _ (List.mem_of_getElem? (i := 18) rfl))) Via.refl e10 f12 f11 (Or.inl (hw _ (List.mem_of_getElem? (i := 19) rfl))) (hw _ (List.mem_of_getElem? (i := 1) rfl)) (ty := .long) (by decide) rfl rfl (g := (mkF m 35 #[.val (.ref a0)] [(.long (0 : Int64)), (.ref a0)])) rfl rfl (hb hby dNp0_35)
  have f19 := (f11.wr W18)
  have f20 := (f13.other W18 (Or.inr (slot_ne (Or.inl (hw _ (List.mem_of_getElem? (i := 17) rfl))) (Or.inl (hw _ (List.mem_of_getElem? (i := 19) rfl))) (by decide) (t := .double) (t' := .long) (by decide) (by decide))))
  have f21 := (f17.other W18 (Or.inr (slot_ne (Or.inl (hw _ (List.mem_of_getElem? (i := 15) rfl))) (Or.inl (hw _ (List.mem_of_getElem? (i := 19) rfl))) (by decide) (t := .long) (t' := .long) (by decide) (by decide))))
  have Z22 : n0 ≤ h18.size := (Nat.le_trans Z14 (Keep.of_wr W18).1)
  have K23 : Keep h0 h18 [a0] := (K15.wr W18 (Or.inl (List.mem_of_getElem? (i := 0) rfl)))
  have N24 := Fr.snoc X18 N16 g0
  have f25 : Fld Z h18 a0 "com/example/kindred_mesh/kindredmesh/peer/SearchTime" "total" "J" (.long (0 : Int64)) := (f12.same W18)
  refine OFin.of (S' := T18.setTop (mkF m 38 #[.val (.ref a0)] [])) (fun t ht => st18 t ht) ?_
  exact OFin.retV X18 hx hlk hret (hb hby dNp0_38) (by decide) (by decide) (by rw [e18]; exact ⟨rfl, N24, K23, f21, f25, f20⟩)
theorem dNp1_0 : decode prog_71_method_3_code 0 = .ok (.aload_n 0, 1) := by decide +kernel
theorem dNp1_1 : decode prog_71_method_3_code 1 = .ok (.aload_n 0, 1) := by decide +kernel
theorem dNp1_2 : decode prog_71_method_3_code 2 = .ok (.getfield 7, 3) := by decide +kernel
theorem dNp1_5 : decode prog_71_method_3_code 5 = .ok (.lconst 0, 1) := by decide +kernel
theorem dNp1_6 : decode prog_71_method_3_code 6 = .ok (.lcmp, 1) := by decide +kernel
theorem dNp1_7 : decode prog_71_method_3_code 7 = .ok (.ifCond .ne 7, 3) := by decide +kernel
theorem dNp1_14 : decode prog_71_method_3_code 14 = .ok (.aload_n 0, 1) := by decide +kernel
theorem dNp1_15 : decode prog_71_method_3_code 15 = .ok (.getfield 13, 3) := by decide +kernel
theorem dNp1_18 : decode prog_71_method_3_code 18 = .ok (.l2d, 1) := by decide +kernel
theorem dNp1_19 : decode prog_71_method_3_code 19 = .ok (.aload_n 0, 1) := by decide +kernel
theorem dNp1_20 : decode prog_71_method_3_code 20 = .ok (.getfield 7, 3) := by decide +kernel
theorem dNp1_23 : decode prog_71_method_3_code 23 = .ok (.l2d, 1) := by decide +kernel
theorem dNp1_24 : decode prog_71_method_3_code 24 = .ok (.ddiv, 1) := by decide +kernel
theorem dNp1_25 : decode prog_71_method_3_code 25 = .ok (.putfield 16, 3) := by decide +kernel
theorem dNp1_28 : decode prog_71_method_3_code 28 = .ok (.aload_n 0, 1) := by decide +kernel
theorem dNp1_29 : decode prog_71_method_3_code 29 = .ok (.lconst 0, 1) := by decide +kernel
theorem dNp1_30 : decode prog_71_method_3_code 30 = .ok (.putfield 7, 3) := by decide +kernel
theorem dNp1_33 : decode prog_71_method_3_code 33 = .ok (.aload_n 0, 1) := by decide +kernel
theorem dNp1_34 : decode prog_71_method_3_code 34 = .ok (.lconst 0, 1) := by decide +kernel
theorem dNp1_35 : decode prog_71_method_3_code 35 = .ok (.putfield 13, 3) := by decide +kernel
theorem dNp1_38 : decode prog_71_method_3_code 38 = .ok (.return_, 1) := by decide +kernel
theorem pnNp1 : plainName "com/example/kindred_mesh/kindredmesh/peer/SearchTime" = true := by first | (simp [plainName, overriddenIn]; done) | decide +kernel
theorem efNp1 (m : MethodId) (a0 : Addr) : entryFrame m #[(.ref a0)] 1 = mkF m 0 #[.val (.ref a0)] [] := by first | (simp [entryFrame, mkF, argsToLocals, Value.category]; done) | rfl
def QNp1 (Z : State) (a0 : Addr) (ww : Int64) (tt : Int64) (mm : UInt64) (h0 : Heap) (n0 : Nat) (v : Option Value) (h : Heap) (L : List Loc) : Prop := v = none ∧ Fr n0 L ∧ Keep h0 h [a0] ∧ Fld Z h a0 "com/example/kindred_mesh/kindredmesh/peer/SearchTime" "served" "J" (.long (0 : Int64)) ∧ Fld Z h a0 "com/example/kindred_mesh/kindredmesh/peer/SearchTime" "total" "J" (.long (0 : Int64)) ∧ Fld Z h a0 "com/example/kindred_mesh/kindredmesh/peer/SearchTime" "lastMean" "D" (.double (FP.ddiv (FP.l2d tt) (FP.l2d ww)))
set_option maxRecDepth 65536 in
set_option maxHeartbeats 40000000 in
theorem rmNp1 (l : Launch) (Z : State) (a0 : Array Value) (hw : ∀ d ∈ tables_1, d.before a0 Z = true) (ws : List Jvm.Cond) (a0 : Addr) (ww : Int64) (tt : Int64) (mm : UInt64) (h0 : Heap) (n0 : Nat) (Z0 : n0 ≤ h0.size) (E0 : Exa Z h0 a0 "com/example/kindred_mesh/kindredmesh/peer/SearchTime") (F_served : Fld Z h0 a0 "com/example/kindred_mesh/kindredmesh/peer/SearchTime" "served" "J" (.long ww)) (F_total : Fld Z h0 a0 "com/example/kindred_mesh/kindredmesh/peer/SearchTime" "total" "J" (.long tt)) (F_lastMean : Fld Z h0 a0 "com/example/kindred_mesh/kindredmesh/peer/SearchTime" "lastMean" "D" (.double mm)) (g0 : n0 ≤ a0) (hz : ¬ (lcmpW ww (0 : Int64)) = (0 : Int32)) (hn : Jvm.Free.Fl.NoNaN64 (FP.ddiv (FP.l2d tt) (FP.l2d ww))) :
    MetFree l (⟨"com/example/kindred_mesh/kindredmesh/peer/SearchTime", "newPeriod", "()V"⟩ : MethodName) (head1 (Jvm.Cond.code (⟨"com/example/kindred_mesh/kindredmesh/peer/SearchTime", "newPeriod", "()V"⟩ : MethodName) prog_71_method_3_code 1 none :: ws) ({ frames := 0, cells := 0, slots := 0, locals := 0 } : Room)) (fun a U => a = #[(.ref a0)] ∧ Z.Warmed39 U.vm ∧ U.heap = h0) (fun _ _ _ _ _ => True) (fun _ U o U' => ∃ v L, o = .returned v ∧ QNp1 Z a0 ww tt mm h0 n0 v U'.heap L ∧ FrameEnd U o U' L ({ frames := 0, cells := 0, slots := 0, locals := 0 } : Room).cells ({ frames := 0, cells := 0, slots := 0, locals := 0 } : Room).slots) := by
  refine MetFree.of_bodySF (plainFor_of_name pnNp1) hisR ?_
  intro p e s m args below meth c s₁ Bd hml0 hP hK
  obtain ⟨rfl, hZ, hh⟩ := hP
  have hx := Bd.exec
  have hby := Bd.bytes
  have hlk := BodyLoose.notSynchronized Bd
  have hret := Bd.returns
  have hml : c.maxLocals = 1 := hml0
  have hown : s.vm.findClass "com/example/kindred_mesh/kindredmesh/peer/SearchTime" = some m.cls := findClass_of_methodNamed Bd.named
  have hnm := (name_of_methodNamed Bd.named Bd.method).1
  have X0 : Stand p l e ({ frames := 0, cells := 0, slots := 0, locals := 0 } : Room) s m #[(.ref a0)] below meth c s₁ [] 0 0 := Stand.of_body Bd
  have e0 : s₁.heap = h0 := by rw [← hh, Bd.state]; rfl
  have N0 := Fr.nil n0
  show OFin p e below (KPost s (QNp1 Z a0 ww tt mm h0 n0) ({ frames := 0, cells := 0, slots := 0, locals := 0 } : Room).cells ({ frames := 0, cells := 0, slots := 0, locals := 0 } : Room).slots) _
  rw [efNp1 m a0]
  have K0 : Keep h0 h0 [a0] := Keep.refl _ _
  refine OFin.of (S' := s₁.setTop (mkF m 2 #[.val (.ref a0)] [(.ref a0), (.ref a0)])) (fun t ht => ?_) ?_
  · refine XS.aloadN X0.here hx rfl (hb hby dNp1_0) rfl rfl ?_
    show Steps p.tables e below (s₁.setTop (mkF m 1 _ [(.ref a0)])) _
    refine XS.aloadN X0.here hx rfl (hb hby dNp1_1) rfl rfl ?_
    exact ht
  obtain ⟨T1, X1, e1, st1⟩ := getF X0 hx hZ hown (host := "") (Or.inl (hw _ (List.mem_of_getElem? (i := 14) rfl))) Via.refl e0 F_served (g := (mkF m 2 #[.val (.ref a0)] [(.ref a0), (.ref a0)])) rfl rfl (hb hby dNp1_2)
  refine OFin.of (S' := T1.setTop (mkF m 5 #[.val (.ref a0)] [(.long ww), (.ref a0)])) (fun t ht => st1 t ht) ?_
  refine OFin.of (S' := T1.setTop (mkF m 15 #[.val (.ref a0)] [(.ref a0), (.ref a0)])) (fun t ht => ?_) ?_
  · refine XS.lconst X1.here hx rfl (hb hby dNp1_5) ?_
    show Steps p.tables e below (T1.setTop (mkF m 6 _ [(.long (0 : Int64)), (.long ww), (.ref a0)])) _
    refine XS.lcmp X1.here hx rfl (hb hby dNp1_6) rfl ?_
    show Steps p.tables e below (T1.setTop (mkF m 7 _ [(.int (lcmpW ww (0 : Int64))), (.ref a0)])) _
    refine XS.ifYes X1.here hx rfl (pc0 := 7) (pc' := 14) rfl (hb hby dNp1_7) rfl ((if0 _ _).trans (feq (hz : ¬ ((lcmpW ww (0 : Int64)) = (0 : Int32)))).2) (by decide) (by decide) ?_
    show Steps p.tables e below (T1.setTop (mkF m 14 _ [(.ref a0)])) _
    refine XS.aloadN X1.here hx rfl (hb hby dNp1_14) rfl rfl ?_
    exact ht
  obtain ⟨T2, X2, e2, st2⟩ := getF X1 hx hZ hown (host := "") (Or.inl (hw _ (List.mem_of_getElem? (i := 18) rfl))) Via.refl e1 F_total (g := (mkF m 15 #[.val (.ref a0)] [(.ref a0), (.ref a0)])) rfl rfl (hb hby dNp1_15)
  refine OFin.of (S' := T2.setTop (mkF m 18 #[.val (.ref a0)] [(.long tt), (.ref a0)])) (fun t ht => st2 t ht) ?_
  refine OFin.of (S' := T2.setTop (mkF m 20 #[.val (.ref a0)] [(.ref a0), (.double (FP.l2d tt)), (.ref a0)])) (fun t ht => ?_) ?_
  · refine XS.l2dS X2.here hx rfl (hb hby dNp1_18) rfl rfl ?_
    show Steps p.tables e below (T2.setTop (mkF m 19 _ [(.double (FP.l2d tt)), (.ref a0)])) _
    refine XS.aloadN X2.here hx rfl (hb hby dNp1_19) rfl rfl ?_
    exact ht
  obtain ⟨T3, X3, e3, st3⟩ := getF X2 hx hZ hown (host := "") (Or.inl (hw _ (List.mem_of_getElem? (i := 14) rfl))) Via.refl e2 F_served (g := (mkF m 20 #[.val (.ref a0)] [(.ref a0), (.double (FP.l2d tt)), (.ref a0)])) rfl rfl (hb hby dNp1_20)
  refine OFin.of (S' := T3.setTop (mkF m 23 #[.val (.ref a0)] [(.long ww), (.double (FP.l2d tt)), (.ref a0)])) (fun t ht => st3 t ht) ?_
  refine OFin.of (S' := T3.setTop (mkF m 25 #[.val (.ref a0)] [(.double (FP.ddiv (FP.l2d tt) (FP.l2d ww))), (.ref a0)])) (fun t ht => ?_) ?_
  · refine XS.l2dS X3.here hx rfl (hb hby dNp1_23) rfl rfl ?_
    show Steps p.tables e below (T3.setTop (mkF m 24 _ [(.double (FP.l2d ww)), (.double (FP.l2d tt)), (.ref a0)])) _
    refine XS.ddivS X3.here hx rfl (hb hby dNp1_24) rfl hn rfl ?_
    exact ht
  obtain ⟨T4, h4, X4, e4, W4, st4⟩ := putF X3 hx hZ hown (host := "") (Or.inl (hw _ (List.mem_of_getElem? (i := 16) rfl))) Via.refl e3 F_lastMean E0 (Or.inl (hw _ (List.mem_of_getElem? (i := 17) rfl))) (hw _ (List.mem_of_getElem? (i := 1) rfl)) (ty := .double) (by decide) rfl rfl (g := (mkF m 25 #[.val (.ref a0)] [(.double (FP.ddiv (FP.l2d tt) (FP.l2d ww))), (.ref a0)])) rfl rfl (hb hby dNp1_25)
  have f5 := (E0.wr W4)
  have f6 := (F_served.other W4 (Or.inr (slot_ne (Or.inl (hw _ (List.mem_of_getElem? (i := 15) rfl))) (Or.inl (hw _ (List.mem_of_getElem? (i := 17) rfl))) (by decide) (t := .long) (t' := .double) (by decide) (by decide))))
  have f7 := (F_total.other W4 (Or.inr (slot_ne (Or.inl (hw _ (List.mem_of_getElem? (i := 19) rfl))) (Or.inl (hw _ (List.mem_of_getElem? (i := 17) rfl))) (by decide) (t := .long) (t' := .double) (by decide) (by decide))))
  have Z8 : n0 ≤ h4.size := (Nat.le_trans Z0 (Keep.of_wr W4).1)
  have K9 : Keep h0 h4 [a0] := (K0.wr W4 (Or.inl (List.mem_of_getElem? (i := 0) rfl)))
  have N10 := Fr.snoc X4 N0 g0
  have f11 : Fld Z h4 a0 "com/example/kindred_mesh/kindredmesh/peer/SearchTime" "lastMean" "D" (.double (FP.ddiv (FP.l2d tt) (FP.l2d ww))) := (F_lastMean.same W4)
  refine OFin.of (S' := T4.setTop (mkF m 28 #[.val (.ref a0)] [])) (fun t ht => st4 t ht) ?_
  refine OFin.of (S' := T4.setTop (mkF m 30 #[.val (.ref a0)] [(.long (0 : Int64)), (.ref a0)])) (fun t ht => ?_) ?_
  · refine XS.aloadN X4.here hx rfl (hb hby dNp1_28) rfl rfl ?_
    show Steps p.tables e below (T4.setTop (mkF m 29 _ [(.ref a0)])) _
    refine XS.lconst X4.here hx rfl (hb hby dNp1_29) ?_
    exact ht
  obtain ⟨T12, h12, X12, e12, W12, st12⟩ := putF X4 hx hZ hown (host := "") (Or.inl (hw _ (List.mem_of_getElem? (i := 14) rfl))) Via.refl e4 f6 f5 (Or.inl (hw _ (List.mem_of_getElem? (i := 15) rfl))) (hw _ (List.mem_of_getElem? (i := 1) rfl)) (ty := .long) (by decide) rfl rfl (g := (mkF m 30 #[.val (.ref a0)] [(.long (0 : Int64)), (.ref a0)])) rfl rfl (hb hby dNp1_30)
  have f13 := (f5.wr W12)
  have f14 := (f7.other W12 (Or.inr (slot_ne (Or.inl (hw _ (List.mem_of_getElem? (i := 19) rfl))) (Or.inl (hw _ (List.mem_of_getElem? (i := 15) rfl))) (by decide) (t := .long) (t' := .long) (by decide) (by decide))))
  have f15 := (f11.other W12 (Or.inr (slot_ne (Or.inl (hw _ (List.mem_of_getElem? (i := 17) rfl))) (Or.inl (hw _ (List.mem_of_getElem? (i := 15) rfl))) (by decide) (t := .double) (t' := .long) (by decide) (by decide))))
  have Z16 : n0 ≤ h12.size := (Nat.le_trans Z8 (Keep.of_wr W12).1)
  have K17 : Keep h0 h12 [a0] := (K9.wr W12 (Or.inl (List.mem_of_getElem? (i := 0) rfl)))
  have N18 := Fr.snoc X12 N10 g0
  have f19 : Fld Z h12 a0 "com/example/kindred_mesh/kindredmesh/peer/SearchTime" "served" "J" (.long (0 : Int64)) := (f6.same W12)
  refine OFin.of (S' := T12.setTop (mkF m 33 #[.val (.ref a0)] [])) (fun t ht => st12 t ht) ?_
  refine OFin.of (S' := T12.setTop (mkF m 35 #[.val (.ref a0)] [(.long (0 : Int64)), (.ref a0)])) (fun t ht => ?_) ?_
  · refine XS.aloadN X12.here hx rfl (hb hby dNp1_33) rfl rfl ?_
    show Steps p.tables e below (T12.setTop (mkF m 34 _ [(.ref a0)])) _
    refine XS.lconst X12.here hx rfl (hb hby dNp1_34) ?_
    exact ht
  obtain ⟨T20, h20, X20, e20, W20, st20⟩ := putF X12 hx hZ hown (host := "") (Or.inl (hw _ (List.mem_of_getElem? (i := 18) rfl))) Via.refl e12 f14 f13 (Or.inl (hw _ (List.mem_of_getElem? (i := 19) rfl))) (hw _ (List.mem_of_getElem? (i := 1) rfl)) (ty := .long) (by decide) rfl rfl (g := (mkF m 35 #[.val (.ref a0)] [(.long (0 : Int64)), (.ref a0)])) rfl rfl (hb hby dNp1_35)
  have f21 := (f13.wr W20)
  have f22 := (f15.other W20 (Or.inr (slot_ne (Or.inl (hw _ (List.mem_of_getElem? (i := 17) rfl))) (Or.inl (hw _ (List.mem_of_getElem? (i := 19) rfl))) (by decide) (t := .double) (t' := .long) (by decide) (by decide))))
  have f23 := (f19.other W20 (Or.inr (slot_ne (Or.inl (hw _ (List.mem_of_getElem? (i := 15) rfl))) (Or.inl (hw _ (List.mem_of_getElem? (i := 19) rfl))) (by decide) (t := .long) (t' := .long) (by decide) (by decide))))
  have Z24 : n0 ≤ h20.size := (Nat.le_trans Z16 (Keep.of_wr W20).1)
  have K25 : Keep h0 h20 [a0] := (K17.wr W20 (Or.inl (List.mem_of_getElem? (i := 0) rfl)))
  have N26 := Fr.snoc X20 N18 g0
  have f27 : Fld Z h20 a0 "com/example/kindred_mesh/kindredmesh/peer/SearchTime" "total" "J" (.long (0 : Int64)) := (f14.same W20)
  refine OFin.of (S' := T20.setTop (mkF m 38 #[.val (.ref a0)] [])) (fun t ht => st20 t ht) ?_
  exact OFin.retV X20 hx hlk hret (hb hby dNp1_38) (by decide) (by decide) (by rw [e20]; exact ⟨rfl, N26, K25, f23, f27, f22⟩)
theorem dLm_0 : decode prog_71_method_5_code 0 = .ok (.aload_n 0, 1) := by decide +kernel
theorem dLm_1 : decode prog_71_method_5_code 1 = .ok (.getfield 16, 3) := by decide +kernel
theorem dLm_4 : decode prog_71_method_5_code 4 = .ok (.dreturn, 1) := by decide +kernel
theorem pnLm : plainName "com/example/kindred_mesh/kindredmesh/peer/SearchTime" = true := by first | (simp [plainName, overriddenIn]; done) | decide +kernel
theorem efLm (m : MethodId) (a0 : Addr) : entryFrame m #[(.ref a0)] 1 = mkF m 0 #[.val (.ref a0)] [] := by first | (simp [entryFrame, mkF, argsToLocals, Value.category]; done) | rfl
def QLm (Z : State) (a0 : Addr) (mm : UInt64) (h0 : Heap) (n0 : Nat) (v : Option Value) (h : Heap) (L : List Loc) : Prop := v = some (.double mm) ∧ Fr n0 L ∧ h = h0
set_option maxRecDepth 65536 in
set_option maxHeartbeats 40000000 in
theorem rmLm (l : Launch) (Z : State) (a0 : Array Value) (hw : ∀ d ∈ tables_1, d.before a0 Z = true) (ws : List Jvm.Cond) (a0 : Addr) (mm : UInt64) (h0 : Heap) (n0 : Nat) (Z0 : n0 ≤ h0.size) (F_lastMean : Fld Z h0 a0 "com/example/kindred_mesh/kindredmesh/peer/SearchTime" "lastMean" "D" (.double mm)) :
    MetFree l (⟨"com/example/kindred_mesh/kindredmesh/peer/SearchTime", "lastMean", "()D"⟩ : MethodName) (head1 (Jvm.Cond.code (⟨"com/example/kindred_mesh/kindredmesh/peer/SearchTime", "lastMean", "()D"⟩ : MethodName) prog_71_method_5_code 1 (some .double) :: ws) ({ frames := 0, cells := 0, slots := 0, locals := 0 } : Room)) (fun a U => a = #[(.ref a0)] ∧ Z.Warmed39 U.vm ∧ U.heap = h0) (fun _ _ _ _ _ => True) (fun _ U o U' => ∃ v L, o = .returned v ∧ QLm Z a0 mm h0 n0 v U'.heap L ∧ FrameEnd U o U' L ({ frames := 0, cells := 0, slots := 0, locals := 0 } : Room).cells ({ frames := 0, cells := 0, slots := 0, locals := 0 } : Room).slots) := by
  refine MetFree.of_bodySF (plainFor_of_name pnLm) hisR ?_
  intro p e s m args below meth c s₁ Bd hml0 hP hK
  obtain ⟨rfl, hZ, hh⟩ := hP
  have hx := Bd.exec
  have hby := Bd.bytes
  have hlk := BodyLoose.notSynchronized Bd
  have hret := Bd.returns
  have hml : c.maxLocals = 1 := hml0
  have hown : s.vm.findClass "com/example/kindred_mesh/kindredmesh/peer/SearchTime" = some m.cls := findClass_of_methodNamed Bd.named
  have hnm := (name_of_methodNamed Bd.named Bd.method).1
  have X0 : Stand p l e ({ frames := 0, cells := 0, slots := 0, locals := 0 } : Room) s m #[(.ref a0)] below meth c s₁ [] 0 0 := Stand.of_body Bd
  have e0 : s₁.heap = h0 := by rw [← hh, Bd.state]; rfl
  have N0 := Fr.nil n0
  show OFin p e below (KPost s (QLm Z a0 mm h0 n0) ({ frames := 0, cells := 0, slots := 0, locals := 0 } : Room).cells ({ frames := 0, cells := 0, slots := 0, locals := 0 } : Room).slots) _
  rw [efLm m a0]
  refine OFin.of (S' := s₁.setTop (mkF m 1 #[.val (.ref a0)] [(.ref a0)])) (fun t ht => ?_) ?_
  · refine XS.aloadN X0.here hx rfl (hb hby dLm_0) rfl rfl ?_
    exact ht
  obtain ⟨T1, X1, e1, st1⟩ := getF X0 hx hZ hown (host := "") (Or.inl (hw _ (List.mem_of_getElem? (i := 16) rfl))) Via.refl e0 F_lastMean (g := (mkF m 1 #[.val (.ref a0)] [(.ref a0)])) rfl rfl (hb hby dLm_1)
  refine OFin.of (S' := T1.setTop (mkF m 4 #[.val (.ref a0)] [(.double mm)])) (fun t ht => st1 t ht) ?_
  exact OFin.retD X1 hx hlk hret (hb hby dLm_4) (by decide) (by decide) (by rw [e1]; exact ⟨rfl, N0, rfl⟩)
theorem pn0 : plainName "com/example/kindred_mesh/kindredmesh/peer/SearchTimeNewPeriodPinLaw" = true := by first | (simp [plainName, overriddenIn]; done) | decide +kernel
theorem ef0 (m : MethodId) (p0 : Int32) (q1 : Int64) (q2 : Int64) (q3 : Int64) (q4 : Int64) : entryFrame m #[(.int p0), (.long q1), (.long q2), (.long q3), (.long q4)] maxLocals = mkF m 0 #[.val (.int p0), .val (.long q1), .second, .val (.long q2), .second, .val (.long q3), .second, .val (.long q4), .second, .unset, .unset, .unset, .unset, .unset, .unset] [] := by first | (simp [entryFrame, mkF, argsToLocals, Value.category, maxLocals]; done) | rfl
def Q0 (Z : State) (p0 : Int32) (q1 : Int64) (q2 : Int64) (q3 : Int64) (q4 : Int64) (h0 : Heap) (n0 : Nat) (v : Option Value) (h : Heap) (L : List Loc) : Prop := v = some (.int (1 : Int32)) ∧ Fr n0 L
set_option maxRecDepth 65536 in
set_option maxHeartbeats 40000000 in
theorem rm0 (l : Launch) (Z : State) (a0 : Array Value) (hw : ∀ d ∈ tables_1, d.before a0 Z = true) (ws : List Jvm.Cond) (p0 : Int32) (q1 : Int64) (q2 : Int64) (q3 : Int64) (q4 : Int64) (h0 : Heap) (n0 : Nat) (Z0 : n0 ≤ h0.size)  :
    MetFree l x (head1 (Jvm.Cond.code x code maxLocals ret :: ws) room_1) (fun a U => a = #[(.int p0), (.long q1), (.long q2), (.long q3), (.long q4)] ∧ Z.Warmed39 U.vm ∧ U.heap = h0) (fun _ _ _ _ _ => True) (fun _ U o U' => ∃ v L, o = .returned v ∧ Q0 Z p0 q1 q2 q3 q4 h0 n0 v U'.heap L ∧ FrameEnd U o U' L room_1.cells room_1.slots) := by
  refine MetFree.of_bodySF (plainFor_of_name pn0) hisR ?_
  intro p e s m args below meth c s₁ Bd hml0 hP hK
  obtain ⟨rfl, hZ, hh⟩ := hP
  have hx := Bd.exec
  have hby := Bd.bytes
  have hlk := BodyLoose.notSynchronized Bd
  have hret := Bd.returns
  have hml : c.maxLocals = 15 := hml0
  have hown : s.vm.findClass "com/example/kindred_mesh/kindredmesh/peer/SearchTimeNewPeriodPinLaw" = some m.cls := findClass_of_methodNamed Bd.named
  have hnm := (name_of_methodNamed Bd.named Bd.method).1
  have X0 : Stand p l e room_1 s m #[(.int p0), (.long q1), (.long q2), (.long q3), (.long q4)] below meth c s₁ [] 0 0 := Stand.of_body Bd
  have e0 : s₁.heap = h0 := by rw [← hh, Bd.state]; rfl
  have N0 := Fr.nil n0
  show OFin p e below (KPost s (Q0 Z p0 q1 q2 q3 q4 h0 n0) room_1.cells room_1.slots) _
  rw [ef0 m p0 q1 q2 q3 q4]
  refine OFin.of (S' := s₁.setTop (mkF m 3 #[.val (.int p0), .val (.long q1), .second, .val (.long q2), .second, .val (.long q3), .second, .val (.long q4), .second, .unset, .unset, .unset, .unset, .unset, .unset] [(.int (p0 &&& (3 : Int32)))])) (fun t ht => ?_) ?_
  · refine XS.iloadN X0.here hx rfl (hb hby at_0) rfl ?_
    show Steps p.tables e below (s₁.setTop (mkF m 1 _ [(.int p0)])) _
    refine XS.iconst X0.here hx rfl (hb hby at_1) ?_
    show Steps p.tables e below (s₁.setTop (mkF m 2 _ [(.int (3 : Int32)), (.int p0)])) _
    refine XS.iand X0.here hx rfl (hb hby at_2) rfl ?_
    exact ht
  rcases (own_and3 _ : (p0 &&& (3 : Int32)) = (0 : Int32) ∨ (p0 &&& (3 : Int32)) = (1 : Int32) ∨ (p0 &&& (3 : Int32)) = (2 : Int32) ∨ (p0 &&& (3 : Int32)) = (3 : Int32)) with hq1 | hq1 | hq1 | hq1
  · rw [hq1]
    refine OFin.of (S' := s₁.setTop (mkF m 5 #[.val (.int p0), .val (.long q1), .second, .val (.long q2), .second, .val (.long q3), .second, .val (.long q4), .second, .val (.int (0 : Int32)), .unset, .unset, .unset, .unset, .unset] [])) (fun t ht => ?_) ?_
    · refine XS.istore X0.here hx rfl (hb hby at_3) rfl (l' := #[.val (.int p0), .val (.long q1), .second, .val (.long q2), .second, .val (.long q3), .second, .val (.long q4), .second, .val (.int (0 : Int32)), .unset, .unset, .unset, .unset, .unset]) rfl ?_
      exact ht
    obtain ⟨T2, h2, X2, e2, E2, A2, D2, -, st2⟩ := newO X0 hx hZ hown (hw _ (List.mem_of_getElem? (i := 0) rfl)) (hw _ (List.mem_of_getElem? (i := 1) rfl)) (hw _ (List.mem_of_getElem? (i := 2) rfl)) e0 (g := (mkF m 5 #[.val (.int p0), .val (.long q1), .second, .val (.long q2), .second, .val (.long q3), .second, .val (.long q4), .second, .val (.int (0 : Int32)), .unset, .unset, .unset, .unset, .unset] [])) rfl (hb hby at_5) (by decide) (by decide)
    obtain ⟨b2, gq2⟩ : ∃ z, z = h0.size := ⟨_, rfl⟩
    rw [← gq2] at A2 D2 st2
    have g3 : n0 ≤ b2 := (Nat.le_trans Z0 (Nat.le_of_eq gq2.symm))
    have Z4 : n0 ≤ h2.size := (Nat.le_trans Z0 E2.1)
    have f5 : Fld Z h2 b2 "com/example/kindred_mesh/kindredmesh/peer/SearchTime" "served" "J" (.long (0 : Int64)) := D2 (Or.inl (hw _ (List.mem_of_getElem? (i := 15) rfl))) (ty := .long) (by decide)
    have f6 : Fld Z h2 b2 "com/example/kindred_mesh/kindredmesh/peer/SearchTime" "lastMean" "D" (.double 0) := D2 (Or.inl (hw _ (List.mem_of_getElem? (i := 17) rfl))) (ty := .double) (by decide)
    have f7 : Fld Z h2 b2 "com/example/kindred_mesh/kindredmesh/peer/SearchTime" "total" "J" (.long (0 : Int64)) := D2 (Or.inl (hw _ (List.mem_of_getElem? (i := 19) rfl))) (ty := .long) (by decide)
    refine OFin.of (S' := T2.setTop (mkF m 8 #[.val (.int p0), .val (.long q1), .second, .val (.long q2), .second, .val (.long q3), .second, .val (.long q4), .second, .val (.int (0 : Int32)), .unset, .unset, .unset, .unset, .unset] [(.ref b2)])) (fun t ht => st2 t ht) ?_
    refine OFin.of (S' := T2.setTop (mkF m 9 #[.val (.int p0), .val (.long q1), .second, .val (.long q2), .second, .val (.long q3), .second, .val (.long q4), .second, .val (.int (0 : Int32)), .unset, .unset, .unset, .unset, .unset] [(.ref b2), (.ref b2)])) (fun t ht => ?_) ?_
    · refine XS.dup X2.here hx rfl (hb hby at_8) rfl rfl ?_
      exact ht
    obtain ⟨_, _, ⟨T8, L8, k8, n8⟩, -, X8, ⟨Lc8, hQ8, l8, y8, z8⟩, st8⟩ := X2.specialBack hx (y := (⟨"com/example/kindred_mesh/kindredmesh/peer/SearchTime", "<init>", "()V"⟩ : MethodName)) rfl hown (mvT hZ (hw _ (List.mem_of_getElem? (i := 3) rfl))) (mvT hZ (hw _ (List.mem_of_getElem? (i := 4) rfl))) (mvT hZ (hw _ (List.mem_of_getElem? (i := 5) rfl))) (by decide) (backOf (W := 1) (rmIni l Z _ hw [] b2 h2 n0 Z4 ) hZ (hw _ (List.mem_of_getElem? (i := 5) rfl)) (hw _ (List.mem_of_getElem? (i := 2) rfl)) (by decide) (by decide)) (g := (mkF m 9 #[.val (.int p0), .val (.long q1), .second, .val (.long q2), .second, .val (.long q3), .second, .val (.long q4), .second, .val (.int (0 : Int32)), .unset, .unset, .unset, .unset, .unset] [(.ref b2), (.ref b2)])) rfl (by rw [hml]; rfl) (Steps.refl _) (a := b2) (argsL := []) (rest := [(.ref b2)]) (lenOf pd_0 rfl) rfl (by show 2 * 0 + _ ≤ _; exact Nat.le_of_eq rfl) (hb hby at_9) (fun _ _ => ⟨rfl, e2, (by decide : 1 + 0 ≤ _), (by decide : 3 + 0 ≤ _)⟩)
    dsimp only [Pt.U, Pt.locs, Pt.cells, Pt.slots] at X8 l8 y8 z8 st8 hQ8
    subst l8 y8 z8
    obtain ⟨rfl, Nq8, hs8⟩ := hQ8
    have N9 := Fr.app N0 Nq8
    refine OFin.to (S' := T8.setTop (mkF m 12 #[.val (.int p0), .val (.long q1), .second, .val (.long q2), .second, .val (.long q3), .second, .val (.long q4), .second, .val (.int (0 : Int32)), .unset, .unset, .unset, .unset, .unset] [(.ref b2)])) st8 ?_
    refine OFin.of (S' := T8.setTop (mkF m 53 #[.val (.int p0), .val (.long q1), .second, .val (.long q2), .second, .val (.long q3), .second, .val (.long q4), .second, .val (.int (0 : Int32)), .val (.ref b2), .unset, .unset, .unset, .unset] [(.ref b2)])) (fun t ht => ?_) ?_
    · refine XS.astore X8.here hx rfl (hb hby at_12) rfl rfl (l' := #[.val (.int p0), .val (.long q1), .second, .val (.long q2), .second, .val (.long q3), .second, .val (.long q4), .second, .val (.int (0 : Int32)), .val (.ref b2), .unset, .unset, .unset, .unset]) rfl ?_
      show Steps p.tables e below (T8.setTop (mkF m 14 #[.val (.int p0), .val (.long q1), .second, .val (.long q2), .second, .val (.long q3), .second, .val (.long q4), .second, .val (.int (0 : Int32)), .val (.ref b2), .unset, .unset, .unset, .unset] [])) _
      refine XS.iload X8.here hx rfl (hb hby at_14) rfl ?_
      show Steps p.tables e below (T8.setTop (mkF m 16 _ [(.int (0 : Int32))])) _
      refine XS.iconst X8.here hx rfl (hb hby at_16) ?_
      show Steps p.tables e below (T8.setTop (mkF m 17 _ [(.int (1 : Int32)), (.int (0 : Int32))])) _
      refine XS.icmpYes X8.here hx rfl (pc0 := 17) (pc' := 26) rfl (hb hby at_17) rfl (tlt (by decide : (0 : Int32) < (1 : Int32))).1 (by decide) (by decide) ?_
      show Steps p.tables e below (T8.setTop (mkF m 26 _ [])) _
      refine XS.iload X8.here hx rfl (hb hby at_26) rfl ?_
      show Steps p.tables e below (T8.setTop (mkF m 28 _ [(.int (0 : Int32))])) _
      refine XS.iconst X8.here hx rfl (hb hby at_28) ?_
      show Steps p.tables e below (T8.setTop (mkF m 29 _ [(.int (2 : Int32)), (.int (0 : Int32))])) _
      refine XS.icmpYes X8.here hx rfl (pc0 := 29) (pc' := 38) rfl (hb hby at_29) rfl (tlt (by decide : (0 : Int32) < (2 : Int32))).1 (by decide) (by decide) ?_
      show Steps p.tables e below (T8.setTop (mkF m 38 _ [])) _
      refine XS.iload X8.here hx rfl (hb hby at_38) rfl ?_
      show Steps p.tables e below (T8.setTop (mkF m 40 _ [(.int (0 : Int32))])) _
      refine XS.iconst X8.here hx rfl (hb hby at_40) ?_
      show Steps p.tables e below (T8.setTop (mkF m 41 _ [(.int (3 : Int32)), (.int (0 : Int32))])) _
      refine XS.icmpYes X8.here hx rfl (pc0 := 41) (pc' := 51) rfl (hb hby at_41) rfl (tlt (by decide : (0 : Int32) < (3 : Int32))).1 (by decide) (by decide) ?_
      show Steps p.tables e below (T8.setTop (mkF m 51 _ [])) _
      refine XS.aload X8.here hx rfl (hb hby at_51) rfl rfl ?_
      exact ht
    obtain ⟨cq11, kq11, q11a, q11b, q11c⟩ := isOf hZ hs8 A2
    obtain ⟨_, _, ⟨T10, L10, k10, n10⟩, -, X10, ⟨Lc10, hQ10, l10, y10, z10⟩, st10⟩ := X8.virtualBack hx (y := (⟨"com/example/kindred_mesh/kindredmesh/peer/SearchTime", "newPeriod", "()V"⟩ : MethodName)) (z := (⟨"com/example/kindred_mesh/kindredmesh/peer/SearchTime", "newPeriod", "()V"⟩ : MethodName)) hown (mvT hZ (hw _ (List.mem_of_getElem? (i := 9) rfl))) (mvT hZ (hw _ (List.mem_of_getElem? (i := 10) rfl))) (notFace_of_selects (args := #[]) (mvT hZ (hw _ (List.mem_of_getElem? (i := 12) rfl)))) (mvT hZ (hw _ (List.mem_of_getElem? (i := 12) rfl))) (mvT hZ (hw _ (List.mem_of_getElem? (i := 11) rfl))) (by decide) (backOf (W := 0) (rmNp0 l Z _ hw [] b2 (0 : Int64) (0 : Int64) 0 h2 n0 Z4 A2 f5 f7 f6 g3 (by decide)) hZ (hw _ (List.mem_of_getElem? (i := 13) rfl)) (hw _ (List.mem_of_getElem? (i := 2) rfl)) (by decide) (by decide)) q11a q11c (g := (mkF m 53 #[.val (.int p0), .val (.long q1), .second, .val (.long q2), .second, .val (.long q3), .second, .val (.long q4), .second, .val (.int (0 : Int32)), .val (.ref b2), .unset, .unset, .unset, .unset] [(.ref b2)])) rfl (by rw [hml]; rfl) (Steps.refl _) (argsL := []) (rest := []) (lenOf pd_0 rfl) rfl (by show 2 * 0 + _ ≤ _; exact Nat.le_of_eq rfl) (hb hby at_53) (fun _ _ => ⟨rfl, hs8, (by decide : 1 + 0 ≤ _), (by decide : 3 + 0 ≤ _)⟩)
    dsimp only [Pt.U, Pt.locs, Pt.cells, Pt.slots] at X10 l10 y10 z10 st10 hQ10
    subst l10 y10 z10
    obtain ⟨rfl, Nq10, Kq10, f12, f13, f14⟩ := hQ10
    have N15 := Fr.app N9 Nq10
    have f16 := (A2.keep Kq10)
    have Z17 : n0 ≤ T10.heap.size := (Nat.le_trans Z4 Kq10.1)
    refine OFin.to (S' := T10.setTop (mkF m 56 #[.val (.int p0), .val (.long q1), .second, .val (.long q2), .second, .val (.long q3), .second, .val (.long q4), .second, .val (.int (0 : Int32)), .val (.ref b2), .unset, .unset, .unset, .unset] [])) st10 ?_
    refine OFin.of (S' := T10.setTop (mkF m 114 #[.val (.int p0), .val (.long q1), .second, .val (.long q2), .second, .val (.long q3), .second, .val (.long q4), .second, .val (.int (0 : Int32)), .val (.ref b2), .val (.double FP.dconst0), .second, .unset, .unset] [(.ref b2)])) (fun t ht => ?_) ?_
    · refine XS.iload X10.here hx rfl (hb hby at_56) rfl ?_
      show Steps p.tables e below (T10.setTop (mkF m 58 _ [(.int (0 : Int32))])) _
      refine XS.ifNo X10.here hx rfl (hb hby at_58) rfl ((if0 _ _).trans (teq (by decide : (0 : Int32) = (0 : Int32))).2) ?_
      show Steps p.tables e below (T10.setTop (mkF m 61 _ [])) _
      refine XS.dconst0 X10.here hx rfl (hb hby at_61) rfl ?_
      show Steps p.tables e below (T10.setTop (mkF m 62 _ [(.double FP.dconst0)])) _
      refine XS.dstore X10.here hx rfl (hb hby at_62) rfl (l' := #[.val (.int p0), .val (.long q1), .second, .val (.long q2), .second, .val (.long q3), .second, .val (.long q4), .second, .val (.int (0 : Int32)), .val (.ref b2), .val (.double FP.dconst0), .second, .unset, .unset]) rfl ?_
      show Steps p.tables e below (T10.setTop (mkF m 64 #[.val (.int p0), .val (.long q1), .second, .val (.long q2), .second, .val (.long q3), .second, .val (.long q4), .second, .val (.int (0 : Int32)), .val (.ref b2), .val (.double FP.dconst0), .second, .unset, .unset] [])) _
      refine XS.goto X10.here hx rfl (pc0 := 64) (pc' := 112) rfl (hb hby at_64) (by decide) (by decide) ?_
      show Steps p.tables e below (T10.setTop (mkF m 112 _ [])) _
      refine XS.aload X10.here hx rfl (hb hby at_112) rfl rfl ?_
      exact ht
    obtain ⟨cq19, kq19, q19a, q19b, q19c⟩ := isOf hZ (rfl : T10.heap = T10.heap) f16
    obtain ⟨_, _, ⟨T18, L18, k18, n18⟩, -, X18, ⟨Lc18, hQ18, l18, y18, z18⟩, st18⟩ := X10.virtualBack hx (y := (⟨"com/example/kindred_mesh/kindredmesh/peer/SearchTime", "lastMean", "()D"⟩ : MethodName)) (z := (⟨"com/example/kindred_mesh/kindredmesh/peer/SearchTime", "lastMean", "()D"⟩ : MethodName)) hown (mvT hZ (hw _ (List.mem_of_getElem? (i := 20) rfl))) (mvT hZ (hw _ (List.mem_of_getElem? (i := 21) rfl))) (notFace_of_selects (args := #[]) (mvT hZ (hw _ (List.mem_of_getElem? (i := 23) rfl)))) (mvT hZ (hw _ (List.mem_of_getElem? (i := 23) rfl))) (mvT hZ (hw _ (List.mem_of_getElem? (i := 22) rfl))) (by decide) (backOf (W := 0) (rmLm l Z _ hw [] b2 FP.dconst0 T10.heap n0 Z17 f14) hZ (hw _ (List.mem_of_getElem? (i := 24) rfl)) (hw _ (List.mem_of_getElem? (i := 2) rfl)) (by decide) (by decide)) q19a q19c (g := (mkF m 114 #[.val (.int p0), .val (.long q1), .second, .val (.long q2), .second, .val (.long q3), .second, .val (.long q4), .second, .val (.int (0 : Int32)), .val (.ref b2), .val (.double FP.dconst0), .second, .unset, .unset] [(.ref b2)])) rfl (by rw [hml]; rfl) (Steps.refl _) (argsL := []) (rest := []) (lenOf pd_1 rfl) rfl (by show 2 * 0 + _ ≤ _; exact Nat.le_of_eq rfl) (hb hby at_114) (fun _ _ => ⟨rfl, (rfl : T10.heap = T10.heap), (by decide : 1 + 0 ≤ _), (by decide : 3 + 0 ≤ _)⟩)
    dsimp only [Pt.U, Pt.locs, Pt.cells, Pt.slots] at X18 l18 y18 z18 st18 hQ18
    subst l18 y18 z18
    obtain ⟨rfl, Nq18, hs18⟩ := hQ18
    have N20 := Fr.app N15 Nq18
    refine OFin.to (S' := T18.setTop (mkF m 117 #[.val (.int p0), .val (.long q1), .second, .val (.long q2), .second, .val (.long q3), .second, .val (.long q4), .second, .val (.int (0 : Int32)), .val (.ref b2), .val (.double FP.dconst0), .second, .unset, .unset] [(.double FP.dconst0)])) st18 ?_
    refine OFin.of (S' := T18.setTop (mkF m 134 #[.val (.int p0), .val (.long q1), .second, .val (.long q2), .second, .val (.long q3), .second, .val (.long q4), .second, .val (.int (0 : Int32)), .val (.ref b2), .val (.double FP.dconst0), .second, .val (.int (1 : Int32)), .unset] [(.long q4), (.ref b2)])) (fun t ht => ?_) ?_
    · refine XS.dload X18.here hx rfl (hb hby at_117) rfl ?_
      show Steps p.tables e below (T18.setTop (mkF m 119 _ [(.double FP.dconst0), (.double FP.dconst0)])) _
      refine XS.dcmpS X18.here hx rfl (hb hby at_119) rfl rfl ?_
      show Steps p.tables e below (T18.setTop (mkF m 120 _ [(.int (cmpValue (FP.dcmp FP.dconst0 FP.dconst0) .l))])) _
      refine XS.ifNo X18.here hx rfl (hb hby at_120) rfl ((if0 _ _).trans (teq (dcmpV_self own_nn0 .l : (cmpValue (FP.dcmp FP.dconst0 FP.dconst0) .l) = (0 : Int32))).2) ?_
      show Steps p.tables e below (T18.setTop (mkF m 123 _ [])) _
      refine XS.iconst X18.here hx rfl (hb hby at_123) ?_
      show Steps p.tables e below (T18.setTop (mkF m 124 _ [(.int (1 : Int32))])) _
      refine XS.goto X18.here hx rfl (pc0 := 124) (pc' := 128) rfl (hb hby at_124) (by decide) (by decide) ?_
      show Steps p.tables e below (T18.setTop (mkF m 128 _ [(.int (1 : Int32))])) _
      refine XS.istore X18.here hx rfl (hb hby at_128) rfl (l' := #[.val (.int p0), .val (.long q1), .second, .val (.long q2), .second, .val (.long q3), .second, .val (.long q4), .second, .val (.int (0 : Int32)), .val (.ref b2), .val (.double FP.dconst0), .second, .val (.int (1 : Int32)), .unset]) rfl ?_
      show Steps p.tables e below (T18.setTop (mkF m 130 #[.val (.int p0), .val (.long q1), .second, .val (.long q2), .second, .val (.long q3), .second, .val (.long q4), .second, .val (.int (0 : Int32)), .val (.ref b2), .val (.double FP.dconst0), .second, .val (.int (1 : Int32)), .unset] [])) _
      refine XS.aload X18.here hx rfl (hb hby at_130) rfl rfl ?_
      show Steps p.tables e below (T18.setTop (mkF m 132 _ [(.ref b2)])) _
      refine XS.lload X18.here hx rfl (hb hby at_132) rfl ?_
      exact ht
    obtain ⟨cq22, kq22, q22a, q22b, q22c⟩ := isOf hZ hs18 f16
    obtain ⟨_, _, ⟨T21, L21, k21, n21⟩, -, X21, ⟨Lc21, hQ21, l21, y21, z21⟩, st21⟩ := X18.virtualBack hx (y := (⟨"com/example/kindred_mesh/kindredmesh/peer/SearchTime", "served", "(J)V"⟩ : MethodName)) (z := (⟨"com/example/kindred_mesh/kindredmesh/peer/SearchTime", "served", "(J)V"⟩ : MethodName)) hown (mvT hZ (hw _ (List.mem_of_getElem? (i := 25) rfl))) (mvT hZ (hw _ (List.mem_of_getElem? (i := 26) rfl))) (notFace_of_selects (args := #[]) (mvT hZ (hw _ (List.mem_of_getElem? (i := 28) rfl)))) (mvT hZ (hw _ (List.mem_of_getElem? (i := 28) rfl))) (mvT hZ (hw _ (List.mem_of_getElem? (i := 27) rfl))) (by decide) (backOf (W := 0) (rmSv l Z _ hw [] b2 q4 (0 : Int64) (0 : Int64) FP.dconst0 T10.heap n0 Z17 f16 f12 f13 f14 g3) hZ (hw _ (List.mem_of_getElem? (i := 29) rfl)) (hw _ (List.mem_of_getElem? (i := 2) rfl)) (by decide) (by decide)) q22a q22c (g := (mkF m 134 #[.val (.int p0), .val (.long q1), .second, .val (.long q2), .second, .val (.long q3), .second, .val (.long q4), .second, .val (.int (0 : Int32)), .val (.ref b2), .val (.double FP.dconst0), .second, .val (.int (1 : Int32)), .unset] [(.long q4), (.ref b2)])) rfl (by rw [hml]; rfl) (Steps.refl _) (argsL := [(.long q4)]) (rest := []) (lenOf pd_2 rfl) rfl (by show 2 * 0 + _ ≤ _; exact Nat.le_of_eq rfl) (hb hby at_134) (fun _ _ => ⟨rfl, hs18, (by decide : 1 + 0 ≤ _), (by decide : 3 + 0 ≤ _)⟩)
    dsimp only [Pt.U, Pt.locs, Pt.cells, Pt.slots] at X21 l21 y21 z21 st21 hQ21
    subst l21 y21 z21
    obtain ⟨rfl, Nq21, Kq21, f23, f24, f25⟩ := hQ21
    have N26 := Fr.app N20 Nq21
    have f27 := (f16.keep Kq21)
    have Z28 : n0 ≤ T21.heap.size := (Nat.le_trans Z17 Kq21.1)
    refine OFin.to (S' := T21.setTop (mkF m 137 #[.val (.int p0), .val (.long q1), .second, .val (.long q2), .second, .val (.long q3), .second, .val (.long q4), .second, .val (.int (0 : Int32)), .val (.ref b2), .val (.double FP.dconst0), .second, .val (.int (1 : Int32)), .unset] [])) st21 ?_
    refine OFin.of (S' := T21.setTop (mkF m 139 #[.val (.int p0), .val (.long q1), .second, .val (.long q2), .second, .val (.long q3), .second, .val (.long q4), .second, .val (.int (0 : Int32)), .val (.ref b2), .val (.double FP.dconst0), .second, .val (.int (1 : Int32)), .unset] [(.ref b2)])) (fun t ht => ?_) ?_
    · refine XS.aload X21.here hx rfl (hb hby at_137) rfl rfl ?_
      exact ht
    obtain ⟨cq30, kq30, q30a, q30b, q30c⟩ := isOf hZ (rfl : T21.heap = T21.heap) f27
    obtain ⟨_, _, ⟨T29, L29, k29, n29⟩, -, X29, ⟨Lc29, hQ29, l29, y29, z29⟩, st29⟩ := X21.virtualBack hx (y := (⟨"com/example/kindred_mesh/kindredmesh/peer/SearchTime", "newPeriod", "()V"⟩ : MethodName)) (z := (⟨"com/example/kindred_mesh/kindredmesh/peer/SearchTime", "newPeriod", "()V"⟩ : MethodName)) hown (mvT hZ (hw _ (List.mem_of_getElem? (i := 9) rfl))) (mvT hZ (hw _ (List.mem_of_getElem? (i := 10) rfl))) (notFace_of_selects (args := #[]) (mvT hZ (hw _ (List.mem_of_getElem? (i := 12) rfl)))) (mvT hZ (hw _ (List.mem_of_getElem? (i := 12) rfl))) (mvT hZ (hw _ (List.mem_of_getElem? (i := 11) rfl))) (by decide) (backOf (W := 0) (rmNp1 l Z _ hw [] b2 (1 : Int64) ((0 : Int64) + q4) FP.dconst0 T21.heap n0 Z28 f27 f23 f24 f25 g3 (by decide) (own_nn _ (by decide))) hZ (hw _ (List.mem_of_getElem? (i := 13) rfl)) (hw _ (List.mem_of_getElem? (i := 2) rfl)) (by decide) (by decide)) q30a q30c (g := (mkF m 139 #[.val (.int p0), .val (.long q1), .second, .val (.long q2), .second, .val (.long q3), .second, .val (.long q4), .second, .val (.int (0 : Int32)), .val (.ref b2), .val (.double FP.dconst0), .second, .val (.int (1 : Int32)), .unset] [(.ref b2)])) rfl (by rw [hml]; rfl) (Steps.refl _) (argsL := []) (rest := []) (lenOf pd_0 rfl) rfl (by show 2 * 0 + _ ≤ _; exact Nat.le_of_eq rfl) (hb hby at_139) (fun _ _ => ⟨rfl, (rfl : T21.heap = T21.heap), (by decide : 1 + 0 ≤ _), (by decide : 3 + 0 ≤ _)⟩)
    dsimp only [Pt.U, Pt.locs, Pt.cells, Pt.slots] at X29 l29 y29 z29 st29 hQ29
    subst l29 y29 z29
    obtain ⟨rfl, Nq29, Kq29, f31, f32, f33⟩ := hQ29
    have N34 := Fr.app N26 Nq29
    have f35 := (f27.keep Kq29)
    have Z36 : n0 ≤ T29.heap.size := (Nat.le_trans Z28 Kq29.1)
    refine OFin.to (S' := T29.setTop (mkF m 142 #[.val (.int p0), .val (.long q1), .second, .val (.long q2), .second, .val (.long q3), .second, .val (.long q4), .second, .val (.int (0 : Int32)), .val (.ref b2), .val (.double FP.dconst0), .second, .val (.int (1 : Int32)), .unset] [])) st29 ?_
    refine OFin.of (S' := T29.setTop (mkF m 144 #[.val (.int p0), .val (.long q1), .second, .val (.long q2), .second, .val (.long q3), .second, .val (.long q4), .second, .val (.int (0 : Int32)), .val (.ref b2), .val (.double FP.dconst0), .second, .val (.int (1 : Int32)), .unset] [(.ref b2)])) (fun t ht => ?_) ?_
    · refine XS.aload X29.here hx rfl (hb hby at_142) rfl rfl ?_
      exact ht
    obtain ⟨cq38, kq38, q38a, q38b, q38c⟩ := isOf hZ (rfl : T29.heap = T29.heap) f35
    obtain ⟨_, _, ⟨T37, L37, k37, n37⟩, -, X37, ⟨Lc37, hQ37, l37, y37, z37⟩, st37⟩ := X29.virtualBack hx (y := (⟨"com/example/kindred_mesh/kindredmesh/peer/SearchTime", "lastMean", "()D"⟩ : MethodName)) (z := (⟨"com/example/kindred_mesh/kindredmesh/peer/SearchTime", "lastMean", "()D"⟩ : MethodName)) hown (mvT hZ (hw _ (List.mem_of_getElem? (i := 20) rfl))) (mvT hZ (hw _ (List.mem_of_getElem? (i := 21) rfl))) (notFace_of_selects (args := #[]) (mvT hZ (hw _ (List.mem_of_getElem? (i := 23) rfl)))) (mvT hZ (hw _ (List.mem_of_getElem? (i := 23) rfl))) (mvT hZ (hw _ (List.mem_of_getElem? (i := 22) rfl))) (by decide) (backOf (W := 0) (rmLm l Z _ hw [] b2 (FP.ddiv (FP.l2d ((0 : Int64) + q4)) (FP.l2d (1 : Int64))) T29.heap n0 Z36 f33) hZ (hw _ (List.mem_of_getElem? (i := 24) rfl)) (hw _ (List.mem_of_getElem? (i := 2) rfl)) (by decide) (by decide)) q38a q38c (g := (mkF m 144 #[.val (.int p0), .val (.long q1), .second, .val (.long q2), .second, .val (.long q3), .second, .val (.long q4), .second, .val (.int (0 : Int32)), .val (.ref b2), .val (.double FP.dconst0), .second, .val (.int (1 : Int32)), .unset] [(.ref b2)])) rfl (by rw [hml]; rfl) (Steps.refl _) (argsL := []) (rest := []) (lenOf pd_1 rfl) rfl (by show 2 * 0 + _ ≤ _; exact Nat.le_of_eq rfl) (hb hby at_144) (fun _ _ => ⟨rfl, (rfl : T29.heap = T29.heap), (by decide : 1 + 0 ≤ _), (by decide : 3 + 0 ≤ _)⟩)
    dsimp only [Pt.U, Pt.locs, Pt.cells, Pt.slots] at X37 l37 y37 z37 st37 hQ37
    subst l37 y37 z37
    obtain ⟨rfl, Nq37, hs37⟩ := hQ37
    have N39 := Fr.app N34 Nq37
    refine OFin.to (S' := T37.setTop (mkF m 147 #[.val (.int p0), .val (.long q1), .second, .val (.long q2), .second, .val (.long q3), .second, .val (.long q4), .second, .val (.int (0 : Int32)), .val (.ref b2), .val (.double FP.dconst0), .second, .val (.int (1 : Int32)), .unset] [(.double (FP.ddiv (FP.l2d ((0 : Int64) + q4)) (FP.l2d (1 : Int64))))])) st37 ?_
    refine OFin.of (S' := T37.setTop (mkF m 176 #[.val (.int p0), .val (.long q1), .second, .val (.long q2), .second, .val (.long q3), .second, .val (.long q4), .second, .val (.int (0 : Int32)), .val (.ref b2), .val (.double FP.dconst0), .second, .val (.int (1 : Int32)), .val (.int (1 : Int32))] [(.int (1 : Int32))])) (fun t ht => ?_) ?_
    · refine XS.lload X37.here hx rfl (hb hby at_147) rfl ?_
      show Steps p.tables e below (T37.setTop (mkF m 149 _ [(.long q4), (.double (FP.ddiv (FP.l2d ((0 : Int64) + q4)) (FP.l2d (1 : Int64))))])) _
      refine XS.l2dS X37.here hx rfl (hb hby at_149) rfl rfl ?_
      show Steps p.tables e below (T37.setTop (mkF m 150 _ [(.double (FP.l2d q4)), (.double (FP.ddiv (FP.l2d ((0 : Int64) + q4)) (FP.l2d (1 : Int64))))])) _
      refine XS.dcmpS X37.here hx rfl (hb hby at_150) rfl rfl ?_
      show Steps p.tables e below (T37.setTop (mkF m 151 _ [(.int (cmpValue (FP.dcmp (FP.ddiv (FP.l2d ((0 : Int64) + q4)) (FP.l2d (1 : Int64))) (FP.l2d q4)) .l))])) _
      refine XS.ifNo X37.here hx rfl (hb hby at_151) rfl ((if0 _ _).trans (teq (dcmpV_eq (own_div1 _) (own_nn _ (by decide)) .l : (cmpValue (FP.dcmp (FP.ddiv (FP.l2d ((0 : Int64) + q4)) (FP.l2d (1 : Int64))) (FP.l2d q4)) .l) = (0 : Int32))).2) ?_
      show Steps p.tables e below (T37.setTop (mkF m 154 _ [])) _
      refine XS.iconst X37.here hx rfl (hb hby at_154) ?_
      show Steps p.tables e below (T37.setTop (mkF m 155 _ [(.int (1 : Int32))])) _
      refine XS.goto X37.here hx rfl (pc0 := 155) (pc' := 159) rfl (hb hby at_155) (by decide) (by decide) ?_
      show Steps p.tables e below (T37.setTop (mkF m 159 _ [(.int (1 : Int32))])) _
      refine XS.istore X37.here hx rfl (hb hby at_159) rfl (l' := #[.val (.int p0), .val (.long q1), .second, .val (.long q2), .second, .val (.long q3), .second, .val (.long q4), .second, .val (.int (0 : Int32)), .val (.ref b2), .val (.double FP.dconst0), .second, .val (.int (1 : Int32)), .val (.int (1 : Int32))]) rfl ?_
      show Steps p.tables e below (T37.setTop (mkF m 161 #[.val (.int p0), .val (.long q1), .second, .val (.long q2), .second, .val (.long q3), .second, .val (.long q4), .second, .val (.int (0 : Int32)), .val (.ref b2), .val (.double FP.dconst0), .second, .val (.int (1 : Int32)), .val (.int (1 : Int32))] [])) _
      refine XS.iload X37.here hx rfl (hb hby at_161) rfl ?_
      show Steps p.tables e below (T37.setTop (mkF m 163 _ [(.int (1 : Int32))])) _
      refine XS.ifNo X37.here hx rfl (hb hby at_163) rfl ((if0 _ _).trans (feq (by decide : ¬ ((1 : Int32) = (0 : Int32)))).1) ?_
      show Steps p.tables e below (T37.setTop (mkF m 166 _ [])) _
      refine XS.iload X37.here hx rfl (hb hby at_166) rfl ?_
      show Steps p.tables e below (T37.setTop (mkF m 168 _ [(.int (1 : Int32))])) _
      refine XS.ifNo X37.here hx rfl (hb hby at_168) rfl ((if0 _ _).trans (feq (by decide : ¬ ((1 : Int32) = (0 : Int32)))).1) ?_
      show Steps p.tables e below (T37.setTop (mkF m 171 _ [])) _
      refine XS.iconst X37.here hx rfl (hb hby at_171) ?_
      show Steps p.tables e below (T37.setTop (mkF m 172 _ [(.int (1 : Int32))])) _
      refine XS.goto X37.here hx rfl (pc0 := 172) (pc' := 176) rfl (hb hby at_172) (by decide) (by decide) ?_
      exact ht
    exact OFin.retB X37 hx hlk (t := .boolean) (by simp) hret (hb hby at_176) (by decide) (by decide) (by rw [hs37]; exact ⟨rfl, N39⟩)
  · rw [hq1]
    refine OFin.of (S' := s₁.setTop (mkF m 5 #[.val (.int p0), .val (.long q1), .second, .val (.long q2), .second, .val (.long q3), .second, .val (.long q4), .second, .val (.int (1 : Int32)), .unset, .unset, .unset, .unset, .unset] [])) (fun t ht => ?_) ?_
    · refine XS.istore X0.here hx rfl (hb hby at_3) rfl (l' := #[.val (.int p0), .val (.long q1), .second, .val (.long q2), .second, .val (.long q3), .second, .val (.long q4), .second, .val (.int (1 : Int32)), .unset, .unset, .unset, .unset, .unset]) rfl ?_
      exact ht
    obtain ⟨T40, h40, X40, e40, E40, A40, D40, -, st40⟩ := newO X0 hx hZ hown (hw _ (List.mem_of_getElem? (i := 0) rfl)) (hw _ (List.mem_of_getElem? (i := 1) rfl)) (hw _ (List.mem_of_getElem? (i := 2) rfl)) e0 (g := (mkF m 5 #[.val (.int p0), .val (.long q1), .second, .val (.long q2), .second, .val (.long q3), .second, .val (.long q4), .second, .val (.int (1 : Int32)), .unset, .unset, .unset, .unset, .unset] [])) rfl (hb hby at_5) (by decide) (by decide)
    obtain ⟨b40, gq40⟩ : ∃ z, z = h0.size := ⟨_, rfl⟩
    rw [← gq40] at A40 D40 st40
    have g41 : n0 ≤ b40 := (Nat.le_trans Z0 (Nat.le_of_eq gq40.symm))
    have Z42 : n0 ≤ h40.size := (Nat.le_trans Z0 E40.1)
    have f43 : Fld Z h40 b40 "com/example/kindred_mesh/kindredmesh/peer/SearchTime" "served" "J" (.long (0 : Int64)) := D40 (Or.inl (hw _ (List.mem_of_getElem? (i := 15) rfl))) (ty := .long) (by decide)
    have f44 : Fld Z h40 b40 "com/example/kindred_mesh/kindredmesh/peer/SearchTime" "lastMean" "D" (.double 0) := D40 (Or.inl (hw _ (List.mem_of_getElem? (i := 17) rfl))) (ty := .double) (by decide)
    have f45 : Fld Z h40 b40 "com/example/kindred_mesh/kindredmesh/peer/SearchTime" "total" "J" (.long (0 : Int64)) := D40 (Or.inl (hw _ (List.mem_of_getElem? (i := 19) rfl))) (ty := .long) (by decide)
    refine OFin.of (S' := T40.setTop (mkF m 8 #[.val (.int p0), .val (.long q1), .second, .val (.long q2), .second, .val (.long q3), .second, .val (.long q4), .second, .val (.int (1 : Int32)), .unset, .unset, .unset, .unset, .unset] [(.ref b40)])) (fun t ht => st40 t ht) ?_
    refine OFin.of (S' := T40.setTop (mkF m 9 #[.val (.int p0), .val (.long q1), .second, .val (.long q2), .second, .val (.long q3), .second, .val (.long q4), .second, .val (.int (1 : Int32)), .unset, .unset, .unset, .unset, .unset] [(.ref b40), (.ref b40)])) (fun t ht => ?_) ?_
    · refine XS.dup X40.here hx rfl (hb hby at_8) rfl rfl ?_
      exact ht
    obtain ⟨_, _, ⟨T46, L46, k46, n46⟩, -, X46, ⟨Lc46, hQ46, l46, y46, z46⟩, st46⟩ := X40.specialBack hx (y := (⟨"com/example/kindred_mesh/kindredmesh/peer/SearchTime", "<init>", "()V"⟩ : MethodName)) rfl hown (mvT hZ (hw _ (List.mem_of_getElem? (i := 3) rfl))) (mvT hZ (hw _ (List.mem_of_getElem? (i := 4) rfl))) (mvT hZ (hw _ (List.mem_of_getElem? (i := 5) rfl))) (by decide) (backOf (W := 1) (rmIni l Z _ hw [] b40 h40 n0 Z42 ) hZ (hw _ (List.mem_of_getElem? (i := 5) rfl)) (hw _ (List.mem_of_getElem? (i := 2) rfl)) (by decide) (by decide)) (g := (mkF m 9 #[.val (.int p0), .val (.long q1), .second, .val (.long q2), .second, .val (.long q3), .second, .val (.long q4), .second, .val (.int (1 : Int32)), .unset, .unset, .unset, .unset, .unset] [(.ref b40), (.ref b40)])) rfl (by rw [hml]; rfl) (Steps.refl _) (a := b40) (argsL := []) (rest := [(.ref b40)]) (lenOf pd_0 rfl) rfl (by show 2 * 0 + _ ≤ _; exact Nat.le_of_eq rfl) (hb hby at_9) (fun _ _ => ⟨rfl, e40, (by decide : 1 + 0 ≤ _), (by decide : 3 + 0 ≤ _)⟩)
    dsimp only [Pt.U, Pt.locs, Pt.cells, Pt.slots] at X46 l46 y46 z46 st46 hQ46
    subst l46 y46 z46
    obtain ⟨rfl, Nq46, hs46⟩ := hQ46
    have N47 := Fr.app N0 Nq46
    refine OFin.to (S' := T46.setTop (mkF m 12 #[.val (.int p0), .val (.long q1), .second, .val (.long q2), .second, .val (.long q3), .second, .val (.long q4), .second, .val (.int (1 : Int32)), .unset, .unset, .unset, .unset, .unset] [(.ref b40)])) st46 ?_
    refine OFin.of (S' := T46.setTop (mkF m 23 #[.val (.int p0), .val (.long q1), .second, .val (.long q2), .second, .val (.long q3), .second, .val (.long q4), .second, .val (.int (1 : Int32)), .val (.ref b40), .unset, .unset, .unset, .unset] [(.long q1), (.ref b40)])) (fun t ht => ?_) ?_
    · refine XS.astore X46.here hx rfl (hb hby at_12) rfl rfl (l' := #[.val (.int p0), .val (.long q1), .second, .val (.long q2), .second, .val (.long q3), .second, .val (.long q4), .second, .val (.int (1 : Int32)), .val (.ref b40), .unset, .unset, .unset, .unset]) rfl ?_
      show Steps p.tables e below (T46.setTop (mkF m 14 #[.val (.int p0), .val (.long q1), .second, .val (.long q2), .second, .val (.long q3), .second, .val (.long q4), .second, .val (.int (1 : Int32)), .val (.ref b40), .unset, .unset, .unset, .unset] [])) _
      refine XS.iload X46.here hx rfl (hb hby at_14) rfl ?_
      show Steps p.tables e below (T46.setTop (mkF m 16 _ [(.int (1 : Int32))])) _
      refine XS.iconst X46.here hx rfl (hb hby at_16) ?_
      show Steps p.tables e below (T46.setTop (mkF m 17 _ [(.int (1 : Int32)), (.int (1 : Int32))])) _
      refine XS.icmpNo X46.here hx rfl (hb hby at_17) rfl (flt (by decide : ¬ ((1 : Int32) < (1 : Int32)))).1 ?_
      show Steps p.tables e below (T46.setTop (mkF m 20 _ [])) _
      refine XS.aload X46.here hx rfl (hb hby at_20) rfl rfl ?_
      show Steps p.tables e below (T46.setTop (mkF m 22 _ [(.ref b40)])) _
      refine XS.lloadN X46.here hx rfl (hb hby at_22) rfl ?_
      exact ht
    obtain ⟨cq49, kq49, q49a, q49b, q49c⟩ := isOf hZ hs46 A40
    obtain ⟨_, _, ⟨T48, L48, k48, n48⟩, -, X48, ⟨Lc48, hQ48, l48, y48, z48⟩, st48⟩ := X46.virtualBack hx (y := (⟨"com/example/kindred_mesh/kindredmesh/peer/SearchTime", "served", "(J)V"⟩ : MethodName)) (z := (⟨"com/example/kindred_mesh/kindredmesh/peer/SearchTime", "served", "(J)V"⟩ : MethodName)) hown (mvT hZ (hw _ (List.mem_of_getElem? (i := 25) rfl))) (mvT hZ (hw _ (List.mem_of_getElem? (i := 26) rfl))) (notFace_of_selects (args := #[]) (mvT hZ (hw _ (List.mem_of_getElem? (i := 28) rfl)))) (mvT hZ (hw _ (List.mem_of_getElem? (i := 28) rfl))) (mvT hZ (hw _ (List.mem_of_getElem? (i := 27) rfl))) (by decide) (backOf (W := 0) (rmSv l Z _ hw [] b40 q1 (0 : Int64) (0 : Int64) 0 h40 n0 Z42 A40 f43 f45 f44 g41) hZ (hw _ (List.mem_of_getElem? (i := 29) rfl)) (hw _ (List.mem_of_getElem? (i := 2) rfl)) (by decide) (by decide)) q49a q49c (g := (mkF m 23 #[.val (.int p0), .val (.long q1), .second, .val (.long q2), .second, .val (.long q3), .second, .val (.long q4), .second, .val (.int (1 : Int32)), .val (.ref b40), .unset, .unset, .unset, .unset] [(.long q1), (.ref b40)])) rfl (by rw [hml]; rfl) (Steps.refl _) (argsL := [(.long q1)]) (rest := []) (lenOf pd_2 rfl) rfl (by show 2 * 0 + _ ≤ _; exact Nat.le_of_eq rfl) (hb hby at_23) (fun _ _ => ⟨rfl, hs46, (by decide : 1 + 0 ≤ _), (by decide : 3 + 0 ≤ _)⟩)
    dsimp only [Pt.U, Pt.locs, Pt.cells, Pt.slots] at X48 l48 y48 z48 st48 hQ48
    subst l48 y48 z48
    obtain ⟨rfl, Nq48, Kq48, f50, f51, f52⟩ := hQ48
    have N53 := Fr.app N47 Nq48
    have f54 := (A40.keep Kq48)
    have Z55 : n0 ≤ T48.heap.size := (Nat.le_trans Z42 Kq48.1)
    refine OFin.to (S' := T48.setTop (mkF m 26 #[.val (.int p0), .val (.long q1), .second, .val (.long q2), .second, .val (.long q3), .second, .val (.long q4), .second, .val (.int (1 : Int32)), .val (.ref b40), .unset, .unset, .unset, .unset] [])) st48 ?_
    refine OFin.of (S' := T48.setTop (mkF m 53 #[.val (.int p0), .val (.long q1), .second, .val (.long q2), .second, .val (.long q3), .second, .val (.long q4), .second, .val (.int (1 : Int32)), .val (.ref b40), .unset, .unset, .unset, .unset] [(.ref b40)])) (fun t ht => ?_) ?_
    · refine XS.iload X48.here hx rfl (hb hby at_26) rfl ?_
      show Steps p.tables e below (T48.setTop (mkF m 28 _ [(.int (1 : Int32))])) _
      refine XS.iconst X48.here hx rfl (hb hby at_28) ?_
      show Steps p.tables e below (T48.setTop (mkF m 29 _ [(.int (2 : Int32)), (.int (1 : Int32))])) _
      refine XS.icmpYes X48.here hx rfl (pc0 := 29) (pc' := 38) rfl (hb hby at_29) rfl (tlt (by decide : (1 : Int32) < (2 : Int32))).1 (by decide) (by decide) ?_
      show Steps p.tables e below (T48.setTop (mkF m 38 _ [])) _
      refine XS.iload X48.here hx rfl (hb hby at_38) rfl ?_
      show Steps p.tables e below (T48.setTop (mkF m 40 _ [(.int (1 : Int32))])) _
      refine XS.iconst X48.here hx rfl (hb hby at_40) ?_
      show Steps p.tables e below (T48.setTop (mkF m 41 _ [(.int (3 : Int32)), (.int (1 : Int32))])) _
      refine XS.icmpYes X48.here hx rfl (pc0 := 41) (pc' := 51) rfl (hb hby at_41) rfl (tlt (by decide : (1 : Int32) < (3 : Int32))).1 (by decide) (by decide) ?_
      show Steps p.tables e below (T48.setTop (mkF m 51 _ [])) _
      refine XS.aload X48.here hx rfl (hb hby at_51) rfl rfl ?_
      exact ht
    obtain ⟨cq57, kq57, q57a, q57b, q57c⟩ := isOf hZ (rfl : T48.heap = T48.heap) f54
    obtain ⟨_, _, ⟨T56, L56, k56, n56⟩, -, X56, ⟨Lc56, hQ56, l56, y56, z56⟩, st56⟩ := X48.virtualBack hx (y := (⟨"com/example/kindred_mesh/kindredmesh/peer/SearchTime", "newPeriod", "()V"⟩ : MethodName)) (z := (⟨"com/example/kindred_mesh/kindredmesh/peer/SearchTime", "newPeriod", "()V"⟩ : MethodName)) hown (mvT hZ (hw _ (List.mem_of_getElem? (i := 9) rfl))) (mvT hZ (hw _ (List.mem_of_getElem? (i := 10) rfl))) (notFace_of_selects (args := #[]) (mvT hZ (hw _ (List.mem_of_getElem? (i := 12) rfl)))) (mvT hZ (hw _ (List.mem_of_getElem? (i := 12) rfl))) (mvT hZ (hw _ (List.mem_of_getElem? (i := 11) rfl))) (by decide) (backOf (W := 0) (rmNp1 l Z _ hw [] b40 (1 : Int64) ((0 : Int64) + q1) 0 T48.heap n0 Z55 f54 f50 f51 f52 g41 (by decide) (own_nn _ (by decide))) hZ (hw _ (List.mem_of_getElem? (i := 13) rfl)) (hw _ (List.mem_of_getElem? (i := 2) rfl)) (by decide) (by decide)) q57a q57c (g := (mkF m 53 #[.val (.int p0), .val (.long q1), .second, .val (.long q2), .second, .val (.long q3), .second, .val (.long q4), .second, .val (.int (1 : Int32)), .val (.ref b40), .unset, .unset, .unset, .unset] [(.ref b40)])) rfl (by rw [hml]; rfl) (Steps.refl _) (argsL := []) (rest := []) (lenOf pd_0 rfl) rfl (by show 2 * 0 + _ ≤ _; exact Nat.le_of_eq rfl) (hb hby at_53) (fun _ _ => ⟨rfl, (rfl : T48.heap = T48.heap), (by decide : 1 + 0 ≤ _), (by decide : 3 + 0 ≤ _)⟩)
    dsimp only [Pt.U, Pt.locs, Pt.cells, Pt.slots] at X56 l56 y56 z56 st56 hQ56
    subst l56 y56 z56
    obtain ⟨rfl, Nq56, Kq56, f58, f59, f60⟩ := hQ56
    have N61 := Fr.app N53 Nq56
    have f62 := (f54.keep Kq56)
    have Z63 : n0 ≤ T56.heap.size := (Nat.le_trans Z55 Kq56.1)
    refine OFin.to (S' := T56.setTop (mkF m 56 #[.val (.int p0), .val (.long q1), .second, .val (.long q2), .second, .val (.long q3), .second, .val (.long q4), .second, .val (.int (1 : Int32)), .val (.ref b40), .unset, .unset, .unset, .unset] [])) st56 ?_
    refine OFin.of (S' := T56.setTop (mkF m 114 #[.val (.int p0), .val (.long q1), .second, .val (.long q2), .second, .val (.long q3), .second, .val (.long q4), .second, .val (.int (1 : Int32)), .val (.ref b40), .val (.double (FP.l2d q1)), .second, .unset, .unset] [(.ref b40)])) (fun t ht => ?_) ?_
    · refine XS.iload X56.here hx rfl (hb hby at_56) rfl ?_
      show Steps p.tables e below (T56.setTop (mkF m 58 _ [(.int (1 : Int32))])) _
      refine XS.ifYes X56.here hx rfl (pc0 := 58) (pc' := 67) rfl (hb hby at_58) rfl ((if0 _ _).trans (feq (by decide : ¬ ((1 : Int32) = (0 : Int32)))).2) (by decide) (by decide) ?_
      show Steps p.tables e below (T56.setTop (mkF m 67 _ [])) _
      refine XS.iload X56.here hx rfl (hb hby at_67) rfl ?_
      show Steps p.tables e below (T56.setTop (mkF m 69 _ [(.int (1 : Int32))])) _
      refine XS.iconst X56.here hx rfl (hb hby at_69) ?_
      show Steps p.tables e below (T56.setTop (mkF m 70 _ [(.int (1 : Int32)), (.int (1 : Int32))])) _
      refine XS.icmpNo X56.here hx rfl (hb hby at_70) rfl (teq (by decide : (1 : Int32) = (1 : Int32))).2 ?_
      show Steps p.tables e below (T56.setTop (mkF m 73 _ [])) _
      refine XS.lloadN X56.here hx rfl (hb hby at_73) rfl ?_
      show Steps p.tables e below (T56.setTop (mkF m 74 _ [(.long q1)])) _
      refine XS.l2dS X56.here hx rfl (hb hby at_74) rfl rfl ?_
      show Steps p.tables e below (T56.setTop (mkF m 75 _ [(.double (FP.l2d q1))])) _
      refine XS.dstore X56.here hx rfl (hb hby at_75) rfl (l' := #[.val (.int p0), .val (.long q1), .second, .val (.long q2), .second, .val (.long q3), .second, .val (.long q4), .second, .val (.int (1 : Int32)), .val (.ref b40), .val (.double (FP.l2d q1)), .second, .unset, .unset]) rfl ?_
      show Steps p.tables e below (T56.setTop (mkF m 77 #[.val (.int p0), .val (.long q1), .second, .val (.long q2), .second, .val (.long q3), .second, .val (.long q4), .second, .val (.int (1 : Int32)), .val (.ref b40), .val (.double (FP.l2d q1)), .second, .unset, .unset] [])) _
      refine XS.goto X56.here hx rfl (pc0 := 77) (pc' := 112) rfl (hb hby at_77) (by decide) (by decide) ?_
      show Steps p.tables e below (T56.setTop (mkF m 112 _ [])) _
      refine XS.aload X56.here hx rfl (hb hby at_112) rfl rfl ?_
      exact ht
    obtain ⟨cq65, kq65, q65a, q65b, q65c⟩ := isOf hZ (rfl : T56.heap = T56.heap) f62
    obtain ⟨_, _, ⟨T64, L64, k64, n64⟩, -, X64, ⟨Lc64, hQ64, l64, y64, z64⟩, st64⟩ := X56.virtualBack hx (y := (⟨"com/example/kindred_mesh/kindredmesh/peer/SearchTime", "lastMean", "()D"⟩ : MethodName)) (z := (⟨"com/example/kindred_mesh/kindredmesh/peer/SearchTime", "lastMean", "()D"⟩ : MethodName)) hown (mvT hZ (hw _ (List.mem_of_getElem? (i := 20) rfl))) (mvT hZ (hw _ (List.mem_of_getElem? (i := 21) rfl))) (notFace_of_selects (args := #[]) (mvT hZ (hw _ (List.mem_of_getElem? (i := 23) rfl)))) (mvT hZ (hw _ (List.mem_of_getElem? (i := 23) rfl))) (mvT hZ (hw _ (List.mem_of_getElem? (i := 22) rfl))) (by decide) (backOf (W := 0) (rmLm l Z _ hw [] b40 (FP.ddiv (FP.l2d ((0 : Int64) + q1)) (FP.l2d (1 : Int64))) T56.heap n0 Z63 f60) hZ (hw _ (List.mem_of_getElem? (i := 24) rfl)) (hw _ (List.mem_of_getElem? (i := 2) rfl)) (by decide) (by decide)) q65a q65c (g := (mkF m 114 #[.val (.int p0), .val (.long q1), .second, .val (.long q2), .second, .val (.long q3), .second, .val (.long q4), .second, .val (.int (1 : Int32)), .val (.ref b40), .val (.double (FP.l2d q1)), .second, .unset, .unset] [(.ref b40)])) rfl (by rw [hml]; rfl) (Steps.refl _) (argsL := []) (rest := []) (lenOf pd_1 rfl) rfl (by show 2 * 0 + _ ≤ _; exact Nat.le_of_eq rfl) (hb hby at_114) (fun _ _ => ⟨rfl, (rfl : T56.heap = T56.heap), (by decide : 1 + 0 ≤ _), (by decide : 3 + 0 ≤ _)⟩)
    dsimp only [Pt.U, Pt.locs, Pt.cells, Pt.slots] at X64 l64 y64 z64 st64 hQ64
    subst l64 y64 z64
    obtain ⟨rfl, Nq64, hs64⟩ := hQ64
    have N66 := Fr.app N61 Nq64
    refine OFin.to (S' := T64.setTop (mkF m 117 #[.val (.int p0), .val (.long q1), .second, .val (.long q2), .second, .val (.long q3), .second, .val (.long q4), .second, .val (.int (1 : Int32)), .val (.ref b40), .val (.double (FP.l2d q1)), .second, .unset, .unset] [(.double (FP.ddiv (FP.l2d ((0 : Int64) + q1)) (FP.l2d (1 : Int64))))])) st64 ?_
    refine OFin.of (S' := T64.setTop (mkF m 134 #[.val (.int p0), .val (.long q1), .second, .val (.long q2), .second, .val (.long q3), .second, .val (.long q4), .second, .val (.int (1 : Int32)), .val (.ref b40), .val (.double (FP.l2d q1)), .second, .val (.int (1 : Int32)), .unset] [(.long q4), (.ref b40)])) (fun t ht => ?_) ?_
    · refine XS.dload X64.here hx rfl (hb hby at_117) rfl ?_
      show Steps p.tables e below (T64.setTop (mkF m 119 _ [(.double (FP.l2d q1)), (.double (FP.ddiv (FP.l2d ((0 : Int64) + q1)) (FP.l2d (1 : Int64))))])) _
      refine XS.dcmpS X64.here hx rfl (hb hby at_119) rfl rfl ?_
      show Steps p.tables e below (T64.setTop (mkF m 120 _ [(.int (cmpValue (FP.dcmp (FP.ddiv (FP.l2d ((0 : Int64) + q1)) (FP.l2d (1 : Int64))) (FP.l2d q1)) .l))])) _
      refine XS.ifNo X64.here hx rfl (hb hby at_120) rfl ((if0 _ _).trans (teq (dcmpV_eq (own_div1 _) (own_nn _ (by decide)) .l : (cmpValue (FP.dcmp (FP.ddiv (FP.l2d ((0 : Int64) + q1)) (FP.l2d (1 : Int64))) (FP.l2d q1)) .l) = (0 : Int32))).2) ?_
      show Steps p.tables e below (T64.setTop (mkF m 123 _ [])) _
      refine XS.iconst X64.here hx rfl (hb hby at_123) ?_
      show Steps p.tables e below (T64.setTop (mkF m 124 _ [(.int (1 : Int32))])) _
      refine XS.goto X64.here hx rfl (pc0 := 124) (pc' := 128) rfl (hb hby at_124) (by decide) (by decide) ?_
      show Steps p.tables e below (T64.setTop (mkF m 128 _ [(.int (1 : Int32))])) _
      refine XS.istore X64.here hx rfl (hb hby at_128) rfl (l' := #[.val (.int p0), .val (.long q1), .second, .val (.long q2), .second, .val (.long q3), .second, .val (.long q4), .second, .val (.int (1 : Int32)), .val (.ref b40), .val (.double (FP.l2d q1)), .second, .val (.int (1 : Int32)), .unset]) rfl ?_
      show Steps p.tables e below (T64.setTop (mkF m 130 #[.val (.int p0), .val (.long q1), .second, .val (.long q2), .second, .val (.long q3), .second, .val (.long q4), .second, .val (.int (1 : Int32)), .val (.ref b40), .val (.double (FP.l2d q1)), .second, .val (.int (1 : Int32)), .unset] [])) _
      refine XS.aload X64.here hx rfl (hb hby at_130) rfl rfl ?_
      show Steps p.tables e below (T64.setTop (mkF m 132 _ [(.ref b40)])) _
      refine XS.lload X64.here hx rfl (hb hby at_132) rfl ?_
      exact ht
    obtain ⟨cq68, kq68, q68a, q68b, q68c⟩ := isOf hZ hs64 f62
    obtain ⟨_, _, ⟨T67, L67, k67, n67⟩, -, X67, ⟨Lc67, hQ67, l67, y67, z67⟩, st67⟩ := X64.virtualBack hx (y := (⟨"com/example/kindred_mesh/kindredmesh/peer/SearchTime", "served", "(J)V"⟩ : MethodName)) (z := (⟨"com/example/kindred_mesh/kindredmesh/peer/SearchTime", "served", "(J)V"⟩ : MethodName)) hown (mvT hZ (hw _ (List.mem_of_getElem? (i := 25) rfl))) (mvT hZ (hw _ (List.mem_of_getElem? (i := 26) rfl))) (notFace_of_selects (args := #[]) (mvT hZ (hw _ (List.mem_of_getElem? (i := 28) rfl)))) (mvT hZ (hw _ (List.mem_of_getElem? (i := 28) rfl))) (mvT hZ (hw _ (List.mem_of_getElem? (i := 27) rfl))) (by decide) (backOf (W := 0) (rmSv l Z _ hw [] b40 q4 (0 : Int64) (0 : Int64) (FP.ddiv (FP.l2d ((0 : Int64) + q1)) (FP.l2d (1 : Int64))) T56.heap n0 Z63 f62 f58 f59 f60 g41) hZ (hw _ (List.mem_of_getElem? (i := 29) rfl)) (hw _ (List.mem_of_getElem? (i := 2) rfl)) (by decide) (by decide)) q68a q68c (g := (mkF m 134 #[.val (.int p0), .val (.long q1), .second, .val (.long q2), .second, .val (.long q3), .second, .val (.long q4), .second, .val (.int (1 : Int32)), .val (.ref b40), .val (.double (FP.l2d q1)), .second, .val (.int (1 : Int32)), .unset] [(.long q4), (.ref b40)])) rfl (by rw [hml]; rfl) (Steps.refl _) (argsL := [(.long q4)]) (rest := []) (lenOf pd_2 rfl) rfl (by show 2 * 0 + _ ≤ _; exact Nat.le_of_eq rfl) (hb hby at_134) (fun _ _ => ⟨rfl, hs64, (by decide : 1 + 0 ≤ _), (by decide : 3 + 0 ≤ _)⟩)
    dsimp only [Pt.U, Pt.locs, Pt.cells, Pt.slots] at X67 l67 y67 z67 st67 hQ67
    subst l67 y67 z67
    obtain ⟨rfl, Nq67, Kq67, f69, f70, f71⟩ := hQ67
    have N72 := Fr.app N66 Nq67
    have f73 := (f62.keep Kq67)
    have Z74 : n0 ≤ T67.heap.size := (Nat.le_trans Z63 Kq67.1)
    refine OFin.to (S' := T67.setTop (mkF m 137 #[.val (.int p0), .val (.long q1), .second, .val (.long q2), .second, .val (.long q3), .second, .val (.long q4), .second, .val (.int (1 : Int32)), .val (.ref b40), .val (.double (FP.l2d q1)), .second, .val (.int (1 : Int32)), .unset] [])) st67 ?_
    refine OFin.of (S' := T67.setTop (mkF m 139 #[.val (.int p0), .val (.long q1), .second, .val (.long q2), .second, .val (.long q3), .second, .val (.long q4), .second, .val (.int (1 : Int32)), .val (.ref b40), .val (.double (FP.l2d q1)), .second, .val (.int (1 : Int32)), .unset] [(.ref b40)])) (fun t ht => ?_) ?_
    · refine XS.aload X67.here hx rfl (hb hby at_137) rfl rfl ?_
      exact ht
    obtain ⟨cq76, kq76, q76a, q76b, q76c⟩ := isOf hZ (rfl : T67.heap = T67.heap) f73
    obtain ⟨_, _, ⟨T75, L75, k75, n75⟩, -, X75, ⟨Lc75, hQ75, l75, y75, z75⟩, st75⟩ := X67.virtualBack hx (y := (⟨"com/example/kindred_mesh/kindredmesh/peer/SearchTime", "newPeriod", "()V"⟩ : MethodName)) (z := (⟨"com/example/kindred_mesh/kindredmesh/peer/SearchTime", "newPeriod", "()V"⟩ : MethodName)) hown (mvT hZ (hw _ (List.mem_of_getElem? (i := 9) rfl))) (mvT hZ (hw _ (List.mem_of_getElem? (i := 10) rfl))) (notFace_of_selects (args := #[]) (mvT hZ (hw _ (List.mem_of_getElem? (i := 12) rfl)))) (mvT hZ (hw _ (List.mem_of_getElem? (i := 12) rfl))) (mvT hZ (hw _ (List.mem_of_getElem? (i := 11) rfl))) (by decide) (backOf (W := 0) (rmNp1 l Z _ hw [] b40 (1 : Int64) ((0 : Int64) + q4) (FP.ddiv (FP.l2d ((0 : Int64) + q1)) (FP.l2d (1 : Int64))) T67.heap n0 Z74 f73 f69 f70 f71 g41 (by decide) (own_nn _ (by decide))) hZ (hw _ (List.mem_of_getElem? (i := 13) rfl)) (hw _ (List.mem_of_getElem? (i := 2) rfl)) (by decide) (by decide)) q76a q76c (g := (mkF m 139 #[.val (.int p0), .val (.long q1), .second, .val (.long q2), .second, .val (.long q3), .second, .val (.long q4), .second, .val (.int (1 : Int32)), .val (.ref b40), .val (.double (FP.l2d q1)), .second, .val (.int (1 : Int32)), .unset] [(.ref b40)])) rfl (by rw [hml]; rfl) (Steps.refl _) (argsL := []) (rest := []) (lenOf pd_0 rfl) rfl (by show 2 * 0 + _ ≤ _; exact Nat.le_of_eq rfl) (hb hby at_139) (fun _ _ => ⟨rfl, (rfl : T67.heap = T67.heap), (by decide : 1 + 0 ≤ _), (by decide : 3 + 0 ≤ _)⟩)
    dsimp only [Pt.U, Pt.locs, Pt.cells, Pt.slots] at X75 l75 y75 z75 st75 hQ75
    subst l75 y75 z75
    obtain ⟨rfl, Nq75, Kq75, f77, f78, f79⟩ := hQ75
    have N80 := Fr.app N72 Nq75
    have f81 := (f73.keep Kq75)
    have Z82 : n0 ≤ T75.heap.size := (Nat.le_trans Z74 Kq75.1)
    refine OFin.to (S' := T75.setTop (mkF m 142 #[.val (.int p0), .val (.long q1), .second, .val (.long q2), .second, .val (.long q3), .second, .val (.long q4), .second, .val (.int (1 : Int32)), .val (.ref b40), .val (.double (FP.l2d q1)), .second, .val (.int (1 : Int32)), .unset] [])) st75 ?_
    refine OFin.of (S' := T75.setTop (mkF m 144 #[.val (.int p0), .val (.long q1), .second, .val (.long q2), .second, .val (.long q3), .second, .val (.long q4), .second, .val (.int (1 : Int32)), .val (.ref b40), .val (.double (FP.l2d q1)), .second, .val (.int (1 : Int32)), .unset] [(.ref b40)])) (fun t ht => ?_) ?_
    · refine XS.aload X75.here hx rfl (hb hby at_142) rfl rfl ?_
      exact ht
    obtain ⟨cq84, kq84, q84a, q84b, q84c⟩ := isOf hZ (rfl : T75.heap = T75.heap) f81
    obtain ⟨_, _, ⟨T83, L83, k83, n83⟩, -, X83, ⟨Lc83, hQ83, l83, y83, z83⟩, st83⟩ := X75.virtualBack hx (y := (⟨"com/example/kindred_mesh/kindredmesh/peer/SearchTime", "lastMean", "()D"⟩ : MethodName)) (z := (⟨"com/example/kindred_mesh/kindredmesh/peer/SearchTime", "lastMean", "()D"⟩ : MethodName)) hown (mvT hZ (hw _ (List.mem_of_getElem? (i := 20) rfl))) (mvT hZ (hw _ (List.mem_of_getElem? (i := 21) rfl))) (notFace_of_selects (args := #[]) (mvT hZ (hw _ (List.mem_of_getElem? (i := 23) rfl)))) (mvT hZ (hw _ (List.mem_of_getElem? (i := 23) rfl))) (mvT hZ (hw _ (List.mem_of_getElem? (i := 22) rfl))) (by decide) (backOf (W := 0) (rmLm l Z _ hw [] b40 (FP.ddiv (FP.l2d ((0 : Int64) + q4)) (FP.l2d (1 : Int64))) T75.heap n0 Z82 f79) hZ (hw _ (List.mem_of_getElem? (i := 24) rfl)) (hw _ (List.mem_of_getElem? (i := 2) rfl)) (by decide) (by decide)) q84a q84c (g := (mkF m 144 #[.val (.int p0), .val (.long q1), .second, .val (.long q2), .second, .val (.long q3), .second, .val (.long q4), .second, .val (.int (1 : Int32)), .val (.ref b40), .val (.double (FP.l2d q1)), .second, .val (.int (1 : Int32)), .unset] [(.ref b40)])) rfl (by rw [hml]; rfl) (Steps.refl _) (argsL := []) (rest := []) (lenOf pd_1 rfl) rfl (by show 2 * 0 + _ ≤ _; exact Nat.le_of_eq rfl) (hb hby at_144) (fun _ _ => ⟨rfl, (rfl : T75.heap = T75.heap), (by decide : 1 + 0 ≤ _), (by decide : 3 + 0 ≤ _)⟩)
    dsimp only [Pt.U, Pt.locs, Pt.cells, Pt.slots] at X83 l83 y83 z83 st83 hQ83
    subst l83 y83 z83
    obtain ⟨rfl, Nq83, hs83⟩ := hQ83
    have N85 := Fr.app N80 Nq83
    refine OFin.to (S' := T83.setTop (mkF m 147 #[.val (.int p0), .val (.long q1), .second, .val (.long q2), .second, .val (.long q3), .second, .val (.long q4), .second, .val (.int (1 : Int32)), .val (.ref b40), .val (.double (FP.l2d q1)), .second, .val (.int (1 : Int32)), .unset] [(.double (FP.ddiv (FP.l2d ((0 : Int64) + q4)) (FP.l2d (1 : Int64))))])) st83 ?_
    refine OFin.of (S' := T83.setTop (mkF m 176 #[.val (.int p0), .val (.long q1), .second, .val (.long q2), .second, .val (.long q3), .second, .val (.long q4), .second, .val (.int (1 : Int32)), .val (.ref b40), .val (.double (FP.l2d q1)), .second, .val (.int (1 : Int32)), .val (.int (1 : Int32))] [(.int (1 : Int32))])) (fun t ht => ?_) ?_
    · refine XS.lload X83.here hx rfl (hb hby at_147) rfl ?_
      show Steps p.tables e below (T83.setTop (mkF m 149 _ [(.long q4), (.double (FP.ddiv (FP.l2d ((0 : Int64) + q4)) (FP.l2d (1 : Int64))))])) _
      refine XS.l2dS X83.here hx rfl (hb hby at_149) rfl rfl ?_
      show Steps p.tables e below (T83.setTop (mkF m 150 _ [(.double (FP.l2d q4)), (.double (FP.ddiv (FP.l2d ((0 : Int64) + q4)) (FP.l2d (1 : Int64))))])) _
      refine XS.dcmpS X83.here hx rfl (hb hby at_150) rfl rfl ?_
      show Steps p.tables e below (T83.setTop (mkF m 151 _ [(.int (cmpValue (FP.dcmp (FP.ddiv (FP.l2d ((0 : Int64) + q4)) (FP.l2d (1 : Int64))) (FP.l2d q4)) .l))])) _
      refine XS.ifNo X83.here hx rfl (hb hby at_151) rfl ((if0 _ _).trans (teq (dcmpV_eq (own_div1 _) (own_nn _ (by decide)) .l : (cmpValue (FP.dcmp (FP.ddiv (FP.l2d ((0 : Int64) + q4)) (FP.l2d (1 : Int64))) (FP.l2d q4)) .l) = (0 : Int32))).2) ?_
      show Steps p.tables e below (T83.setTop (mkF m 154 _ [])) _
      refine XS.iconst X83.here hx rfl (hb hby at_154) ?_
      show Steps p.tables e below (T83.setTop (mkF m 155 _ [(.int (1 : Int32))])) _
      refine XS.goto X83.here hx rfl (pc0 := 155) (pc' := 159) rfl (hb hby at_155) (by decide) (by decide) ?_
      show Steps p.tables e below (T83.setTop (mkF m 159 _ [(.int (1 : Int32))])) _
      refine XS.istore X83.here hx rfl (hb hby at_159) rfl (l' := #[.val (.int p0), .val (.long q1), .second, .val (.long q2), .second, .val (.long q3), .second, .val (.long q4), .second, .val (.int (1 : Int32)), .val (.ref b40), .val (.double (FP.l2d q1)), .second, .val (.int (1 : Int32)), .val (.int (1 : Int32))]) rfl ?_
      show Steps p.tables e below (T83.setTop (mkF m 161 #[.val (.int p0), .val (.long q1), .second, .val (.long q2), .second, .val (.long q3), .second, .val (.long q4), .second, .val (.int (1 : Int32)), .val (.ref b40), .val (.double (FP.l2d q1)), .second, .val (.int (1 : Int32)), .val (.int (1 : Int32))] [])) _
      refine XS.iload X83.here hx rfl (hb hby at_161) rfl ?_
      show Steps p.tables e below (T83.setTop (mkF m 163 _ [(.int (1 : Int32))])) _
      refine XS.ifNo X83.here hx rfl (hb hby at_163) rfl ((if0 _ _).trans (feq (by decide : ¬ ((1 : Int32) = (0 : Int32)))).1) ?_
      show Steps p.tables e below (T83.setTop (mkF m 166 _ [])) _
      refine XS.iload X83.here hx rfl (hb hby at_166) rfl ?_
      show Steps p.tables e below (T83.setTop (mkF m 168 _ [(.int (1 : Int32))])) _
      refine XS.ifNo X83.here hx rfl (hb hby at_168) rfl ((if0 _ _).trans (feq (by decide : ¬ ((1 : Int32) = (0 : Int32)))).1) ?_
      show Steps p.tables e below (T83.setTop (mkF m 171 _ [])) _
      refine XS.iconst X83.here hx rfl (hb hby at_171) ?_
      show Steps p.tables e below (T83.setTop (mkF m 172 _ [(.int (1 : Int32))])) _
      refine XS.goto X83.here hx rfl (pc0 := 172) (pc' := 176) rfl (hb hby at_172) (by decide) (by decide) ?_
      exact ht
    exact OFin.retB X83 hx hlk (t := .boolean) (by simp) hret (hb hby at_176) (by decide) (by decide) (by rw [hs83]; exact ⟨rfl, N85⟩)
  · rw [hq1]
    refine OFin.of (S' := s₁.setTop (mkF m 5 #[.val (.int p0), .val (.long q1), .second, .val (.long q2), .second, .val (.long q3), .second, .val (.long q4), .second, .val (.int (2 : Int32)), .unset, .unset, .unset, .unset, .unset] [])) (fun t ht => ?_) ?_
    · refine XS.istore X0.here hx rfl (hb hby at_3) rfl (l' := #[.val (.int p0), .val (.long q1), .second, .val (.long q2), .second, .val (.long q3), .second, .val (.long q4), .second, .val (.int (2 : Int32)), .unset, .unset, .unset, .unset, .unset]) rfl ?_
      exact ht
    obtain ⟨T86, h86, X86, e86, E86, A86, D86, -, st86⟩ := newO X0 hx hZ hown (hw _ (List.mem_of_getElem? (i := 0) rfl)) (hw _ (List.mem_of_getElem? (i := 1) rfl)) (hw _ (List.mem_of_getElem? (i := 2) rfl)) e0 (g := (mkF m 5 #[.val (.int p0), .val (.long q1), .second, .val (.long q2), .second, .val (.long q3), .second, .val (.long q4), .second, .val (.int (2 : Int32)), .unset, .unset, .unset, .unset, .unset] [])) rfl (hb hby at_5) (by decide) (by decide)
    obtain ⟨b86, gq86⟩ : ∃ z, z = h0.size := ⟨_, rfl⟩
    rw [← gq86] at A86 D86 st86
    have g87 : n0 ≤ b86 := (Nat.le_trans Z0 (Nat.le_of_eq gq86.symm))
    have Z88 : n0 ≤ h86.size := (Nat.le_trans Z0 E86.1)
    have f89 : Fld Z h86 b86 "com/example/kindred_mesh/kindredmesh/peer/SearchTime" "served" "J" (.long (0 : Int64)) := D86 (Or.inl (hw _ (List.mem_of_getElem? (i := 15) rfl))) (ty := .long) (by decide)
    have f90 : Fld Z h86 b86 "com/example/kindred_mesh/kindredmesh/peer/SearchTime" "lastMean" "D" (.double 0) := D86 (Or.inl (hw _ (List.mem_of_getElem? (i := 17) rfl))) (ty := .double) (by decide)
    have f91 : Fld Z h86 b86 "com/example/kindred_mesh/kindredmesh/peer/SearchTime" "total" "J" (.long (0 : Int64)) := D86 (Or.inl (hw _ (List.mem_of_getElem? (i := 19) rfl))) (ty := .long) (by decide)
    refine OFin.of (S' := T86.setTop (mkF m 8 #[.val (.int p0), .val (.long q1), .second, .val (.long q2), .second, .val (.long q3), .second, .val (.long q4), .second, .val (.int (2 : Int32)), .unset, .unset, .unset, .unset, .unset] [(.ref b86)])) (fun t ht => st86 t ht) ?_
    refine OFin.of (S' := T86.setTop (mkF m 9 #[.val (.int p0), .val (.long q1), .second, .val (.long q2), .second, .val (.long q3), .second, .val (.long q4), .second, .val (.int (2 : Int32)), .unset, .unset, .unset, .unset, .unset] [(.ref b86), (.ref b86)])) (fun t ht => ?_) ?_
    · refine XS.dup X86.here hx rfl (hb hby at_8) rfl rfl ?_
      exact ht
    obtain ⟨_, _, ⟨T92, L92, k92, n92⟩, -, X92, ⟨Lc92, hQ92, l92, y92, z92⟩, st92⟩ := X86.specialBack hx (y := (⟨"com/example/kindred_mesh/kindredmesh/peer/SearchTime", "<init>", "()V"⟩ : MethodName)) rfl hown (mvT hZ (hw _ (List.mem_of_getElem? (i := 3) rfl))) (mvT hZ (hw _ (List.mem_of_getElem? (i := 4) rfl))) (mvT hZ (hw _ (List.mem_of_getElem? (i := 5) rfl))) (by decide) (backOf (W := 1) (rmIni l Z _ hw [] b86 h86 n0 Z88 ) hZ (hw _ (List.mem_of_getElem? (i := 5) rfl)) (hw _ (List.mem_of_getElem? (i := 2) rfl)) (by decide) (by decide)) (g := (mkF m 9 #[.val (.int p0), .val (.long q1), .second, .val (.long q2), .second, .val (.long q3), .second, .val (.long q4), .second, .val (.int (2 : Int32)), .unset, .unset, .unset, .unset, .unset] [(.ref b86), (.ref b86)])) rfl (by rw [hml]; rfl) (Steps.refl _) (a := b86) (argsL := []) (rest := [(.ref b86)]) (lenOf pd_0 rfl) rfl (by show 2 * 0 + _ ≤ _; exact Nat.le_of_eq rfl) (hb hby at_9) (fun _ _ => ⟨rfl, e86, (by decide : 1 + 0 ≤ _), (by decide : 3 + 0 ≤ _)⟩)
    dsimp only [Pt.U, Pt.locs, Pt.cells, Pt.slots] at X92 l92 y92 z92 st92 hQ92
    subst l92 y92 z92
    obtain ⟨rfl, Nq92, hs92⟩ := hQ92
    have N93 := Fr.app N0 Nq92
    refine OFin.to (S' := T92.setTop (mkF m 12 #[.val (.int p0), .val (.long q1), .second, .val (.long q2), .second, .val (.long q3), .second, .val (.long q4), .second, .val (.int (2 : Int32)), .unset, .unset, .unset, .unset, .unset] [(.ref b86)])) st92 ?_
    refine OFin.of (S' := T92.setTop (mkF m 23 #[.val (.int p0), .val (.long q1), .second, .val (.long q2), .second, .val (.long q3), .second, .val (.long q4), .second, .val (.int (2 : Int32)), .val (.ref b86), .unset, .unset, .unset, .unset] [(.long q1), (.ref b86)])) (fun t ht => ?_) ?_
    · refine XS.astore X92.here hx rfl (hb hby at_12) rfl rfl (l' := #[.val (.int p0), .val (.long q1), .second, .val (.long q2), .second, .val (.long q3), .second, .val (.long q4), .second, .val (.int (2 : Int32)), .val (.ref b86), .unset, .unset, .unset, .unset]) rfl ?_
      show Steps p.tables e below (T92.setTop (mkF m 14 #[.val (.int p0), .val (.long q1), .second, .val (.long q2), .second, .val (.long q3), .second, .val (.long q4), .second, .val (.int (2 : Int32)), .val (.ref b86), .unset, .unset, .unset, .unset] [])) _
      refine XS.iload X92.here hx rfl (hb hby at_14) rfl ?_
      show Steps p.tables e below (T92.setTop (mkF m 16 _ [(.int (2 : Int32))])) _
      refine XS.iconst X92.here hx rfl (hb hby at_16) ?_
      show Steps p.tables e below (T92.setTop (mkF m 17 _ [(.int (1 : Int32)), (.int (2 : Int32))])) _
      refine XS.icmpNo X92.here hx rfl (hb hby at_17) rfl (flt (by decide : ¬ ((2 : Int32) < (1 : Int32)))).1 ?_
      show Steps p.tables e below (T92.setTop (mkF m 20 _ [])) _
      refine XS.aload X92.here hx rfl (hb hby at_20) rfl rfl ?_
      show Steps p.tables e below (T92.setTop (mkF m 22 _ [(.ref b86)])) _
      refine XS.lloadN X92.here hx rfl (hb hby at_22) rfl ?_
      exact ht
    obtain ⟨cq95, kq95, q95a, q95b, q95c⟩ := isOf hZ hs92 A86
    obtain ⟨_, _, ⟨T94, L94, k94, n94⟩, -, X94, ⟨Lc94, hQ94, l94, y94, z94⟩, st94⟩ := X92.virtualBack hx (y := (⟨"com/example/kindred_mesh/kindredmesh/peer/SearchTime", "served", "(J)V"⟩ : MethodName)) (z := (⟨"com/example/kindred_mesh/kindredmesh/peer/SearchTime", "served", "(J)V"⟩ : MethodName)) hown (mvT hZ (hw _ (List.mem_of_getElem? (i := 25) rfl))) (mvT hZ (hw _ (List.mem_of_getElem? (i := 26) rfl))) (notFace_of_selects (args := #[]) (mvT hZ (hw _ (List.mem_of_getElem? (i := 28) rfl)))) (mvT hZ (hw _ (List.mem_of_getElem? (i := 28) rfl))) (mvT hZ (hw _ (List.mem_of_getElem? (i := 27) rfl))) (by decide) (backOf (W := 0) (rmSv l Z _ hw [] b86 q1 (0 : Int64) (0 : Int64) 0 h86 n0 Z88 A86 f89 f91 f90 g87) hZ (hw _ (List.mem_of_getElem? (i := 29) rfl)) (hw _ (List.mem_of_getElem? (i := 2) rfl)) (by decide) (by decide)) q95a q95c (g := (mkF m 23 #[.val (.int p0), .val (.long q1), .second, .val (.long q2), .second, .val (.long q3), .second, .val (.long q4), .second, .val (.int (2 : Int32)), .val (.ref b86), .unset, .unset, .unset, .unset] [(.long q1), (.ref b86)])) rfl (by rw [hml]; rfl) (Steps.refl _) (argsL := [(.long q1)]) (rest := []) (lenOf pd_2 rfl) rfl (by show 2 * 0 + _ ≤ _; exact Nat.le_of_eq rfl) (hb hby at_23) (fun _ _ => ⟨rfl, hs92, (by decide : 1 + 0 ≤ _), (by decide : 3 + 0 ≤ _)⟩)
    dsimp only [Pt.U, Pt.locs, Pt.cells, Pt.slots] at X94 l94 y94 z94 st94 hQ94
    subst l94 y94 z94
    obtain ⟨rfl, Nq94, Kq94, f96, f97, f98⟩ := hQ94
    have N99 := Fr.app N93 Nq94
    have f100 := (A86.keep Kq94)
    have Z101 : n0 ≤ T94.heap.size := (Nat.le_trans Z88 Kq94.1)
    refine OFin.to (S' := T94.setTop (mkF m 26 #[.val (.int p0), .val (.long q1), .second, .val (.long q2), .second, .val (.long q3), .second, .val (.long q4), .second, .val (.int (2 : Int32)), .val (.ref b86), .unset, .unset, .unset, .unset] [])) st94 ?_
    refine OFin.of (S' := T94.setTop (mkF m 35 #[.val (.int p0), .val (.long q1), .second, .val (.long q2), .second, .val (.long q3), .second, .val (.long q4), .second, .val (.int (2 : Int32)), .val (.ref b86), .unset, .unset, .unset, .unset] [(.long q2), (.ref b86)])) (fun t ht => ?_) ?_
    · refine XS.iload X94.here hx rfl (hb hby at_26) rfl ?_
      show Steps p.tables e below (T94.setTop (mkF m 28 _ [(.int (2 : Int32))])) _
      refine XS.iconst X94.here hx rfl (hb hby at_28) ?_
      show Steps p.tables e below (T94.setTop (mkF m 29 _ [(.int (2 : Int32)), (.int (2 : Int32))])) _
      refine XS.icmpNo X94.here hx rfl (hb hby at_29) rfl (flt (by decide : ¬ ((2 : Int32) < (2 : Int32)))).1 ?_
      show Steps p.tables e below (T94.setTop (mkF m 32 _ [])) _
      refine XS.aload X94.here hx rfl (hb hby at_32) rfl rfl ?_
      show Steps p.tables e below (T94.setTop (mkF m 34 _ [(.ref b86)])) _
      refine XS.lloadN X94.here hx rfl (hb hby at_34) rfl ?_
      exact ht
    obtain ⟨cq103, kq103, q103a, q103b, q103c⟩ := isOf hZ (rfl : T94.heap = T94.heap) f100
    obtain ⟨_, _, ⟨T102, L102, k102, n102⟩, -, X102, ⟨Lc102, hQ102, l102, y102, z102⟩, st102⟩ := X94.virtualBack hx (y := (⟨"com/example/kindred_mesh/kindredmesh/peer/SearchTime", "served", "(J)V"⟩ : MethodName)) (z := (⟨"com/example/kindred_mesh/kindredmesh/peer/SearchTime", "served", "(J)V"⟩ : MethodName)) hown (mvT hZ (hw _ (List.mem_of_getElem? (i := 25) rfl))) (mvT hZ (hw _ (List.mem_of_getElem? (i := 26) rfl))) (notFace_of_selects (args := #[]) (mvT hZ (hw _ (List.mem_of_getElem? (i := 28) rfl)))) (mvT hZ (hw _ (List.mem_of_getElem? (i := 28) rfl))) (mvT hZ (hw _ (List.mem_of_getElem? (i := 27) rfl))) (by decide) (backOf (W := 0) (rmSv l Z _ hw [] b86 q2 (1 : Int64) ((0 : Int64) + q1) 0 T94.heap n0 Z101 f100 f96 f97 f98 g87) hZ (hw _ (List.mem_of_getElem? (i := 29) rfl)) (hw _ (List.mem_of_getElem? (i := 2) rfl)) (by decide) (by decide)) q103a q103c (g := (mkF m 35 #[.val (.int p0), .val (.long q1), .second, .val (.long q2), .second, .val (.long q3), .second, .val (.long q4), .second, .val (.int (2 : Int32)), .val (.ref b86), .unset, .unset, .unset, .unset] [(.long q2), (.ref b86)])) rfl (by rw [hml]; rfl) (Steps.refl _) (argsL := [(.long q2)]) (rest := []) (lenOf pd_2 rfl) rfl (by show 2 * 0 + _ ≤ _; exact Nat.le_of_eq rfl) (hb hby at_35) (fun _ _ => ⟨rfl, (rfl : T94.heap = T94.heap), (by decide : 1 + 0 ≤ _), (by decide : 3 + 0 ≤ _)⟩)
    dsimp only [Pt.U, Pt.locs, Pt.cells, Pt.slots] at X102 l102 y102 z102 st102 hQ102
    subst l102 y102 z102
    obtain ⟨rfl, Nq102, Kq102, f104, f105, f106⟩ := hQ102
    have N107 := Fr.app N99 Nq102
    have f108 := (f100.keep Kq102)
    have Z109 : n0 ≤ T102.heap.size := (Nat.le_trans Z101 Kq102.1)
    refine OFin.to (S' := T102.setTop (mkF m 38 #[.val (.int p0), .val (.long q1), .second, .val (.long q2), .second, .val (.long q3), .second, .val (.long q4), .second, .val (.int (2 : Int32)), .val (.ref b86), .unset, .unset, .unset, .unset] [])) st102 ?_
    refine OFin.of (S' := T102.setTop (mkF m 53 #[.val (.int p0), .val (.long q1), .second, .val (.long q2), .second, .val (.long q3), .second, .val (.long q4), .second, .val (.int (2 : Int32)), .val (.ref b86), .unset, .unset, .unset, .unset] [(.ref b86)])) (fun t ht => ?_) ?_
    · refine XS.iload X102.here hx rfl (hb hby at_38) rfl ?_
      show Steps p.tables e below (T102.setTop (mkF m 40 _ [(.int (2 : Int32))])) _
      refine XS.iconst X102.here hx rfl (hb hby at_40) ?_
      show Steps p.tables e below (T102.setTop (mkF m 41 _ [(.int (3 : Int32)), (.int (2 : Int32))])) _
      refine XS.icmpYes X102.here hx rfl (pc0 := 41) (pc' := 51) rfl (hb hby at_41) rfl (tlt (by decide : (2 : Int32) < (3 : Int32))).1 (by decide) (by decide) ?_
      show Steps p.tables e below (T102.setTop (mkF m 51 _ [])) _
      refine XS.aload X102.here hx rfl (hb hby at_51) rfl rfl ?_
      exact ht
    obtain ⟨cq111, kq111, q111a, q111b, q111c⟩ := isOf hZ (rfl : T102.heap = T102.heap) f108
    obtain ⟨_, _, ⟨T110, L110, k110, n110⟩, -, X110, ⟨Lc110, hQ110, l110, y110, z110⟩, st110⟩ := X102.virtualBack hx (y := (⟨"com/example/kindred_mesh/kindredmesh/peer/SearchTime", "newPeriod", "()V"⟩ : MethodName)) (z := (⟨"com/example/kindred_mesh/kindredmesh/peer/SearchTime", "newPeriod", "()V"⟩ : MethodName)) hown (mvT hZ (hw _ (List.mem_of_getElem? (i := 9) rfl))) (mvT hZ (hw _ (List.mem_of_getElem? (i := 10) rfl))) (notFace_of_selects (args := #[]) (mvT hZ (hw _ (List.mem_of_getElem? (i := 12) rfl)))) (mvT hZ (hw _ (List.mem_of_getElem? (i := 12) rfl))) (mvT hZ (hw _ (List.mem_of_getElem? (i := 11) rfl))) (by decide) (backOf (W := 0) (rmNp1 l Z _ hw [] b86 (2 : Int64) (((0 : Int64) + q1) + q2) 0 T102.heap n0 Z109 f108 f104 f105 f106 g87 (by decide) (own_nn _ (by decide))) hZ (hw _ (List.mem_of_getElem? (i := 13) rfl)) (hw _ (List.mem_of_getElem? (i := 2) rfl)) (by decide) (by decide)) q111a q111c (g := (mkF m 53 #[.val (.int p0), .val (.long q1), .second, .val (.long q2), .second, .val (.long q3), .second, .val (.long q4), .second, .val (.int (2 : Int32)), .val (.ref b86), .unset, .unset, .unset, .unset] [(.ref b86)])) rfl (by rw [hml]; rfl) (Steps.refl _) (argsL := []) (rest := []) (lenOf pd_0 rfl) rfl (by show 2 * 0 + _ ≤ _; exact Nat.le_of_eq rfl) (hb hby at_53) (fun _ _ => ⟨rfl, (rfl : T102.heap = T102.heap), (by decide : 1 + 0 ≤ _), (by decide : 3 + 0 ≤ _)⟩)
    dsimp only [Pt.U, Pt.locs, Pt.cells, Pt.slots] at X110 l110 y110 z110 st110 hQ110
    subst l110 y110 z110
    obtain ⟨rfl, Nq110, Kq110, f112, f113, f114⟩ := hQ110
    have N115 := Fr.app N107 Nq110
    have f116 := (f108.keep Kq110)
    have Z117 : n0 ≤ T110.heap.size := (Nat.le_trans Z109 Kq110.1)
    refine OFin.to (S' := T110.setTop (mkF m 56 #[.val (.int p0), .val (.long q1), .second, .val (.long q2), .second, .val (.long q3), .second, .val (.long q4), .second, .val (.int (2 : Int32)), .val (.ref b86), .unset, .unset, .unset, .unset] [])) st110 ?_
    refine OFin.of (S' := T110.setTop (mkF m 114 #[.val (.int p0), .val (.long q1), .second, .val (.long q2), .second, .val (.long q3), .second, .val (.long q4), .second, .val (.int (2 : Int32)), .val (.ref b86), .val (.double (FP.ddiv (FP.l2d (q1 + q2)) (4611686018427387904 : UInt64))), .second, .unset, .unset] [(.ref b86)])) (fun t ht => ?_) ?_
    · refine XS.iload X110.here hx rfl (hb hby at_56) rfl ?_
      show Steps p.tables e below (T110.setTop (mkF m 58 _ [(.int (2 : Int32))])) _
      refine XS.ifYes X110.here hx rfl (pc0 := 58) (pc' := 67) rfl (hb hby at_58) rfl ((if0 _ _).trans (feq (by decide : ¬ ((2 : Int32) = (0 : Int32)))).2) (by decide) (by decide) ?_
      show Steps p.tables e below (T110.setTop (mkF m 67 _ [])) _
      refine XS.iload X110.here hx rfl (hb hby at_67) rfl ?_
      show Steps p.tables e below (T110.setTop (mkF m 69 _ [(.int (2 : Int32))])) _
      refine XS.iconst X110.here hx rfl (hb hby at_69) ?_
      show Steps p.tables e below (T110.setTop (mkF m 70 _ [(.int (1 : Int32)), (.int (2 : Int32))])) _
      refine XS.icmpYes X110.here hx rfl (pc0 := 70) (pc' := 80) rfl (hb hby at_70) rfl (feq (by decide : ¬ ((2 : Int32) = (1 : Int32)))).2 (by decide) (by decide) ?_
      show Steps p.tables e below (T110.setTop (mkF m 80 _ [])) _
      refine XS.iload X110.here hx rfl (hb hby at_80) rfl ?_
      show Steps p.tables e below (T110.setTop (mkF m 82 _ [(.int (2 : Int32))])) _
      refine XS.iconst X110.here hx rfl (hb hby at_82) ?_
      show Steps p.tables e below (T110.setTop (mkF m 83 _ [(.int (2 : Int32)), (.int (2 : Int32))])) _
      refine XS.icmpNo X110.here hx rfl (hb hby at_83) rfl (teq (by decide : (2 : Int32) = (2 : Int32))).2 ?_
      show Steps p.tables e below (T110.setTop (mkF m 86 _ [])) _
      refine XS.lloadN X110.here hx rfl (hb hby at_86) rfl ?_
      show Steps p.tables e below (T110.setTop (mkF m 87 _ [(.long q1)])) _
      refine XS.lloadN X110.here hx rfl (hb hby at_87) rfl ?_
      show Steps p.tables e below (T110.setTop (mkF m 88 _ [(.long q2), (.long q1)])) _
      refine XS.ladd X110.here hx rfl (hb hby at_88) rfl ?_
      show Steps p.tables e below (T110.setTop (mkF m 89 _ [(.long (q1 + q2))])) _
      refine XS.l2dS X110.here hx rfl (hb hby at_89) rfl rfl ?_
      show Steps p.tables e below (T110.setTop (mkF m 90 _ [(.double (FP.l2d (q1 + q2)))])) _
      refine X110.ldc2DoubleC hx hown (mvT hZ (hw _ (List.mem_of_getElem? (i := 30) rfl))) (g := (mkF m 90 #[.val (.int p0), .val (.long q1), .second, .val (.long q2), .second, .val (.long q3), .second, .val (.long q4), .second, .val (.int (2 : Int32)), .val (.ref b86), .unset, .unset, .unset, .unset] [(.double (FP.l2d (q1 + q2)))])) rfl (hb hby at_90) _ ?_
      show Steps p.tables e below (T110.setTop (mkF m 93 _ [(.double (4611686018427387904 : UInt64)), (.double (FP.l2d (q1 + q2)))])) _
      refine XS.ddivS X110.here hx rfl (hb hby at_93) rfl (own_nn2 _) rfl ?_
      show Steps p.tables e below (T110.setTop (mkF m 94 _ [(.double (FP.ddiv (FP.l2d (q1 + q2)) (4611686018427387904 : UInt64)))])) _
      refine XS.dstore X110.here hx rfl (hb hby at_94) rfl (l' := #[.val (.int p0), .val (.long q1), .second, .val (.long q2), .second, .val (.long q3), .second, .val (.long q4), .second, .val (.int (2 : Int32)), .val (.ref b86), .val (.double (FP.ddiv (FP.l2d (q1 + q2)) (4611686018427387904 : UInt64))), .second, .unset, .unset]) rfl ?_
      show Steps p.tables e below (T110.setTop (mkF m 96 #[.val (.int p0), .val (.long q1), .second, .val (.long q2), .second, .val (.long q3), .second, .val (.long q4), .second, .val (.int (2 : Int32)), .val (.ref b86), .val (.double (FP.ddiv (FP.l2d (q1 + q2)) (4611686018427387904 : UInt64))), .second, .unset, .unset] [])) _
      refine XS.goto X110.here hx rfl (pc0 := 96) (pc' := 112) rfl (hb hby at_96) (by decide) (by decide) ?_
      show Steps p.tables e below (T110.setTop (mkF m 112 _ [])) _
      refine XS.aload X110.here hx rfl (hb hby at_112) rfl rfl ?_
      exact ht
    obtain ⟨cq119, kq119, q119a, q119b, q119c⟩ := isOf hZ (rfl : T110.heap = T110.heap) f116
    obtain ⟨_, _, ⟨T118, L118, k118, n118⟩, -, X118, ⟨Lc118, hQ118, l118, y118, z118⟩, st118⟩ := X110.virtualBack hx (y := (⟨"com/example/kindred_mesh/kindredmesh/peer/SearchTime", "lastMean", "()D"⟩ : MethodName)) (z := (⟨"com/example/kindred_mesh/kindredmesh/peer/SearchTime", "lastMean", "()D"⟩ : MethodName)) hown (mvT hZ (hw _ (List.mem_of_getElem? (i := 20) rfl))) (mvT hZ (hw _ (List.mem_of_getElem? (i := 21) rfl))) (notFace_of_selects (args := #[]) (mvT hZ (hw _ (List.mem_of_getElem? (i := 23) rfl)))) (mvT hZ (hw _ (List.mem_of_getElem? (i := 23) rfl))) (mvT hZ (hw _ (List.mem_of_getElem? (i := 22) rfl))) (by decide) (backOf (W := 0) (rmLm l Z _ hw [] b86 (FP.ddiv (FP.l2d (((0 : Int64) + q1) + q2)) (FP.l2d (2 : Int64))) T110.heap n0 Z117 f114) hZ (hw _ (List.mem_of_getElem? (i := 24) rfl)) (hw _ (List.mem_of_getElem? (i := 2) rfl)) (by decide) (by decide)) q119a q119c (g := (mkF m 114 #[.val (.int p0), .val (.long q1), .second, .val (.long q2), .second, .val (.long q3), .second, .val (.long q4), .second, .val (.int (2 : Int32)), .val (.ref b86), .val (.double (FP.ddiv (FP.l2d (q1 + q2)) (4611686018427387904 : UInt64))), .second, .unset, .unset] [(.ref b86)])) rfl (by rw [hml]; rfl) (Steps.refl _) (argsL := []) (rest := []) (lenOf pd_1 rfl) rfl (by show 2 * 0 + _ ≤ _; exact Nat.le_of_eq rfl) (hb hby at_114) (fun _ _ => ⟨rfl, (rfl : T110.heap = T110.heap), (by decide : 1 + 0 ≤ _), (by decide : 3 + 0 ≤ _)⟩)
    dsimp only [Pt.U, Pt.locs, Pt.cells, Pt.slots] at X118 l118 y118 z118 st118 hQ118
    subst l118 y118 z118
    obtain ⟨rfl, Nq118, hs118⟩ := hQ118
    have N120 := Fr.app N115 Nq118
    refine OFin.to (S' := T118.setTop (mkF m 117 #[.val (.int p0), .val (.long q1), .second, .val (.long q2), .second, .val (.long q3), .second, .val (.long q4), .second, .val (.int (2 : Int32)), .val (.ref b86), .val (.double (FP.ddiv (FP.l2d (q1 + q2)) (4611686018427387904 : UInt64))), .second, .unset, .unset] [(.double (FP.ddiv (FP.l2d (((0 : Int64) + q1) + q2)) (FP.l2d (2 : Int64))))])) st118 ?_
    refine OFin.of (S' := T118.setTop (mkF m 134 #[.val (.int p0), .val (.long q1), .second, .val (.long q2), .second, .val (.long q3), .second, .val (.long q4), .second, .val (.int (2 : Int32)), .val (.ref b86), .val (.double (FP.ddiv (FP.l2d (q1 + q2)) (4611686018427387904 : UInt64))), .second, .val (.int (1 : Int32)), .unset] [(.long q4), (.ref b86)])) (fun t ht => ?_) ?_
    · refine XS.dload X118.here hx rfl (hb hby at_117) rfl ?_
      show Steps p.tables e below (T118.setTop (mkF m 119 _ [(.double (FP.ddiv (FP.l2d (q1 + q2)) (4611686018427387904 : UInt64))), (.double (FP.ddiv (FP.l2d (((0 : Int64) + q1) + q2)) (FP.l2d (2 : Int64))))])) _
      refine XS.dcmpS X118.here hx rfl (hb hby at_119) rfl rfl ?_
      show Steps p.tables e below (T118.setTop (mkF m 120 _ [(.int (cmpValue (FP.dcmp (FP.ddiv (FP.l2d (((0 : Int64) + q1) + q2)) (FP.l2d (2 : Int64))) (FP.ddiv (FP.l2d (q1 + q2)) (4611686018427387904 : UInt64))) .l))])) _
      refine XS.ifNo X118.here hx rfl (hb hby at_120) rfl ((if0 _ _).trans (teq (dcmpV_eq (own_div2 _ _) (own_nn _ (by decide)) .l : (cmpValue (FP.dcmp (FP.ddiv (FP.l2d (((0 : Int64) + q1) + q2)) (FP.l2d (2 : Int64))) (FP.ddiv (FP.l2d (q1 + q2)) (4611686018427387904 : UInt64))) .l) = (0 : Int32))).2) ?_
      show Steps p.tables e below (T118.setTop (mkF m 123 _ [])) _
      refine XS.iconst X118.here hx rfl (hb hby at_123) ?_
      show Steps p.tables e below (T118.setTop (mkF m 124 _ [(.int (1 : Int32))])) _
      refine XS.goto X118.here hx rfl (pc0 := 124) (pc' := 128) rfl (hb hby at_124) (by decide) (by decide) ?_
      show Steps p.tables e below (T118.setTop (mkF m 128 _ [(.int (1 : Int32))])) _
      refine XS.istore X118.here hx rfl (hb hby at_128) rfl (l' := #[.val (.int p0), .val (.long q1), .second, .val (.long q2), .second, .val (.long q3), .second, .val (.long q4), .second, .val (.int (2 : Int32)), .val (.ref b86), .val (.double (FP.ddiv (FP.l2d (q1 + q2)) (4611686018427387904 : UInt64))), .second, .val (.int (1 : Int32)), .unset]) rfl ?_
      show Steps p.tables e below (T118.setTop (mkF m 130 #[.val (.int p0), .val (.long q1), .second, .val (.long q2), .second, .val (.long q3), .second, .val (.long q4), .second, .val (.int (2 : Int32)), .val (.ref b86), .val (.double (FP.ddiv (FP.l2d (q1 + q2)) (4611686018427387904 : UInt64))), .second, .val (.int (1 : Int32)), .unset] [])) _
      refine XS.aload X118.here hx rfl (hb hby at_130) rfl rfl ?_
      show Steps p.tables e below (T118.setTop (mkF m 132 _ [(.ref b86)])) _
      refine XS.lload X118.here hx rfl (hb hby at_132) rfl ?_
      exact ht
    obtain ⟨cq122, kq122, q122a, q122b, q122c⟩ := isOf hZ hs118 f116
    obtain ⟨_, _, ⟨T121, L121, k121, n121⟩, -, X121, ⟨Lc121, hQ121, l121, y121, z121⟩, st121⟩ := X118.virtualBack hx (y := (⟨"com/example/kindred_mesh/kindredmesh/peer/SearchTime", "served", "(J)V"⟩ : MethodName)) (z := (⟨"com/example/kindred_mesh/kindredmesh/peer/SearchTime", "served", "(J)V"⟩ : MethodName)) hown (mvT hZ (hw _ (List.mem_of_getElem? (i := 25) rfl))) (mvT hZ (hw _ (List.mem_of_getElem? (i := 26) rfl))) (notFace_of_selects (args := #[]) (mvT hZ (hw _ (List.mem_of_getElem? (i := 28) rfl)))) (mvT hZ (hw _ (List.mem_of_getElem? (i := 28) rfl))) (mvT hZ (hw _ (List.mem_of_getElem? (i := 27) rfl))) (by decide) (backOf (W := 0) (rmSv l Z _ hw [] b86 q4 (0 : Int64) (0 : Int64) (FP.ddiv (FP.l2d (((0 : Int64) + q1) + q2)) (FP.l2d (2 : Int64))) T110.heap n0 Z117 f116 f112 f113 f114 g87) hZ (hw _ (List.mem_of_getElem? (i := 29) rfl)) (hw _ (List.mem_of_getElem? (i := 2) rfl)) (by decide) (by decide)) q122a q122c (g := (mkF m 134 #[.val (.int p0), .val (.long q1), .second, .val (.long q2), .second, .val (.long q3), .second, .val (.long q4), .second, .val (.int (2 : Int32)), .val (.ref b86), .val (.double (FP.ddiv (FP.l2d (q1 + q2)) (4611686018427387904 : UInt64))), .second, .val (.int (1 : Int32)), .unset] [(.long q4), (.ref b86)])) rfl (by rw [hml]; rfl) (Steps.refl _) (argsL := [(.long q4)]) (rest := []) (lenOf pd_2 rfl) rfl (by show 2 * 0 + _ ≤ _; exact Nat.le_of_eq rfl) (hb hby at_134) (fun _ _ => ⟨rfl, hs118, (by decide : 1 + 0 ≤ _), (by decide : 3 + 0 ≤ _)⟩)
    dsimp only [Pt.U, Pt.locs, Pt.cells, Pt.slots] at X121 l121 y121 z121 st121 hQ121
    subst l121 y121 z121
    obtain ⟨rfl, Nq121, Kq121, f123, f124, f125⟩ := hQ121
    have N126 := Fr.app N120 Nq121
    have f127 := (f116.keep Kq121)
    have Z128 : n0 ≤ T121.heap.size := (Nat.le_trans Z117 Kq121.1)
    refine OFin.to (S' := T121.setTop (mkF m 137 #[.val (.int p0), .val (.long q1), .second, .val (.long q2), .second, .val (.long q3), .second, .val (.long q4), .second, .val (.int (2 : Int32)), .val (.ref b86), .val (.double (FP.ddiv (FP.l2d (q1 + q2)) (4611686018427387904 : UInt64))), .second, .val (.int (1 : Int32)), .unset] [])) st121 ?_
    refine OFin.of (S' := T121.setTop (mkF m 139 #[.val (.int p0), .val (.long q1), .second, .val (.long q2), .second, .val (.long q3), .second, .val (.long q4), .second, .val (.int (2 : Int32)), .val (.ref b86), .val (.double (FP.ddiv (FP.l2d (q1 + q2)) (4611686018427387904 : UInt64))), .second, .val (.int (1 : Int32)), .unset] [(.ref b86)])) (fun t ht => ?_) ?_
    · refine XS.aload X121.here hx rfl (hb hby at_137) rfl rfl ?_
      exact ht
    obtain ⟨cq130, kq130, q130a, q130b, q130c⟩ := isOf hZ (rfl : T121.heap = T121.heap) f127
    obtain ⟨_, _, ⟨T129, L129, k129, n129⟩, -, X129, ⟨Lc129, hQ129, l129, y129, z129⟩, st129⟩ := X121.virtualBack hx (y := (⟨"com/example/kindred_mesh/kindredmesh/peer/SearchTime", "newPeriod", "()V"⟩ : MethodName)) (z := (⟨"com/example/kindred_mesh/kindredmesh/peer/SearchTime", "newPeriod", "()V"⟩ : MethodName)) hown (mvT hZ (hw _ (List.mem_of_getElem? (i := 9) rfl))) (mvT hZ (hw _ (List.mem_of_getElem? (i := 10) rfl))) (notFace_of_selects (args := #[]) (mvT hZ (hw _ (List.mem_of_getElem? (i := 12) rfl)))) (mvT hZ (hw _ (List.mem_of_getElem? (i := 12) rfl))) (mvT hZ (hw _ (List.mem_of_getElem? (i := 11) rfl))) (by decide) (backOf (W := 0) (rmNp1 l Z _ hw [] b86 (1 : Int64) ((0 : Int64) + q4) (FP.ddiv (FP.l2d (((0 : Int64) + q1) + q2)) (FP.l2d (2 : Int64))) T121.heap n0 Z128 f127 f123 f124 f125 g87 (by decide) (own_nn _ (by decide))) hZ (hw _ (List.mem_of_getElem? (i := 13) rfl)) (hw _ (List.mem_of_getElem? (i := 2) rfl)) (by decide) (by decide)) q130a q130c (g := (mkF m 139 #[.val (.int p0), .val (.long q1), .second, .val (.long q2), .second, .val (.long q3), .second, .val (.long q4), .second, .val (.int (2 : Int32)), .val (.ref b86), .val (.double (FP.ddiv (FP.l2d (q1 + q2)) (4611686018427387904 : UInt64))), .second, .val (.int (1 : Int32)), .unset] [(.ref b86)])) rfl (by rw [hml]; rfl) (Steps.refl _) (argsL := []) (rest := []) (lenOf pd_0 rfl) rfl (by show 2 * 0 + _ ≤ _; exact Nat.le_of_eq rfl) (hb hby at_139) (fun _ _ => ⟨rfl, (rfl : T121.heap = T121.heap), (by decide : 1 + 0 ≤ _), (by decide : 3 + 0 ≤ _)⟩)
    dsimp only [Pt.U, Pt.locs, Pt.cells, Pt.slots] at X129 l129 y129 z129 st129 hQ129
    subst l129 y129 z129
    obtain ⟨rfl, Nq129, Kq129, f131, f132, f133⟩ := hQ129
    have N134 := Fr.app N126 Nq129
    have f135 := (f127.keep Kq129)
    have Z136 : n0 ≤ T129.heap.size := (Nat.le_trans Z128 Kq129.1)
    refine OFin.to (S' := T129.setTop (mkF m 142 #[.val (.int p0), .val (.long q1), .second, .val (.long q2), .second, .val (.long q3), .second, .val (.long q4), .second, .val (.int (2 : Int32)), .val (.ref b86), .val (.double (FP.ddiv (FP.l2d (q1 + q2)) (4611686018427387904 : UInt64))), .second, .val (.int (1 : Int32)), .unset] [])) st129 ?_
    refine OFin.of (S' := T129.setTop (mkF m 144 #[.val (.int p0), .val (.long q1), .second, .val (.long q2), .second, .val (.long q3), .second, .val (.long q4), .second, .val (.int (2 : Int32)), .val (.ref b86), .val (.double (FP.ddiv (FP.l2d (q1 + q2)) (4611686018427387904 : UInt64))), .second, .val (.int (1 : Int32)), .unset] [(.ref b86)])) (fun t ht => ?_) ?_
    · refine XS.aload X129.here hx rfl (hb hby at_142) rfl rfl ?_
      exact ht
    obtain ⟨cq138, kq138, q138a, q138b, q138c⟩ := isOf hZ (rfl : T129.heap = T129.heap) f135
    obtain ⟨_, _, ⟨T137, L137, k137, n137⟩, -, X137, ⟨Lc137, hQ137, l137, y137, z137⟩, st137⟩ := X129.virtualBack hx (y := (⟨"com/example/kindred_mesh/kindredmesh/peer/SearchTime", "lastMean", "()D"⟩ : MethodName)) (z := (⟨"com/example/kindred_mesh/kindredmesh/peer/SearchTime", "lastMean", "()D"⟩ : MethodName)) hown (mvT hZ (hw _ (List.mem_of_getElem? (i := 20) rfl))) (mvT hZ (hw _ (List.mem_of_getElem? (i := 21) rfl))) (notFace_of_selects (args := #[]) (mvT hZ (hw _ (List.mem_of_getElem? (i := 23) rfl)))) (mvT hZ (hw _ (List.mem_of_getElem? (i := 23) rfl))) (mvT hZ (hw _ (List.mem_of_getElem? (i := 22) rfl))) (by decide) (backOf (W := 0) (rmLm l Z _ hw [] b86 (FP.ddiv (FP.l2d ((0 : Int64) + q4)) (FP.l2d (1 : Int64))) T129.heap n0 Z136 f133) hZ (hw _ (List.mem_of_getElem? (i := 24) rfl)) (hw _ (List.mem_of_getElem? (i := 2) rfl)) (by decide) (by decide)) q138a q138c (g := (mkF m 144 #[.val (.int p0), .val (.long q1), .second, .val (.long q2), .second, .val (.long q3), .second, .val (.long q4), .second, .val (.int (2 : Int32)), .val (.ref b86), .val (.double (FP.ddiv (FP.l2d (q1 + q2)) (4611686018427387904 : UInt64))), .second, .val (.int (1 : Int32)), .unset] [(.ref b86)])) rfl (by rw [hml]; rfl) (Steps.refl _) (argsL := []) (rest := []) (lenOf pd_1 rfl) rfl (by show 2 * 0 + _ ≤ _; exact Nat.le_of_eq rfl) (hb hby at_144) (fun _ _ => ⟨rfl, (rfl : T129.heap = T129.heap), (by decide : 1 + 0 ≤ _), (by decide : 3 + 0 ≤ _)⟩)
    dsimp only [Pt.U, Pt.locs, Pt.cells, Pt.slots] at X137 l137 y137 z137 st137 hQ137
    subst l137 y137 z137
    obtain ⟨rfl, Nq137, hs137⟩ := hQ137
    have N139 := Fr.app N134 Nq137
    refine OFin.to (S' := T137.setTop (mkF m 147 #[.val (.int p0), .val (.long q1), .second, .val (.long q2), .second, .val (.long q3), .second, .val (.long q4), .second, .val (.int (2 : Int32)), .val (.ref b86), .val (.double (FP.ddiv (FP.l2d (q1 + q2)) (4611686018427387904 : UInt64))), .second, .val (.int (1 : Int32)), .unset] [(.double (FP.ddiv (FP.l2d ((0 : Int64) + q4)) (FP.l2d (1 : Int64))))])) st137 ?_
    refine OFin.of (S' := T137.setTop (mkF m 176 #[.val (.int p0), .val (.long q1), .second, .val (.long q2), .second, .val (.long q3), .second, .val (.long q4), .second, .val (.int (2 : Int32)), .val (.ref b86), .val (.double (FP.ddiv (FP.l2d (q1 + q2)) (4611686018427387904 : UInt64))), .second, .val (.int (1 : Int32)), .val (.int (1 : Int32))] [(.int (1 : Int32))])) (fun t ht => ?_) ?_
    · refine XS.lload X137.here hx rfl (hb hby at_147) rfl ?_
      show Steps p.tables e below (T137.setTop (mkF m 149 _ [(.long q4), (.double (FP.ddiv (FP.l2d ((0 : Int64) + q4)) (FP.l2d (1 : Int64))))])) _
      refine XS.l2dS X137.here hx rfl (hb hby at_149) rfl rfl ?_
      show Steps p.tables e below (T137.setTop (mkF m 150 _ [(.double (FP.l2d q4)), (.double (FP.ddiv (FP.l2d ((0 : Int64) + q4)) (FP.l2d (1 : Int64))))])) _
      refine XS.dcmpS X137.here hx rfl (hb hby at_150) rfl rfl ?_
      show Steps p.tables e below (T137.setTop (mkF m 151 _ [(.int (cmpValue (FP.dcmp (FP.ddiv (FP.l2d ((0 : Int64) + q4)) (FP.l2d (1 : Int64))) (FP.l2d q4)) .l))])) _
      refine XS.ifNo X137.here hx rfl (hb hby at_151) rfl ((if0 _ _).trans (teq (dcmpV_eq (own_div1 _) (own_nn _ (by decide)) .l : (cmpValue (FP.dcmp (FP.ddiv (FP.l2d ((0 : Int64) + q4)) (FP.l2d (1 : Int64))) (FP.l2d q4)) .l) = (0 : Int32))).2) ?_
      show Steps p.tables e below (T137.setTop (mkF m 154 _ [])) _
      refine XS.iconst X137.here hx rfl (hb hby at_154) ?_
      show Steps p.tables e below (T137.setTop (mkF m 155 _ [(.int (1 : Int32))])) _
      refine XS.goto X137.here hx rfl (pc0 := 155) (pc' := 159) rfl (hb hby at_155) (by decide) (by decide) ?_
      show Steps p.tables e below (T137.setTop (mkF m 159 _ [(.int (1 : Int32))])) _
      refine XS.istore X137.here hx rfl (hb hby at_159) rfl (l' := #[.val (.int p0), .val (.long q1), .second, .val (.long q2), .second, .val (.long q3), .second, .val (.long q4), .second, .val (.int (2 : Int32)), .val (.ref b86), .val (.double (FP.ddiv (FP.l2d (q1 + q2)) (4611686018427387904 : UInt64))), .second, .val (.int (1 : Int32)), .val (.int (1 : Int32))]) rfl ?_
      show Steps p.tables e below (T137.setTop (mkF m 161 #[.val (.int p0), .val (.long q1), .second, .val (.long q2), .second, .val (.long q3), .second, .val (.long q4), .second, .val (.int (2 : Int32)), .val (.ref b86), .val (.double (FP.ddiv (FP.l2d (q1 + q2)) (4611686018427387904 : UInt64))), .second, .val (.int (1 : Int32)), .val (.int (1 : Int32))] [])) _
      refine XS.iload X137.here hx rfl (hb hby at_161) rfl ?_
      show Steps p.tables e below (T137.setTop (mkF m 163 _ [(.int (1 : Int32))])) _
      refine XS.ifNo X137.here hx rfl (hb hby at_163) rfl ((if0 _ _).trans (feq (by decide : ¬ ((1 : Int32) = (0 : Int32)))).1) ?_
      show Steps p.tables e below (T137.setTop (mkF m 166 _ [])) _
      refine XS.iload X137.here hx rfl (hb hby at_166) rfl ?_
      show Steps p.tables e below (T137.setTop (mkF m 168 _ [(.int (1 : Int32))])) _
      refine XS.ifNo X137.here hx rfl (hb hby at_168) rfl ((if0 _ _).trans (feq (by decide : ¬ ((1 : Int32) = (0 : Int32)))).1) ?_
      show Steps p.tables e below (T137.setTop (mkF m 171 _ [])) _
      refine XS.iconst X137.here hx rfl (hb hby at_171) ?_
      show Steps p.tables e below (T137.setTop (mkF m 172 _ [(.int (1 : Int32))])) _
      refine XS.goto X137.here hx rfl (pc0 := 172) (pc' := 176) rfl (hb hby at_172) (by decide) (by decide) ?_
      exact ht
    exact OFin.retB X137 hx hlk (t := .boolean) (by simp) hret (hb hby at_176) (by decide) (by decide) (by rw [hs137]; exact ⟨rfl, N139⟩)
  · rw [hq1]
    refine OFin.of (S' := s₁.setTop (mkF m 5 #[.val (.int p0), .val (.long q1), .second, .val (.long q2), .second, .val (.long q3), .second, .val (.long q4), .second, .val (.int (3 : Int32)), .unset, .unset, .unset, .unset, .unset] [])) (fun t ht => ?_) ?_
    · refine XS.istore X0.here hx rfl (hb hby at_3) rfl (l' := #[.val (.int p0), .val (.long q1), .second, .val (.long q2), .second, .val (.long q3), .second, .val (.long q4), .second, .val (.int (3 : Int32)), .unset, .unset, .unset, .unset, .unset]) rfl ?_
      exact ht
    obtain ⟨T140, h140, X140, e140, E140, A140, D140, -, st140⟩ := newO X0 hx hZ hown (hw _ (List.mem_of_getElem? (i := 0) rfl)) (hw _ (List.mem_of_getElem? (i := 1) rfl)) (hw _ (List.mem_of_getElem? (i := 2) rfl)) e0 (g := (mkF m 5 #[.val (.int p0), .val (.long q1), .second, .val (.long q2), .second, .val (.long q3), .second, .val (.long q4), .second, .val (.int (3 : Int32)), .unset, .unset, .unset, .unset, .unset] [])) rfl (hb hby at_5) (by decide) (by decide)
    obtain ⟨b140, gq140⟩ : ∃ z, z = h0.size := ⟨_, rfl⟩
    rw [← gq140] at A140 D140 st140
    have g141 : n0 ≤ b140 := (Nat.le_trans Z0 (Nat.le_of_eq gq140.symm))
    have Z142 : n0 ≤ h140.size := (Nat.le_trans Z0 E140.1)
    have f143 : Fld Z h140 b140 "com/example/kindred_mesh/kindredmesh/peer/SearchTime" "served" "J" (.long (0 : Int64)) := D140 (Or.inl (hw _ (List.mem_of_getElem? (i := 15) rfl))) (ty := .long) (by decide)
    have f144 : Fld Z h140 b140 "com/example/kindred_mesh/kindredmesh/peer/SearchTime" "lastMean" "D" (.double 0) := D140 (Or.inl (hw _ (List.mem_of_getElem? (i := 17) rfl))) (ty := .double) (by decide)
    have f145 : Fld Z h140 b140 "com/example/kindred_mesh/kindredmesh/peer/SearchTime" "total" "J" (.long (0 : Int64)) := D140 (Or.inl (hw _ (List.mem_of_getElem? (i := 19) rfl))) (ty := .long) (by decide)
    refine OFin.of (S' := T140.setTop (mkF m 8 #[.val (.int p0), .val (.long q1), .second, .val (.long q2), .second, .val (.long q3), .second, .val (.long q4), .second, .val (.int (3 : Int32)), .unset, .unset, .unset, .unset, .unset] [(.ref b140)])) (fun t ht => st140 t ht) ?_
    refine OFin.of (S' := T140.setTop (mkF m 9 #[.val (.int p0), .val (.long q1), .second, .val (.long q2), .second, .val (.long q3), .second, .val (.long q4), .second, .val (.int (3 : Int32)), .unset, .unset, .unset, .unset, .unset] [(.ref b140), (.ref b140)])) (fun t ht => ?_) ?_
    · refine XS.dup X140.here hx rfl (hb hby at_8) rfl rfl ?_
      exact ht
    obtain ⟨_, _, ⟨T146, L146, k146, n146⟩, -, X146, ⟨Lc146, hQ146, l146, y146, z146⟩, st146⟩ := X140.specialBack hx (y := (⟨"com/example/kindred_mesh/kindredmesh/peer/SearchTime", "<init>", "()V"⟩ : MethodName)) rfl hown (mvT hZ (hw _ (List.mem_of_getElem? (i := 3) rfl))) (mvT hZ (hw _ (List.mem_of_getElem? (i := 4) rfl))) (mvT hZ (hw _ (List.mem_of_getElem? (i := 5) rfl))) (by decide) (backOf (W := 1) (rmIni l Z _ hw [] b140 h140 n0 Z142 ) hZ (hw _ (List.mem_of_getElem? (i := 5) rfl)) (hw _ (List.mem_of_getElem? (i := 2) rfl)) (by decide) (by decide)) (g := (mkF m 9 #[.val (.int p0), .val (.long q1), .second, .val (.long q2), .second, .val (.long q3), .second, .val (.long q4), .second, .val (.int (3 : Int32)), .unset, .unset, .unset, .unset, .unset] [(.ref b140), (.ref b140)])) rfl (by rw [hml]; rfl) (Steps.refl _) (a := b140) (argsL := []) (rest := [(.ref b140)]) (lenOf pd_0 rfl) rfl (by show 2 * 0 + _ ≤ _; exact Nat.le_of_eq rfl) (hb hby at_9) (fun _ _ => ⟨rfl, e140, (by decide : 1 + 0 ≤ _), (by decide : 3 + 0 ≤ _)⟩)
    dsimp only [Pt.U, Pt.locs, Pt.cells, Pt.slots] at X146 l146 y146 z146 st146 hQ146
    subst l146 y146 z146
    obtain ⟨rfl, Nq146, hs146⟩ := hQ146
    have N147 := Fr.app N0 Nq146
    refine OFin.to (S' := T146.setTop (mkF m 12 #[.val (.int p0), .val (.long q1), .second, .val (.long q2), .second, .val (.long q3), .second, .val (.long q4), .second, .val (.int (3 : Int32)), .unset, .unset, .unset, .unset, .unset] [(.ref b140)])) st146 ?_
    refine OFin.of (S' := T146.setTop (mkF m 23 #[.val (.int p0), .val (.long q1), .second, .val (.long q2), .second, .val (.long q3), .second, .val (.long q4), .second, .val (.int (3 : Int32)), .val (.ref b140), .unset, .unset, .unset, .unset] [(.long q1), (.ref b140)])) (fun t ht => ?_) ?_
    · refine XS.astore X146.here hx rfl (hb hby at_12) rfl rfl (l' := #[.val (.int p0), .val (.long q1), .second, .val (.long q2), .second, .val (.long q3), .second, .val (.long q4), .second, .val (.int (3 : Int32)), .val (.ref b140), .unset, .unset, .unset, .unset]) rfl ?_
      show Steps p.tables e below (T146.setTop (mkF m 14 #[.val (.int p0), .val (.long q1), .second, .val (.long q2), .second, .val (.long q3), .second, .val (.long q4), .second, .val (.int (3 : Int32)), .val (.ref b140), .unset, .unset, .unset, .unset] [])) _
      refine XS.iload X146.here hx rfl (hb hby at_14) rfl ?_
      show Steps p.tables e below (T146.setTop (mkF m 16 _ [(.int (3 : Int32))])) _
      refine XS.iconst X146.here hx rfl (hb hby at_16) ?_
      show Steps p.tables e below (T146.setTop (mkF m 17 _ [(.int (1 : Int32)), (.int (3 : Int32))])) _
      refine XS.icmpNo X146.here hx rfl (hb hby at_17) rfl (flt (by decide : ¬ ((3 : Int32) < (1 : Int32)))).1 ?_
      show Steps p.tables e below (T146.setTop (mkF m 20 _ [])) _
      refine XS.aload X146.here hx rfl (hb hby at_20) rfl rfl ?_
      show Steps p.tables e below (T146.setTop (mkF m 22 _ [(.ref b140)])) _
      refine XS.lloadN X146.here hx rfl (hb hby at_22) rfl ?_
      exact ht
    obtain ⟨cq149, kq149, q149a, q149b, q149c⟩ := isOf hZ hs146 A140
    obtain ⟨_, _, ⟨T148, L148, k148, n148⟩, -, X148, ⟨Lc148, hQ148, l148, y148, z148⟩, st148⟩ := X146.virtualBack hx (y := (⟨"com/example/kindred_mesh/kindredmesh/peer/SearchTime", "served", "(J)V"⟩ : MethodName)) (z := (⟨"com/example/kindred_mesh/kindredmesh/peer/SearchTime", "served", "(J)V"⟩ : MethodName)) hown (mvT hZ (hw _ (List.mem_of_getElem? (i := 25) rfl))) (mvT hZ (hw _ (List.mem_of_getElem? (i := 26) rfl))) (notFace_of_selects (args := #[]) (mvT hZ (hw _ (List.mem_of_getElem? (i := 28) rfl)))) (mvT hZ (hw _ (List.mem_of_getElem? (i := 28) rfl))) (mvT hZ (hw _ (List.mem_of_getElem? (i := 27) rfl))) (by decide) (backOf (W := 0) (rmSv l Z _ hw [] b140 q1 (0 : Int64) (0 : Int64) 0 h140 n0 Z142 A140 f143 f145 f144 g141) hZ (hw _ (List.mem_of_getElem? (i := 29) rfl)) (hw _ (List.mem_of_getElem? (i := 2) rfl)) (by decide) (by decide)) q149a q149c (g := (mkF m 23 #[.val (.int p0), .val (.long q1), .second, .val (.long q2), .second, .val (.long q3), .second, .val (.long q4), .second, .val (.int (3 : Int32)), .val (.ref b140), .unset, .unset, .unset, .unset] [(.long q1), (.ref b140)])) rfl (by rw [hml]; rfl) (Steps.refl _) (argsL := [(.long q1)]) (rest := []) (lenOf pd_2 rfl) rfl (by show 2 * 0 + _ ≤ _; exact Nat.le_of_eq rfl) (hb hby at_23) (fun _ _ => ⟨rfl, hs146, (by decide : 1 + 0 ≤ _), (by decide : 3 + 0 ≤ _)⟩)
    dsimp only [Pt.U, Pt.locs, Pt.cells, Pt.slots] at X148 l148 y148 z148 st148 hQ148
    subst l148 y148 z148
    obtain ⟨rfl, Nq148, Kq148, f150, f151, f152⟩ := hQ148
    have N153 := Fr.app N147 Nq148
    have f154 := (A140.keep Kq148)
    have Z155 : n0 ≤ T148.heap.size := (Nat.le_trans Z142 Kq148.1)
    refine OFin.to (S' := T148.setTop (mkF m 26 #[.val (.int p0), .val (.long q1), .second, .val (.long q2), .second, .val (.long q3), .second, .val (.long q4), .second, .val (.int (3 : Int32)), .val (.ref b140), .unset, .unset, .unset, .unset] [])) st148 ?_
    refine OFin.of (S' := T148.setTop (mkF m 35 #[.val (.int p0), .val (.long q1), .second, .val (.long q2), .second, .val (.long q3), .second, .val (.long q4), .second, .val (.int (3 : Int32)), .val (.ref b140), .unset, .unset, .unset, .unset] [(.long q2), (.ref b140)])) (fun t ht => ?_) ?_
    · refine XS.iload X148.here hx rfl (hb hby at_26) rfl ?_
      show Steps p.tables e below (T148.setTop (mkF m 28 _ [(.int (3 : Int32))])) _
      refine XS.iconst X148.here hx rfl (hb hby at_28) ?_
      show Steps p.tables e below (T148.setTop (mkF m 29 _ [(.int (2 : Int32)), (.int (3 : Int32))])) _
      refine XS.icmpNo X148.here hx rfl (hb hby at_29) rfl (flt (by decide : ¬ ((3 : Int32) < (2 : Int32)))).1 ?_
      show Steps p.tables e below (T148.setTop (mkF m 32 _ [])) _
      refine XS.aload X148.here hx rfl (hb hby at_32) rfl rfl ?_
      show Steps p.tables e below (T148.setTop (mkF m 34 _ [(.ref b140)])) _
      refine XS.lloadN X148.here hx rfl (hb hby at_34) rfl ?_
      exact ht
    obtain ⟨cq157, kq157, q157a, q157b, q157c⟩ := isOf hZ (rfl : T148.heap = T148.heap) f154
    obtain ⟨_, _, ⟨T156, L156, k156, n156⟩, -, X156, ⟨Lc156, hQ156, l156, y156, z156⟩, st156⟩ := X148.virtualBack hx (y := (⟨"com/example/kindred_mesh/kindredmesh/peer/SearchTime", "served", "(J)V"⟩ : MethodName)) (z := (⟨"com/example/kindred_mesh/kindredmesh/peer/SearchTime", "served", "(J)V"⟩ : MethodName)) hown (mvT hZ (hw _ (List.mem_of_getElem? (i := 25) rfl))) (mvT hZ (hw _ (List.mem_of_getElem? (i := 26) rfl))) (notFace_of_selects (args := #[]) (mvT hZ (hw _ (List.mem_of_getElem? (i := 28) rfl)))) (mvT hZ (hw _ (List.mem_of_getElem? (i := 28) rfl))) (mvT hZ (hw _ (List.mem_of_getElem? (i := 27) rfl))) (by decide) (backOf (W := 0) (rmSv l Z _ hw [] b140 q2 (1 : Int64) ((0 : Int64) + q1) 0 T148.heap n0 Z155 f154 f150 f151 f152 g141) hZ (hw _ (List.mem_of_getElem? (i := 29) rfl)) (hw _ (List.mem_of_getElem? (i := 2) rfl)) (by decide) (by decide)) q157a q157c (g := (mkF m 35 #[.val (.int p0), .val (.long q1), .second, .val (.long q2), .second, .val (.long q3), .second, .val (.long q4), .second, .val (.int (3 : Int32)), .val (.ref b140), .unset, .unset, .unset, .unset] [(.long q2), (.ref b140)])) rfl (by rw [hml]; rfl) (Steps.refl _) (argsL := [(.long q2)]) (rest := []) (lenOf pd_2 rfl) rfl (by show 2 * 0 + _ ≤ _; exact Nat.le_of_eq rfl) (hb hby at_35) (fun _ _ => ⟨rfl, (rfl : T148.heap = T148.heap), (by decide : 1 + 0 ≤ _), (by decide : 3 + 0 ≤ _)⟩)
    dsimp only [Pt.U, Pt.locs, Pt.cells, Pt.slots] at X156 l156 y156 z156 st156 hQ156
    subst l156 y156 z156
    obtain ⟨rfl, Nq156, Kq156, f158, f159, f160⟩ := hQ156
    have N161 := Fr.app N153 Nq156
    have f162 := (f154.keep Kq156)
    have Z163 : n0 ≤ T156.heap.size := (Nat.le_trans Z155 Kq156.1)
    refine OFin.to (S' := T156.setTop (mkF m 38 #[.val (.int p0), .val (.long q1), .second, .val (.long q2), .second, .val (.long q3), .second, .val (.long q4), .second, .val (.int (3 : Int32)), .val (.ref b140), .unset, .unset, .unset, .unset] [])) st156 ?_
    refine OFin.of (S' := T156.setTop (mkF m 48 #[.val (.int p0), .val (.long q1), .second, .val (.long q2), .second, .val (.long q3), .second, .val (.long q4), .second, .val (.int (3 : Int32)), .val (.ref b140), .unset, .unset, .unset, .unset] [(.long q3), (.ref b140)])) (fun t ht => ?_) ?_
    · refine XS.iload X156.here hx rfl (hb hby at_38) rfl ?_
      show Steps p.tables e below (T156.setTop (mkF m 40 _ [(.int (3 : Int32))])) _
      refine XS.iconst X156.here hx rfl (hb hby at_40) ?_
      show Steps p.tables e below (T156.setTop (mkF m 41 _ [(.int (3 : Int32)), (.int (3 : Int32))])) _
      refine XS.icmpNo X156.here hx rfl (hb hby at_41) rfl (flt (by decide : ¬ ((3 : Int32) < (3 : Int32)))).1 ?_
      show Steps p.tables e below (T156.setTop (mkF m 44 _ [])) _
      refine XS.aload X156.here hx rfl (hb hby at_44) rfl rfl ?_
      show Steps p.tables e below (T156.setTop (mkF m 46 _ [(.ref b140)])) _
      refine XS.lload X156.here hx rfl (hb hby at_46) rfl ?_
      exact ht
    obtain ⟨cq165, kq165, q165a, q165b, q165c⟩ := isOf hZ (rfl : T156.heap = T156.heap) f162
    obtain ⟨_, _, ⟨T164, L164, k164, n164⟩, -, X164, ⟨Lc164, hQ164, l164, y164, z164⟩, st164⟩ := X156.virtualBack hx (y := (⟨"com/example/kindred_mesh/kindredmesh/peer/SearchTime", "served", "(J)V"⟩ : MethodName)) (z := (⟨"com/example/kindred_mesh/kindredmesh/peer/SearchTime", "served", "(J)V"⟩ : MethodName)) hown (mvT hZ (hw _ (List.mem_of_getElem? (i := 25) rfl))) (mvT hZ (hw _ (List.mem_of_getElem? (i := 26) rfl))) (notFace_of_selects (args := #[]) (mvT hZ (hw _ (List.mem_of_getElem? (i := 28) rfl)))) (mvT hZ (hw _ (List.mem_of_getElem? (i := 28) rfl))) (mvT hZ (hw _ (List.mem_of_getElem? (i := 27) rfl))) (by decide) (backOf (W := 0) (rmSv l Z _ hw [] b140 q3 (2 : Int64) (((0 : Int64) + q1) + q2) 0 T156.heap n0 Z163 f162 f158 f159 f160 g141) hZ (hw _ (List.mem_of_getElem? (i := 29) rfl)) (hw _ (List.mem_of_getElem? (i := 2) rfl)) (by decide) (by decide)) q165a q165c (g := (mkF m 48 #[.val (.int p0), .val (.long q1), .second, .val (.long q2), .second, .val (.long q3), .second, .val (.long q4), .second, .val (.int (3 : Int32)), .val (.ref b140), .unset, .unset, .unset, .unset] [(.long q3), (.ref b140)])) rfl (by rw [hml]; rfl) (Steps.refl _) (argsL := [(.long q3)]) (rest := []) (lenOf pd_2 rfl) rfl (by show 2 * 0 + _ ≤ _; exact Nat.le_of_eq rfl) (hb hby at_48) (fun _ _ => ⟨rfl, (rfl : T156.heap = T156.heap), (by decide : 1 + 0 ≤ _), (by decide : 3 + 0 ≤ _)⟩)
    dsimp only [Pt.U, Pt.locs, Pt.cells, Pt.slots] at X164 l164 y164 z164 st164 hQ164
    subst l164 y164 z164
    obtain ⟨rfl, Nq164, Kq164, f166, f167, f168⟩ := hQ164
    have N169 := Fr.app N161 Nq164
    have f170 := (f162.keep Kq164)
    have Z171 : n0 ≤ T164.heap.size := (Nat.le_trans Z163 Kq164.1)
    refine OFin.to (S' := T164.setTop (mkF m 51 #[.val (.int p0), .val (.long q1), .second, .val (.long q2), .second, .val (.long q3), .second, .val (.long q4), .second, .val (.int (3 : Int32)), .val (.ref b140), .unset, .unset, .unset, .unset] [])) st164 ?_
    refine OFin.of (S' := T164.setTop (mkF m 53 #[.val (.int p0), .val (.long q1), .second, .val (.long q2), .second, .val (.long q3), .second, .val (.long q4), .second, .val (.int (3 : Int32)), .val (.ref b140), .unset, .unset, .unset, .unset] [(.ref b140)])) (fun t ht => ?_) ?_
    · refine XS.aload X164.here hx rfl (hb hby at_51) rfl rfl ?_
      exact ht
    obtain ⟨cq173, kq173, q173a, q173b, q173c⟩ := isOf hZ (rfl : T164.heap = T164.heap) f170
    obtain ⟨_, _, ⟨T172, L172, k172, n172⟩, -, X172, ⟨Lc172, hQ172, l172, y172, z172⟩, st172⟩ := X164.virtualBack hx (y := (⟨"com/example/kindred_mesh/kindredmesh/peer/SearchTime", "newPeriod", "()V"⟩ : MethodName)) (z := (⟨"com/example/kindred_mesh/kindredmesh/peer/SearchTime", "newPeriod", "()V"⟩ : MethodName)) hown (mvT hZ (hw _ (List.mem_of_getElem? (i := 9) rfl))) (mvT hZ (hw _ (List.mem_of_getElem? (i := 10) rfl))) (notFace_of_selects (args := #[]) (mvT hZ (hw _ (List.mem_of_getElem? (i := 12) rfl)))) (mvT hZ (hw _ (List.mem_of_getElem? (i := 12) rfl))) (mvT hZ (hw _ (List.mem_of_getElem? (i := 11) rfl))) (by decide) (backOf (W := 0) (rmNp1 l Z _ hw [] b140 (3 : Int64) ((((0 : Int64) + q1) + q2) + q3) 0 T164.heap n0 Z171 f170 f166 f167 f168 g141 (by decide) (own_nn _ (by decide))) hZ (hw _ (List.mem_of_getElem? (i := 13) rfl)) (hw _ (List.mem_of_getElem? (i := 2) rfl)) (by decide) (by decide)) q173a q173c (g := (mkF m 53 #[.val (.int p0), .val (.long q1), .second, .val (.long q2), .second, .val (.long q3), .second, .val (.long q4), .second, .val (.int (3 : Int32)), .val (.ref b140), .unset, .unset, .unset, .unset] [(.ref b140)])) rfl (by rw [hml]; rfl) (Steps.refl _) (argsL := []) (rest := []) (lenOf pd_0 rfl) rfl (by show 2 * 0 + _ ≤ _; exact Nat.le_of_eq rfl) (hb hby at_53) (fun _ _ => ⟨rfl, (rfl : T164.heap = T164.heap), (by decide : 1 + 0 ≤ _), (by decide : 3 + 0 ≤ _)⟩)
    dsimp only [Pt.U, Pt.locs, Pt.cells, Pt.slots] at X172 l172 y172 z172 st172 hQ172
    subst l172 y172 z172
    obtain ⟨rfl, Nq172, Kq172, f174, f175, f176⟩ := hQ172
    have N177 := Fr.app N169 Nq172
    have f178 := (f170.keep Kq172)
    have Z179 : n0 ≤ T172.heap.size := (Nat.le_trans Z171 Kq172.1)
    refine OFin.to (S' := T172.setTop (mkF m 56 #[.val (.int p0), .val (.long q1), .second, .val (.long q2), .second, .val (.long q3), .second, .val (.long q4), .second, .val (.int (3 : Int32)), .val (.ref b140), .unset, .unset, .unset, .unset] [])) st172 ?_
    refine OFin.of (S' := T172.setTop (mkF m 114 #[.val (.int p0), .val (.long q1), .second, .val (.long q2), .second, .val (.long q3), .second, .val (.long q4), .second, .val (.int (3 : Int32)), .val (.ref b140), .val (.double (FP.ddiv (FP.l2d ((q1 + q2) + q3)) (4613937818241073152 : UInt64))), .second, .unset, .unset] [(.ref b140)])) (fun t ht => ?_) ?_
    · refine XS.iload X172.here hx rfl (hb hby at_56) rfl ?_
      show Steps p.tables e below (T172.setTop (mkF m 58 _ [(.int (3 : Int32))])) _
      refine XS.ifYes X172.here hx rfl (pc0 := 58) (pc' := 67) rfl (hb hby at_58) rfl ((if0 _ _).trans (feq (by decide : ¬ ((3 : Int32) = (0 : Int32)))).2) (by decide) (by decide) ?_
      show Steps p.tables e below (T172.setTop (mkF m 67 _ [])) _
      refine XS.iload X172.here hx rfl (hb hby at_67) rfl ?_
      show Steps p.tables e below (T172.setTop (mkF m 69 _ [(.int (3 : Int32))])) _
      refine XS.iconst X172.here hx rfl (hb hby at_69) ?_
      show Steps p.tables e below (T172.setTop (mkF m 70 _ [(.int (1 : Int32)), (.int (3 : Int32))])) _
      refine XS.icmpYes X172.here hx rfl (pc0 := 70) (pc' := 80) rfl (hb hby at_70) rfl (feq (by decide : ¬ ((3 : Int32) = (1 : Int32)))).2 (by decide) (by decide) ?_
      show Steps p.tables e below (T172.setTop (mkF m 80 _ [])) _
      refine XS.iload X172.here hx rfl (hb hby at_80) rfl ?_
      show Steps p.tables e below (T172.setTop (mkF m 82 _ [(.int (3 : Int32))])) _
      refine XS.iconst X172.here hx rfl (hb hby at_82) ?_
      show Steps p.tables e below (T172.setTop (mkF m 83 _ [(.int (2 : Int32)), (.int (3 : Int32))])) _
      refine XS.icmpYes X172.here hx rfl (pc0 := 83) (pc' := 99) rfl (hb hby at_83) rfl (feq (by decide : ¬ ((3 : Int32) = (2 : Int32)))).2 (by decide) (by decide) ?_
      show Steps p.tables e below (T172.setTop (mkF m 99 _ [])) _
      refine XS.lloadN X172.here hx rfl (hb hby at_99) rfl ?_
      show Steps p.tables e below (T172.setTop (mkF m 100 _ [(.long q1)])) _
      refine XS.lloadN X172.here hx rfl (hb hby at_100) rfl ?_
      show Steps p.tables e below (T172.setTop (mkF m 101 _ [(.long q2), (.long q1)])) _
      refine XS.ladd X172.here hx rfl (hb hby at_101) rfl ?_
      show Steps p.tables e below (T172.setTop (mkF m 102 _ [(.long (q1 + q2))])) _
      refine XS.lload X172.here hx rfl (hb hby at_102) rfl ?_
      show Steps p.tables e below (T172.setTop (mkF m 104 _ [(.long q3), (.long (q1 + q2))])) _
      refine XS.ladd X172.here hx rfl (hb hby at_104) rfl ?_
      show Steps p.tables e below (T172.setTop (mkF m 105 _ [(.long ((q1 + q2) + q3))])) _
      refine XS.l2dS X172.here hx rfl (hb hby at_105) rfl rfl ?_
      show Steps p.tables e below (T172.setTop (mkF m 106 _ [(.double (FP.l2d ((q1 + q2) + q3)))])) _
      refine X172.ldc2DoubleC hx hown (mvT hZ (hw _ (List.mem_of_getElem? (i := 31) rfl))) (g := (mkF m 106 #[.val (.int p0), .val (.long q1), .second, .val (.long q2), .second, .val (.long q3), .second, .val (.long q4), .second, .val (.int (3 : Int32)), .val (.ref b140), .unset, .unset, .unset, .unset] [(.double (FP.l2d ((q1 + q2) + q3)))])) rfl (hb hby at_106) _ ?_
      show Steps p.tables e below (T172.setTop (mkF m 109 _ [(.double (4613937818241073152 : UInt64)), (.double (FP.l2d ((q1 + q2) + q3)))])) _
      refine XS.ddivS X172.here hx rfl (hb hby at_109) rfl (own_nn3 _) rfl ?_
      show Steps p.tables e below (T172.setTop (mkF m 110 _ [(.double (FP.ddiv (FP.l2d ((q1 + q2) + q3)) (4613937818241073152 : UInt64)))])) _
      refine XS.dstore X172.here hx rfl (hb hby at_110) rfl (l' := #[.val (.int p0), .val (.long q1), .second, .val (.long q2), .second, .val (.long q3), .second, .val (.long q4), .second, .val (.int (3 : Int32)), .val (.ref b140), .val (.double (FP.ddiv (FP.l2d ((q1 + q2) + q3)) (4613937818241073152 : UInt64))), .second, .unset, .unset]) rfl ?_
      show Steps p.tables e below (T172.setTop (mkF m 112 #[.val (.int p0), .val (.long q1), .second, .val (.long q2), .second, .val (.long q3), .second, .val (.long q4), .second, .val (.int (3 : Int32)), .val (.ref b140), .val (.double (FP.ddiv (FP.l2d ((q1 + q2) + q3)) (4613937818241073152 : UInt64))), .second, .unset, .unset] [])) _
      refine XS.aload X172.here hx rfl (hb hby at_112) rfl rfl ?_
      exact ht
    obtain ⟨cq181, kq181, q181a, q181b, q181c⟩ := isOf hZ (rfl : T172.heap = T172.heap) f178
    obtain ⟨_, _, ⟨T180, L180, k180, n180⟩, -, X180, ⟨Lc180, hQ180, l180, y180, z180⟩, st180⟩ := X172.virtualBack hx (y := (⟨"com/example/kindred_mesh/kindredmesh/peer/SearchTime", "lastMean", "()D"⟩ : MethodName)) (z := (⟨"com/example/kindred_mesh/kindredmesh/peer/SearchTime", "lastMean", "()D"⟩ : MethodName)) hown (mvT hZ (hw _ (List.mem_of_getElem? (i := 20) rfl))) (mvT hZ (hw _ (List.mem_of_getElem? (i := 21) rfl))) (notFace_of_selects (args := #[]) (mvT hZ (hw _ (List.mem_of_getElem? (i := 23) rfl)))) (mvT hZ (hw _ (List.mem_of_getElem? (i := 23) rfl))) (mvT hZ (hw _ (List.mem_of_getElem? (i := 22) rfl))) (by decide) (backOf (W := 0) (rmLm l Z _ hw [] b140 (FP.ddiv (FP.l2d ((((0 : Int64) + q1) + q2) + q3)) (FP.l2d (3 : Int64))) T172.heap n0 Z179 f176) hZ (hw _ (List.mem_of_getElem? (i := 24) rfl)) (hw _ (List.mem_of_getElem? (i := 2) rfl)) (by decide) (by decide)) q181a q181c (g := (mkF m 114 #[.val (.int p0), .val (.long q1), .second, .val (.long q2), .second, .val (.long q3), .second, .val (.long q4), .second, .val (.int (3 : Int32)), .val (.ref b140), .val (.double (FP.ddiv (FP.l2d ((q1 + q2) + q3)) (4613937818241073152 : UInt64))), .second, .unset, .unset] [(.ref b140)])) rfl (by rw [hml]; rfl) (Steps.refl _) (argsL := []) (rest := []) (lenOf pd_1 rfl) rfl (by show 2 * 0 + _ ≤ _; exact Nat.le_of_eq rfl) (hb hby at_114) (fun _ _ => ⟨rfl, (rfl : T172.heap = T172.heap), (by decide : 1 + 0 ≤ _), (by decide : 3 + 0 ≤ _)⟩)
    dsimp only [Pt.U, Pt.locs, Pt.cells, Pt.slots] at X180 l180 y180 z180 st180 hQ180
    subst l180 y180 z180
    obtain ⟨rfl, Nq180, hs180⟩ := hQ180
    have N182 := Fr.app N177 Nq180
    refine OFin.to (S' := T180.setTop (mkF m 117 #[.val (.int p0), .val (.long q1), .second, .val (.long q2), .second, .val (.long q3), .second, .val (.long q4), .second, .val (.int (3 : Int32)), .val (.ref b140), .val (.double (FP.ddiv (FP.l2d ((q1 + q2) + q3)) (4613937818241073152 : UInt64))), .second, .unset, .unset] [(.double (FP.ddiv (FP.l2d ((((0 : Int64) + q1) + q2) + q3)) (FP.l2d (3 : Int64))))])) st180 ?_
    refine OFin.of (S' := T180.setTop (mkF m 134 #[.val (.int p0), .val (.long q1), .second, .val (.long q2), .second, .val (.long q3), .second, .val (.long q4), .second, .val (.int (3 : Int32)), .val (.ref b140), .val (.double (FP.ddiv (FP.l2d ((q1 + q2) + q3)) (4613937818241073152 : UInt64))), .second, .val (.int (1 : Int32)), .unset] [(.long q4), (.ref b140)])) (fun t ht => ?_) ?_
    · refine XS.dload X180.here hx rfl (hb hby at_117) rfl ?_
      show Steps p.tables e below (T180.setTop (mkF m 119 _ [(.double (FP.ddiv (FP.l2d ((q1 + q2) + q3)) (4613937818241073152 : UInt64))), (.double (FP.ddiv (FP.l2d ((((0 : Int64) + q1) + q2) + q3)) (FP.l2d (3 : Int64))))])) _
      refine XS.dcmpS X180.here hx rfl (hb hby at_119) rfl rfl ?_
      show Steps p.tables e below (T180.setTop (mkF m 120 _ [(.int (cmpValue (FP.dcmp (FP.ddiv (FP.l2d ((((0 : Int64) + q1) + q2) + q3)) (FP.l2d (3 : Int64))) (FP.ddiv (FP.l2d ((q1 + q2) + q3)) (4613937818241073152 : UInt64))) .l))])) _
      refine XS.ifNo X180.here hx rfl (hb hby at_120) rfl ((if0 _ _).trans (teq (dcmpV_eq (own_div3 _ _ _) (own_nn _ (by decide)) .l : (cmpValue (FP.dcmp (FP.ddiv (FP.l2d ((((0 : Int64) + q1) + q2) + q3)) (FP.l2d (3 : Int64))) (FP.ddiv (FP.l2d ((q1 + q2) + q3)) (4613937818241073152 : UInt64))) .l) = (0 : Int32))).2) ?_
      show Steps p.tables e below (T180.setTop (mkF m 123 _ [])) _
      refine XS.iconst X180.here hx rfl (hb hby at_123) ?_
      show Steps p.tables e below (T180.setTop (mkF m 124 _ [(.int (1 : Int32))])) _
      refine XS.goto X180.here hx rfl (pc0 := 124) (pc' := 128) rfl (hb hby at_124) (by decide) (by decide) ?_
      show Steps p.tables e below (T180.setTop (mkF m 128 _ [(.int (1 : Int32))])) _
      refine XS.istore X180.here hx rfl (hb hby at_128) rfl (l' := #[.val (.int p0), .val (.long q1), .second, .val (.long q2), .second, .val (.long q3), .second, .val (.long q4), .second, .val (.int (3 : Int32)), .val (.ref b140), .val (.double (FP.ddiv (FP.l2d ((q1 + q2) + q3)) (4613937818241073152 : UInt64))), .second, .val (.int (1 : Int32)), .unset]) rfl ?_
      show Steps p.tables e below (T180.setTop (mkF m 130 #[.val (.int p0), .val (.long q1), .second, .val (.long q2), .second, .val (.long q3), .second, .val (.long q4), .second, .val (.int (3 : Int32)), .val (.ref b140), .val (.double (FP.ddiv (FP.l2d ((q1 + q2) + q3)) (4613937818241073152 : UInt64))), .second, .val (.int (1 : Int32)), .unset] [])) _
      refine XS.aload X180.here hx rfl (hb hby at_130) rfl rfl ?_
      show Steps p.tables e below (T180.setTop (mkF m 132 _ [(.ref b140)])) _
      refine XS.lload X180.here hx rfl (hb hby at_132) rfl ?_
      exact ht
    obtain ⟨cq184, kq184, q184a, q184b, q184c⟩ := isOf hZ hs180 f178
    obtain ⟨_, _, ⟨T183, L183, k183, n183⟩, -, X183, ⟨Lc183, hQ183, l183, y183, z183⟩, st183⟩ := X180.virtualBack hx (y := (⟨"com/example/kindred_mesh/kindredmesh/peer/SearchTime", "served", "(J)V"⟩ : MethodName)) (z := (⟨"com/example/kindred_mesh/kindredmesh/peer/SearchTime", "served", "(J)V"⟩ : MethodName)) hown (mvT hZ (hw _ (List.mem_of_getElem? (i := 25) rfl))) (mvT hZ (hw _ (List.mem_of_getElem? (i := 26) rfl))) (notFace_of_selects (args := #[]) (mvT hZ (hw _ (List.mem_of_getElem? (i := 28) rfl)))) (mvT hZ (hw _ (List.mem_of_getElem? (i := 28) rfl))) (mvT hZ (hw _ (List.mem_of_getElem? (i := 27) rfl))) (by decide) (backOf (W := 0) (rmSv l Z _ hw [] b140 q4 (0 : Int64) (0 : Int64) (FP.ddiv (FP.l2d ((((0 : Int64) + q1) + q2) + q3)) (FP.l2d (3 : Int64))) T172.heap n0 Z179 f178 f174 f175 f176 g141) hZ (hw _ (List.mem_of_getElem? (i := 29) rfl)) (hw _ (List.mem_of_getElem? (i := 2) rfl)) (by decide) (by decide)) q184a q184c (g := (mkF m 134 #[.val (.int p0), .val (.long q1), .second, .val (.long q2), .second, .val (.long q3), .second, .val (.long q4), .second, .val (.int (3 : Int32)), .val (.ref b140), .val (.double (FP.ddiv (FP.l2d ((q1 + q2) + q3)) (4613937818241073152 : UInt64))), .second, .val (.int (1 : Int32)), .unset] [(.long q4), (.ref b140)])) rfl (by rw [hml]; rfl) (Steps.refl _) (argsL := [(.long q4)]) (rest := []) (lenOf pd_2 rfl) rfl (by show 2 * 0 + _ ≤ _; exact Nat.le_of_eq rfl) (hb hby at_134) (fun _ _ => ⟨rfl, hs180, (by decide : 1 + 0 ≤ _), (by decide : 3 + 0 ≤ _)⟩)
    dsimp only [Pt.U, Pt.locs, Pt.cells, Pt.slots] at X183 l183 y183 z183 st183 hQ183
    subst l183 y183 z183
    obtain ⟨rfl, Nq183, Kq183, f185, f186, f187⟩ := hQ183
    have N188 := Fr.app N182 Nq183
    have f189 := (f178.keep Kq183)
    have Z190 : n0 ≤ T183.heap.size := (Nat.le_trans Z179 Kq183.1)
    refine OFin.to (S' := T183.setTop (mkF m 137 #[.val (.int p0), .val (.long q1), .second, .val (.long q2), .second, .val (.long q3), .second, .val (.long q4), .second, .val (.int (3 : Int32)), .val (.ref b140), .val (.double (FP.ddiv (FP.l2d ((q1 + q2) + q3)) (4613937818241073152 : UInt64))), .second, .val (.int (1 : Int32)), .unset] [])) st183 ?_
    refine OFin.of (S' := T183.setTop (mkF m 139 #[.val (.int p0), .val (.long q1), .second, .val (.long q2), .second, .val (.long q3), .second, .val (.long q4), .second, .val (.int (3 : Int32)), .val (.ref b140), .val (.double (FP.ddiv (FP.l2d ((q1 + q2) + q3)) (4613937818241073152 : UInt64))), .second, .val (.int (1 : Int32)), .unset] [(.ref b140)])) (fun t ht => ?_) ?_
    · refine XS.aload X183.here hx rfl (hb hby at_137) rfl rfl ?_
      exact ht
    obtain ⟨cq192, kq192, q192a, q192b, q192c⟩ := isOf hZ (rfl : T183.heap = T183.heap) f189
    obtain ⟨_, _, ⟨T191, L191, k191, n191⟩, -, X191, ⟨Lc191, hQ191, l191, y191, z191⟩, st191⟩ := X183.virtualBack hx (y := (⟨"com/example/kindred_mesh/kindredmesh/peer/SearchTime", "newPeriod", "()V"⟩ : MethodName)) (z := (⟨"com/example/kindred_mesh/kindredmesh/peer/SearchTime", "newPeriod", "()V"⟩ : MethodName)) hown (mvT hZ (hw _ (List.mem_of_getElem? (i := 9) rfl))) (mvT hZ (hw _ (List.mem_of_getElem? (i := 10) rfl))) (notFace_of_selects (args := #[]) (mvT hZ (hw _ (List.mem_of_getElem? (i := 12) rfl)))) (mvT hZ (hw _ (List.mem_of_getElem? (i := 12) rfl))) (mvT hZ (hw _ (List.mem_of_getElem? (i := 11) rfl))) (by decide) (backOf (W := 0) (rmNp1 l Z _ hw [] b140 (1 : Int64) ((0 : Int64) + q4) (FP.ddiv (FP.l2d ((((0 : Int64) + q1) + q2) + q3)) (FP.l2d (3 : Int64))) T183.heap n0 Z190 f189 f185 f186 f187 g141 (by decide) (own_nn _ (by decide))) hZ (hw _ (List.mem_of_getElem? (i := 13) rfl)) (hw _ (List.mem_of_getElem? (i := 2) rfl)) (by decide) (by decide)) q192a q192c (g := (mkF m 139 #[.val (.int p0), .val (.long q1), .second, .val (.long q2), .second, .val (.long q3), .second, .val (.long q4), .second, .val (.int (3 : Int32)), .val (.ref b140), .val (.double (FP.ddiv (FP.l2d ((q1 + q2) + q3)) (4613937818241073152 : UInt64))), .second, .val (.int (1 : Int32)), .unset] [(.ref b140)])) rfl (by rw [hml]; rfl) (Steps.refl _) (argsL := []) (rest := []) (lenOf pd_0 rfl) rfl (by show 2 * 0 + _ ≤ _; exact Nat.le_of_eq rfl) (hb hby at_139) (fun _ _ => ⟨rfl, (rfl : T183.heap = T183.heap), (by decide : 1 + 0 ≤ _), (by decide : 3 + 0 ≤ _)⟩)
    dsimp only [Pt.U, Pt.locs, Pt.cells, Pt.slots] at X191 l191 y191 z191 st191 hQ191
    subst l191 y191 z191
    obtain ⟨rfl, Nq191, Kq191, f193, f194, f195⟩ := hQ191
    have N196 := Fr.app N188 Nq191
    have f197 := (f189.keep Kq191)
    have Z198 : n0 ≤ T191.heap.size := (Nat.le_trans Z190 Kq191.1)
    refine OFin.to (S' := T191.setTop (mkF m 142 #[.val (.int p0), .val (.long q1), .second, .val (.long q2), .second, .val (.long q3), .second, .val (.long q4), .second, .val (.int (3 : Int32)), .val (.ref b140), .val (.double (FP.ddiv (FP.l2d ((q1 + q2) + q3)) (4613937818241073152 : UInt64))), .second, .val (.int (1 : Int32)), .unset] [])) st191 ?_
    refine OFin.of (S' := T191.setTop (mkF m 144 #[.val (.int p0), .val (.long q1), .second, .val (.long q2), .second, .val (.long q3), .second, .val (.long q4), .second, .val (.int (3 : Int32)), .val (.ref b140), .val (.double (FP.ddiv (FP.l2d ((q1 + q2) + q3)) (4613937818241073152 : UInt64))), .second, .val (.int (1 : Int32)), .unset] [(.ref b140)])) (fun t ht => ?_) ?_
    · refine XS.aload X191.here hx rfl (hb hby at_142) rfl rfl ?_
      exact ht
    obtain ⟨cq200, kq200, q200a, q200b, q200c⟩ := isOf hZ (rfl : T191.heap = T191.heap) f197
    obtain ⟨_, _, ⟨T199, L199, k199, n199⟩, -, X199, ⟨Lc199, hQ199, l199, y199, z199⟩, st199⟩ := X191.virtualBack hx (y := (⟨"com/example/kindred_mesh/kindredmesh/peer/SearchTime", "lastMean", "()D"⟩ : MethodName)) (z := (⟨"com/example/kindred_mesh/kindredmesh/peer/SearchTime", "lastMean", "()D"⟩ : MethodName)) hown (mvT hZ (hw _ (List.mem_of_getElem? (i := 20) rfl))) (mvT hZ (hw _ (List.mem_of_getElem? (i := 21) rfl))) (notFace_of_selects (args := #[]) (mvT hZ (hw _ (List.mem_of_getElem? (i := 23) rfl)))) (mvT hZ (hw _ (List.mem_of_getElem? (i := 23) rfl))) (mvT hZ (hw _ (List.mem_of_getElem? (i := 22) rfl))) (by decide) (backOf (W := 0) (rmLm l Z _ hw [] b140 (FP.ddiv (FP.l2d ((0 : Int64) + q4)) (FP.l2d (1 : Int64))) T191.heap n0 Z198 f195) hZ (hw _ (List.mem_of_getElem? (i := 24) rfl)) (hw _ (List.mem_of_getElem? (i := 2) rfl)) (by decide) (by decide)) q200a q200c (g := (mkF m 144 #[.val (.int p0), .val (.long q1), .second, .val (.long q2), .second, .val (.long q3), .second, .val (.long q4), .second, .val (.int (3 : Int32)), .val (.ref b140), .val (.double (FP.ddiv (FP.l2d ((q1 + q2) + q3)) (4613937818241073152 : UInt64))), .second, .val (.int (1 : Int32)), .unset] [(.ref b140)])) rfl (by rw [hml]; rfl) (Steps.refl _) (argsL := []) (rest := []) (lenOf pd_1 rfl) rfl (by show 2 * 0 + _ ≤ _; exact Nat.le_of_eq rfl) (hb hby at_144) (fun _ _ => ⟨rfl, (rfl : T191.heap = T191.heap), (by decide : 1 + 0 ≤ _), (by decide : 3 + 0 ≤ _)⟩)
    dsimp only [Pt.U, Pt.locs, Pt.cells, Pt.slots] at X199 l199 y199 z199 st199 hQ199
    subst l199 y199 z199
    obtain ⟨rfl, Nq199, hs199⟩ := hQ199
    have N201 := Fr.app N196 Nq199
    refine OFin.to (S' := T199.setTop (mkF m 147 #[.val (.int p0), .val (.long q1), .second, .val (.long q2), .second, .val (.long q3), .second, .val (.long q4), .second, .val (.int (3 : Int32)), .val (.ref b140), .val (.double (FP.ddiv (FP.l2d ((q1 + q2) + q3)) (4613937818241073152 : UInt64))), .second, .val (.int (1 : Int32)), .unset] [(.double (FP.ddiv (FP.l2d ((0 : Int64) + q4)) (FP.l2d (1 : Int64))))])) st199 ?_
    refine OFin.of (S' := T199.setTop (mkF m 176 #[.val (.int p0), .val (.long q1), .second, .val (.long q2), .second, .val (.long q3), .second, .val (.long q4), .second, .val (.int (3 : Int32)), .val (.ref b140), .val (.double (FP.ddiv (FP.l2d ((q1 + q2) + q3)) (4613937818241073152 : UInt64))), .second, .val (.int (1 : Int32)), .val (.int (1 : Int32))] [(.int (1 : Int32))])) (fun t ht => ?_) ?_
    · refine XS.lload X199.here hx rfl (hb hby at_147) rfl ?_
      show Steps p.tables e below (T199.setTop (mkF m 149 _ [(.long q4), (.double (FP.ddiv (FP.l2d ((0 : Int64) + q4)) (FP.l2d (1 : Int64))))])) _
      refine XS.l2dS X199.here hx rfl (hb hby at_149) rfl rfl ?_
      show Steps p.tables e below (T199.setTop (mkF m 150 _ [(.double (FP.l2d q4)), (.double (FP.ddiv (FP.l2d ((0 : Int64) + q4)) (FP.l2d (1 : Int64))))])) _
      refine XS.dcmpS X199.here hx rfl (hb hby at_150) rfl rfl ?_
      show Steps p.tables e below (T199.setTop (mkF m 151 _ [(.int (cmpValue (FP.dcmp (FP.ddiv (FP.l2d ((0 : Int64) + q4)) (FP.l2d (1 : Int64))) (FP.l2d q4)) .l))])) _
      refine XS.ifNo X199.here hx rfl (hb hby at_151) rfl ((if0 _ _).trans (teq (dcmpV_eq (own_div1 _) (own_nn _ (by decide)) .l : (cmpValue (FP.dcmp (FP.ddiv (FP.l2d ((0 : Int64) + q4)) (FP.l2d (1 : Int64))) (FP.l2d q4)) .l) = (0 : Int32))).2) ?_
      show Steps p.tables e below (T199.setTop (mkF m 154 _ [])) _
      refine XS.iconst X199.here hx rfl (hb hby at_154) ?_
      show Steps p.tables e below (T199.setTop (mkF m 155 _ [(.int (1 : Int32))])) _
      refine XS.goto X199.here hx rfl (pc0 := 155) (pc' := 159) rfl (hb hby at_155) (by decide) (by decide) ?_
      show Steps p.tables e below (T199.setTop (mkF m 159 _ [(.int (1 : Int32))])) _
      refine XS.istore X199.here hx rfl (hb hby at_159) rfl (l' := #[.val (.int p0), .val (.long q1), .second, .val (.long q2), .second, .val (.long q3), .second, .val (.long q4), .second, .val (.int (3 : Int32)), .val (.ref b140), .val (.double (FP.ddiv (FP.l2d ((q1 + q2) + q3)) (4613937818241073152 : UInt64))), .second, .val (.int (1 : Int32)), .val (.int (1 : Int32))]) rfl ?_
      show Steps p.tables e below (T199.setTop (mkF m 161 #[.val (.int p0), .val (.long q1), .second, .val (.long q2), .second, .val (.long q3), .second, .val (.long q4), .second, .val (.int (3 : Int32)), .val (.ref b140), .val (.double (FP.ddiv (FP.l2d ((q1 + q2) + q3)) (4613937818241073152 : UInt64))), .second, .val (.int (1 : Int32)), .val (.int (1 : Int32))] [])) _
      refine XS.iload X199.here hx rfl (hb hby at_161) rfl ?_
      show Steps p.tables e below (T199.setTop (mkF m 163 _ [(.int (1 : Int32))])) _
      refine XS.ifNo X199.here hx rfl (hb hby at_163) rfl ((if0 _ _).trans (feq (by decide : ¬ ((1 : Int32) = (0 : Int32)))).1) ?_
      show Steps p.tables e below (T199.setTop (mkF m 166 _ [])) _
      refine XS.iload X199.here hx rfl (hb hby at_166) rfl ?_
      show Steps p.tables e below (T199.setTop (mkF m 168 _ [(.int (1 : Int32))])) _
      refine XS.ifNo X199.here hx rfl (hb hby at_168) rfl ((if0 _ _).trans (feq (by decide : ¬ ((1 : Int32) = (0 : Int32)))).1) ?_
      show Steps p.tables e below (T199.setTop (mkF m 171 _ [])) _
      refine XS.iconst X199.here hx rfl (hb hby at_171) ?_
      show Steps p.tables e below (T199.setTop (mkF m 172 _ [(.int (1 : Int32))])) _
      refine XS.goto X199.here hx rfl (pc0 := 172) (pc' := 176) rfl (hb hby at_172) (by decide) (by decide) ?_
      exact ht
    exact OFin.retB X199 hx hlk (t := .boolean) (by simp) hret (hb hby at_176) (by decide) (by decide) (by rw [hs199]; exact ⟨rfl, N201⟩)
set_option maxRecDepth 65536 in
set_option maxHeartbeats 40000000 in
theorem comes_1 {Post : Tables → Env → Array Value → State → Outcome → State → Prop} (hpost : ∀ tb e args s v u, (limb_1_1.after args s (.returned v) u = true ∧ limb_1_2.after args s (.returned v) u = true ∧ True) → FrameEnd s (.returned v) u (Jvm.fieldLocs frame_1_writes args s ++ Jvm.arrayLocs frame_1_arrays args s ++ Jvm.staticLocs frame_1_statics s) 16 128 → Post tb e args s (.returned v) u) :
    ArmFor flags0 classFile x code maxLocals ret World_1 tables_1 room_1 Calls_1 rest_1 Pre_1 Post := by
  intro l hfl _ _ p e ha hc hk s m args below hf hA hF happ hP
  obtain ⟨hcalls, hrest, hpre⟩ := hP
  obtain ⟨-, -, -, hnamed, -, -, -, hat⟩ := (Spec.applies_iff hf).mp happ
  obtain ⟨hg, hn⟩ := and_e (Cond.before_iff.mp (show (Jvm.Cond.and given_1 narrow_1).before args s = true from hpre))
  obtain ⟨gg0, hg0⟩ := and_e hg
  obtain ⟨gg1, hg1⟩ := and_e hg0
  obtain ⟨gg2, hg2⟩ := and_e hg1
  obtain ⟨gg3, hg3⟩ := and_e hg2
  obtain ⟨gg4, hg4⟩ := and_e hg3
  obtain ⟨w0, w1, w2, w3, w4, rfl⟩ : ∃ w0 w1 w2 w3 w4 : Value, args = #[w0, w1, w2, w3, w4] := by
    have hs : args.size = 5 := by simpa [Cond.value, given_1] using gg0
    obtain ⟨L⟩ := args
    match L, hs with
    | [w0, w1, w2, w3, w4], _ => exact ⟨w0, w1, w2, w3, w4, rfl⟩
  have hw := fun d (hd : d ∈ tables_1) => atoms_spec (ws := Jvm.Cond.code x code maxLocals ret :: tables_1) hat d (List.mem_cons_of_mem _ hd)
  have hfit : Fit s := fun {y c} hc i hi => by
    obtain ⟨ha, rfl⟩ := Array.getElem?_eq_some_iff.mp hc
    have q := List.all_eq_true.mp ((Array.all_eq_true_iff_forall_mem.mp hF) _ (Array.getElem_mem ha)) i (List.mem_range.mpr hi)
    simpa [Array.getElem?_eq_getElem hi] using q
  obtain ⟨i0, ei0⟩ := is_v gg1
  obtain rfl : w0 = (.int i0) := Option.some.inj ei0
  obtain ⟨i1, ei1⟩ := isL_v gg2
  obtain rfl : w1 = (.long i1) := Option.some.inj ei1
  obtain ⟨i2, ei2⟩ := isL_v gg3
  obtain rfl : w2 = (.long i2) := Option.some.inj ei2
  obtain ⟨i3, ei3⟩ := isL_v gg4
  obtain rfl : w3 = (.long i3) := Option.some.inj ei3
  obtain ⟨i4, ei4⟩ := isL_v hg4
  obtain rfl : w4 = (.long i4) := Option.some.inj ei4

  obtain ⟨n, o, h1, h2, h3, _, L, rfl, ⟨rfl, N⟩, hq⟩ := rm0 l s _ hw tables_1 i0 i1 i2 i3 i4  s.heap s.heap.size (Nat.le_refl _)  p e ha hc hk s m _ below hf ((Spec.applies_iff_loose hf).mp happ).1 ⟨rfl, State.Warmed39.refl s, rfl⟩ trivial
  refine ⟨n, _, h1, h2, h3, hpost _ _ _ _ _ _ ⟨Cond.after_iff.mpr rfl, Cond.after_iff.mpr (eq_i res_at (Term.int_eval (1)) rfl), trivial⟩ ⟨hq.1, hq.2.1, (hq.2.2.sift fun y hy => Or.inr (N y hy)).mono (by decide) (by decide)⟩⟩
theorem main_1_1 : Claimed_1_1 := comes_1 fun _ _ _ _ _ _ h hF => ⟨h.1, hF⟩
theorem main_1_2 : Claimed_1_2 := comes_1 fun _ _ _ _ _ _ h hF => ⟨h.2.1, hF⟩
end Jvm.Pilot.@@N@@
namespace Jvm.Pilot.@@N@@
open Jvm Jvm.ClassFile Sem Op Lib Jvm.Free Jvm.Stand Jvm.Pilot.@@N@@.Jvm.D
/-! MADE BY PROGRAM (witnessworld.py) out of the Statement's table words and the real class files: 9 classes; the members and pool entries that the words name. The judged class is class 1, her method 1. -/
namespace start1
open Jvm.ClassFile
def u (s : String) : CpInfo := .utf8 (stringToUtf16 s)
/-- a pool by its gaps: so many unusable entries, then the entry; so many at the end -/
def gap : Nat → List CpInfo → List CpInfo
  | 0, r => r
  | n + 1, r => .unusable :: gap n r
def poolList (es : List (Nat × CpInfo)) (last : Nat) : List CpInfo := es.foldr (fun e r => gap e.1 (e.2 :: r)) (gap last [])
def pool (es : List (Nat × CpInfo)) (last : Nat) : Array CpInfo := ⟨poolList es last⟩
def fileOf (pool : Array CpInfo) (this : Nat) (attrs : Array Attribute := #[]) (ms : Array MethodInfo := #[]) (fl : Nat := 33) (sup : Nat := 0) (ifs : Array Nat := #[]) (fds : Array FieldInfo := #[]) : ClassFile where
  minorVersion := 0
  majorVersion := 65
  constantPool := pool
  accessFlags := fl
  thisClass := this
  superClass := sup
  interfaces := ifs
  fields := fds
  methods := ms
  attributes := attrs
def plain (name : String) (sup : Option ClassId) : Class where
  name := name
  kind := .ordinary
  loader := none
  accessFlags := 33
  super := sup
  interfaces := #[]
  cf := none
  fields := #[]
  methods := #[]
  instanceTypes := #[]
  staticTypes := #[]
  resolved := #[]
  callSites := []
  init := .initialized
  statics := none
  mirror := none

def pool0 : Array CpInfo := pool [(5, u "<init>"), (0, u "()V"), (1, .class_ 10), (1, u "java/lang/Object")] 113

def k0c0 : Code := { maxStack := 0, maxLocals := 1, code := object_method_1_code, exceptionTable := #[], attributes := #[] }
def k0m0 : Method := { name := "<init>", desc := "()V", sig := { parameters := [], returnType := none }, accessFlags := 1, code := some k0c0 }
/-- java/lang/Object -/
def k0 : Class := { plain "java/lang/Object" none with
  accessFlags := 33
  interfaces := #[]
  cf := some (fileOf pool0 8 #[] #[{ accessFlags := 1, nameIndex := 5, descriptorIndex := 6, attributes := #[] }] 33 0 #[] #[])
  fields := #[]
  methods := #[k0m0]
  instanceTypes := #[]
  staticTypes := #[]
  resolved := Array.replicate 124 none
  statics := none }

def pool1 : Array CpInfo := pool [(2, .class_ 4), (0, .nameAndType 5 6), (0, u "java/lang/Object"), (0, u "<init>"), (0, u "()V"), (0, .class_ 8), (0, u "com/example/kindred_mesh/kindredmesh/peer/SearchTime"), (0, .methodref 7 3), (0, .methodref 7 11), (0, .nameAndType 12 13), (0, u "served"), (0, u "(J)V"), (0, .methodref 7 15), (0, .nameAndType 16 6), (0, u "newPeriod"), (0, .double 4611686018427387904), (1, .double 4613937818241073152), (1, .methodref 7 22), (0, .nameAndType 23 24), (0, u "lastMean"), (0, u "()D"), (0, .class_ 26), (0, u "com/example/kindred_mesh/kindredmesh/peer/SearchTimeNewPeriodPinLaw"), (2, u "law"), (0, u "(IJJJJ)Z")] 3

def k1m0 : Method := { name := "<init>", desc := "()V", sig := { parameters := [], returnType := none }, accessFlags := 1, code := none }
def k1c1 : Code := { maxStack := 4, maxLocals := 15, code := code, exceptionTable := #[], attributes := #[] }
def k1m1 : Method := { name := "law", desc := "(IJJJJ)Z", sig := { parameters := [.int, .long, .long, .long, .long], returnType := some .boolean }, accessFlags := 9, code := some k1c1 }
/-- com/example/kindred_mesh/kindredmesh/peer/SearchTimeNewPeriodPinLaw -/
def k1 : Class := { plain "com/example/kindred_mesh/kindredmesh/peer/SearchTimeNewPeriodPinLaw" (some 0) with
  accessFlags := 49
  interfaces := #[]
  cf := some (fileOf pool1 25 #[] #[{ accessFlags := 1, nameIndex := 5, descriptorIndex := 6, attributes := #[] }, { accessFlags := 9, nameIndex := 29, descriptorIndex := 30, attributes := #[] }] 49 2 #[] #[])
  fields := #[]
  methods := #[k1m0, k1m1]
  instanceTypes := #[]
  staticTypes := #[]
  resolved := Array.replicate 34 none
  statics := none }

def pool2 : Array CpInfo := pool [(1, .methodref 2 3), (0, .class_ 4), (0, .nameAndType 5 6), (0, u "java/lang/Object"), (0, u "<init>"), (0, u "()V"), (0, .fieldref 8 9), (0, .class_ 10), (0, .nameAndType 11 12), (0, u "com/example/kindred_mesh/kindredmesh/peer/SearchTime"), (0, u "served"), (0, u "J"), (0, .fieldref 8 14), (0, .nameAndType 15 12), (0, u "total"), (0, .fieldref 8 17), (0, .nameAndType 18 19), (0, u "lastMean"), (0, u "D"), (2, u "(J)V"), (0, u "newPeriod"), (2, u "()D")] 2

def k2c0 : Code := { maxStack := 1, maxLocals := 1, code := prog_71_method_1_code, exceptionTable := #[], attributes := #[] }
def k2m0 : Method := { name := "<init>", desc := "()V", sig := { parameters := [], returnType := none }, accessFlags := 1, code := some k2c0 }
def k2c1 : Code := { maxStack := 5, maxLocals := 3, code := prog_71_method_2_code, exceptionTable := #[], attributes := #[] }
def k2m1 : Method := { name := "served", desc := "(J)V", sig := { parameters := [.long], returnType := none }, accessFlags := 1, code := some k2c1 }
def k2c2 : Code := { maxStack := 5, maxLocals := 1, code := prog_71_method_3_code, exceptionTable := #[], attributes := #[] }
def k2m2 : Method := { name := "newPeriod", desc := "()V", sig := { parameters := [], returnType := none }, accessFlags := 1, code := some k2c2 }
def k2c3 : Code := { maxStack := 2, maxLocals := 1, code := prog_71_method_5_code, exceptionTable := #[], attributes := #[] }
def k2m3 : Method := { name := "lastMean", desc := "()D", sig := { parameters := [], returnType := some .double }, accessFlags := 1, code := some k2c3 }
/-- com/example/kindred_mesh/kindredmesh/peer/SearchTime -/
def k2 : Class := { plain "com/example/kindred_mesh/kindredmesh/peer/SearchTime" (some 0) with
  accessFlags := 33
  interfaces := #[]
  cf := some (fileOf pool2 8 #[] #[{ accessFlags := 1, nameIndex := 5, descriptorIndex := 6, attributes := #[] }, { accessFlags := 1, nameIndex := 11, descriptorIndex := 22, attributes := #[] }, { accessFlags := 1, nameIndex := 23, descriptorIndex := 6, attributes := #[] }, { accessFlags := 1, nameIndex := 18, descriptorIndex := 26, attributes := #[] }] 33 2 #[] #[{ accessFlags := 2, nameIndex := 11, descriptorIndex := 12, attributes := #[] }, { accessFlags := 2, nameIndex := 15, descriptorIndex := 12, attributes := #[] }, { accessFlags := 2, nameIndex := 18, descriptorIndex := 19, attributes := #[] }])
  fields := #[{ name := "served", type := .long, accessFlags := 2, slot := 0, constantValue := 0 }, { name := "total", type := .long, accessFlags := 2, slot := 1, constantValue := 0 }, { name := "lastMean", type := .double, accessFlags := 2, slot := 2, constantValue := 0 }]
  methods := #[k2m0, k2m1, k2m2, k2m3]
  instanceTypes := #[.long, .long, .double]
  staticTypes := #[]
  resolved := Array.replicate 29 none
  statics := none }

def pool3 : Array CpInfo := pool [(1, u "java/lang/Cloneable"), (0, .class_ 1), (0, u "java/lang/Object"), (0, .class_ 3)] 3

/-- java/lang/Cloneable -/
def k3 : Class := { plain "java/lang/Cloneable" (some 0) with
  accessFlags := 1537
  interfaces := #[]
  cf := some (fileOf pool3 2 #[] #[] 1537 4 #[] #[])
  fields := #[]
  methods := #[]
  instanceTypes := #[]
  staticTypes := #[]
  resolved := Array.replicate 8 none
  statics := none }

def pool4 : Array CpInfo := pool [(1, u "java/io/Serializable"), (0, .class_ 1), (0, u "java/lang/Object"), (0, .class_ 3)] 3

/-- java/io/Serializable -/
def k4 : Class := { plain "java/io/Serializable" (some 0) with
  accessFlags := 1537
  interfaces := #[]
  cf := some (fileOf pool4 2 #[] #[] 1537 4 #[] #[])
  fields := #[]
  methods := #[]
  instanceTypes := #[]
  staticTypes := #[]
  resolved := Array.replicate 8 none
  statics := none }

/-- the primitive byte -/
def k5 : Class := { plain "byte" none with kind := .primitive 'B', accessFlags := 0x411 }
/-- [B -/
def k6 : Class := { plain "[B" (some 0) with kind := .array 5 .byte, interfaces := #[3, 4], accessFlags := 1041 }

/-- the primitive int -/
def k7 : Class := { plain "int" none with kind := .primitive 'I', accessFlags := 0x411 }
/-- [I -/
def k8 : Class := { plain "[I" (some 0) with kind := .array 7 .int, interfaces := #[3, 4], accessFlags := 1041 }

def heap : Heap := #[]
def classes : Array Class := #[k0, k1, k2, k3, k4, k5, k6, k7, k8]
def interned : List (Array UInt16 × Addr) := []
def slotsUsed : Nat := 0
def theMethod : MethodId := ⟨1, 1⟩
def args0 : Array Value := #[.int 5, .long 5, .long 5, .long 5, .long 5]
def aboutOver (below : List Frame) : State where
  vm := { classes := classes, interned := interned.toArray }
  heap := heap
  slotsUsed := slotsUsed
  threads := #[{ frames := .invoking theMethod args0 :: below }]
def below0 : List Frame := [.native { method := ⟨0, 0⟩, args := #[] }]
def about1 : State := aboutOver below0
def p0 : Program := .bare "" "" ""
def e0 : Env := launch0.env 0 0 0
theorem w_frames : about1.frames = Frame.invoking theMethod args0 :: below0 := rfl
set_option maxRecDepth 65536 in
theorem w_args : argsFit about1.vm theMethod args0 = true := by decide +kernel
set_option maxRecDepth 65536 in
theorem w_heap : heapFits about1 = true := by decide +kernel
set_option maxRecDepth 65536 in
theorem w_runnable : about1.curStatus? = some .runnable := by decide +kernel
set_option maxRecDepth 65536 in
theorem w_alone : about1.alone = true := by decide +kernel
set_option maxRecDepth 65536 in
theorem w_named : about1.methodNamed? x = some theMethod := by decide +kernel
set_option maxRecDepth 65536 in
theorem w_hears : about1.hears theMethod below0 = true := by decide +kernel
set_option maxRecDepth 65536 in
theorem w_ripe : about1.ripe theMethod args0 below0 = true := by decide +kernel
theorem w_running : about1.status = .running := rfl
set_option maxRecDepth 65536 in
theorem w_room : about1.hasRoom e0.platform room_1 = true :=
  launch0.hasRoom_least _ room_1 (by decide +kernel) (by decide +kernel) (by decide +kernel) (by decide +kernel) (by decide +kernel) (by decide +kernel)
theorem allAtoms_all (ts : List Jvm.Cond) (a : Array Jvm.Value) (st : Jvm.State) : (allAtoms ts).before a st = ts.all (fun c => c.before a st) := by
  induction ts with
  | nil => rfl
  | cons c t ih =>
    show (Jvm.Cond.and c (allAtoms t)).before a st = _
    rw [Jvm.Cond.before_and, ih, List.all_cons]
def words1 : List Jvm.Cond := Jvm.Cond.code x code maxLocals ret :: tables_1
/-- a 'code' word, met by the world's own term for the bytes: nothing is compared byte by byte -/
theorem code_word {y : MethodName} {bytes : ByteArray} {mx : Nat} {rt : Option FieldType} {a : Array Value} {s : State} {m : MethodId} {meth : Method} {c : Code} (h1 : s.methodNamed? y = some m) (h2 : s.vm.method? m = some meth) (h3 : meth.code = some c) (h4 : c.code = bytes)
    (h5 : (c.maxLocals == mx && c.exceptionTable.isEmpty && decide (c.maxStack ≤ mostOperands) && decide (meth.sig.returnType = rt) && !meth.locks && decide (parseMethodDescriptor y.desc = some meth.sig)) = true) : (Jvm.Cond.code y bytes mx rt).before a s = true := by
  simp only [Bool.and_eq_true, beq_iff_eq, Bool.not_eq_true', decide_eq_true_eq] at h5
  obtain ⟨⟨⟨⟨⟨g1, g2⟩, g3⟩, g4⟩, g5⟩, g6⟩ := h5
  simp [Cond.before, Cond.holds, Cond.value, h1, h2, h3, h4, g1, g2, g3, g4, g5, g6]
def isCode : Jvm.Cond → Bool
  | .code _ _ _ _ => true
  | _ => false
theorem all_split {L : List Jvm.Cond} {P : Jvm.Cond → Bool} (h1 : L.all (fun c => isCode c || P c) = true) (h2 : ∀ c ∈ L.filter isCode, P c = true) : L.all P = true := by
  refine List.all_eq_true.mpr fun c hc => ?_
  have h := List.all_eq_true.mp h1 c hc
  rcases Bool.eq_false_or_eq_true (isCode c) with hi | hi
  · exact h2 c (List.mem_filter.mpr ⟨hc, hi⟩)
  · simpa [hi] using h
set_option maxRecDepth 65536 in
theorem w_c0 : (Jvm.Cond.code x code maxLocals ret).before args0 about1 = true := code_word (m := ⟨1, 1⟩) (meth := k1m1) (c := k1c1) (by decide +kernel) rfl rfl rfl (by decide +kernel)
set_option maxRecDepth 65536 in
theorem w_c1 : (Jvm.Cond.code ({ cls := "com/example/kindred_mesh/kindredmesh/peer/SearchTime", name := "<init>", desc := "()V" } : Jvm.MethodName) prog_71_method_1_code (1 : Nat) (Option.none : Option Jvm.ClassFile.FieldType)).before args0 about1 = true := code_word (m := ⟨2, 0⟩) (meth := k2m0) (c := k2c0) (by decide +kernel) rfl rfl rfl (by decide +kernel)
set_option maxRecDepth 65536 in
theorem w_c2 : (Jvm.Cond.code ({ cls := "java/lang/Object", name := "<init>", desc := "()V" } : Jvm.MethodName) object_method_1_code (1 : Nat) (Option.none : Option Jvm.ClassFile.FieldType)).before args0 about1 = true := code_word (m := ⟨0, 0⟩) (meth := k0m0) (c := k0c0) (by decide +kernel) rfl rfl rfl (by decide +kernel)
set_option maxRecDepth 65536 in
theorem w_c3 : (Jvm.Cond.code ({ cls := "com/example/kindred_mesh/kindredmesh/peer/SearchTime", name := "newPeriod", desc := "()V" } : Jvm.MethodName) prog_71_method_3_code (1 : Nat) (Option.none : Option Jvm.ClassFile.FieldType)).before args0 about1 = true := code_word (m := ⟨2, 2⟩) (meth := k2m2) (c := k2c2) (by decide +kernel) rfl rfl rfl (by decide +kernel)
set_option maxRecDepth 65536 in
theorem w_c4 : (Jvm.Cond.code ({ cls := "com/example/kindred_mesh/kindredmesh/peer/SearchTime", name := "lastMean", desc := "()D" } : Jvm.MethodName) prog_71_method_5_code (1 : Nat) (Option.some Jvm.ClassFile.FieldType.double)).before args0 about1 = true := code_word (m := ⟨2, 3⟩) (meth := k2m3) (c := k2c3) (by decide +kernel) rfl rfl rfl (by decide +kernel)
set_option maxRecDepth 65536 in
theorem w_c5 : (Jvm.Cond.code ({ cls := "com/example/kindred_mesh/kindredmesh/peer/SearchTime", name := "served", desc := "(J)V" } : Jvm.MethodName) prog_71_method_2_code (3 : Nat) (Option.none : Option Jvm.ClassFile.FieldType)).before args0 about1 = true := code_word (m := ⟨2, 1⟩) (meth := k2m1) (c := k2c1) (by decide +kernel) rfl rfl rfl (by decide +kernel)
def codes1 : List Jvm.Cond := [Jvm.Cond.code x code maxLocals ret, Jvm.Cond.code ({ cls := "com/example/kindred_mesh/kindredmesh/peer/SearchTime", name := "<init>", desc := "()V" } : Jvm.MethodName) prog_71_method_1_code (1 : Nat) (Option.none : Option Jvm.ClassFile.FieldType), Jvm.Cond.code ({ cls := "java/lang/Object", name := "<init>", desc := "()V" } : Jvm.MethodName) object_method_1_code (1 : Nat) (Option.none : Option Jvm.ClassFile.FieldType), Jvm.Cond.code ({ cls := "com/example/kindred_mesh/kindredmesh/peer/SearchTime", name := "newPeriod", desc := "()V" } : Jvm.MethodName) prog_71_method_3_code (1 : Nat) (Option.none : Option Jvm.ClassFile.FieldType), Jvm.Cond.code ({ cls := "com/example/kindred_mesh/kindredmesh/peer/SearchTime", name := "lastMean", desc := "()D" } : Jvm.MethodName) prog_71_method_5_code (1 : Nat) (Option.some Jvm.ClassFile.FieldType.double), Jvm.Cond.code ({ cls := "com/example/kindred_mesh/kindredmesh/peer/SearchTime", name := "served", desc := "(J)V" } : Jvm.MethodName) prog_71_method_2_code (3 : Nat) (Option.none : Option Jvm.ClassFile.FieldType)]
set_option maxRecDepth 65536 in
theorem codes_eq : words1.filter isCode = codes1 := rfl
theorem w_codes : ∀ c ∈ words1.filter isCode, c.before args0 about1 = true := by
  rw [codes_eq]
  intro c hc
  simp only [codes1, List.mem_cons, List.not_mem_nil, or_false] at hc
  rcases hc with rfl | rfl | rfl | rfl | rfl | rfl
  · exact w_c0
  · exact w_c1
  · exact w_c2
  · exact w_c3
  · exact w_c4
  · exact w_c5
set_option maxRecDepth 65536 in
theorem w_t1 : (words1.take 24).all (fun c => isCode c || c.before args0 about1) = true := by decide +kernel
set_option maxRecDepth 65536 in
theorem w_t2 : (words1.drop 24).all (fun c => isCode c || c.before args0 about1) = true := by decide +kernel
theorem w_tables : (allAtoms (Jvm.Cond.code x code maxLocals ret :: tables_1)).before args0 about1 = true := by
  rw [allAtoms_all]
  show words1.all (fun c => c.before args0 about1) = true
  refine all_split ?_ w_codes
  rw [← List.take_append_drop 24 words1, List.all_append, w_t1, w_t2]
  rfl
set_option maxRecDepth 65536 in
theorem w_case : (Jvm.Cond.and given_1 narrow_1).before args0 about1 = true := by decide +kernel
theorem w_applies : (headSpec (Jvm.Cond.code x code maxLocals ret :: tables_1) room_1).applies x e0.platform about1 = true :=
  (Spec.applies_iff w_frames).mpr ⟨w_running, w_runnable, w_alone, w_named, w_hears, w_ripe, w_room, w_tables⟩
theorem atStart : AtStart classFile x code maxLocals ret World_1 tables_1 room_1 Calls_1 rest_1 Pre_1 launch0 p0 e0 about1 theMethod args0 below0 :=
  ⟨lists_1, trivial, launch0.admits_env _ _ _, launch0.least_env, fairChoices_fair.cas, fairChoices_fair.clock, w_frames, w_args, w_heap, w_applies, trivial, trivial, w_case⟩
end start1
theorem witness_1 : WitnessClaimed_1 := ⟨start1.p0, start1.e0, start1.about1, start1.theMethod, start1.args0, start1.below0, start1.atStart⟩
end Jvm.Pilot.@@N@@
