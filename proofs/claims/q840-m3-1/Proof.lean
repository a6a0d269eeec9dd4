import JvmDerived
import JvmDerived.Pilot.@@N@@Statement
import JvmDerived.Pilot.@@N@@Code
set_option linter.unusedVariables false
set_option linter.unusedSimpArgs false
namespace Jvm.RoadKit
open Sem ClassFile Op Lib Jvm.Stand Jvm.Free Jvm.LawKit
section OwnNew
variable {p : Program} {l : Launch} {e : Env} {R : Room} {s : State} {m : MethodId} {args : Array Value} {below : List Frame} {meth : Method} {c : Code} {T : State} {locs : List Loc} {cells slots : Nat}
theorem retI (X : Stand p l e R s m args below meth c T locs cells slots) (hx : p.tables.exec = Jvm.exec) {pc : Nat} {Ls : Array Slot} {z : Int32} {rest : List Value} (hret : meth.sig.returnType = some .int) (hd : decode c.code pc = .ok (.ireturn, 1)) {fs : List Frame}
    (hl : ∀ (f : JFrame) (acts : List Action), f.method = m → f.locked = none → f.entered = [] → (doReturn e (T.setTop f) acts (some (.int z))).1 = T.setFrames fs) : Steps p.tables e below (T.setTop (mkF m pc Ls (.int z :: rest))) (T.setFrames fs) := by
  have hm' : T.vm.method? m = some meth := X.method'
  have hn : narrow .int (.int z) = .int z := rfl
  show Steps p.tables e below (T.setTop { method := m, pc := pc, locals := Ls, stack := _ :: rest, locked := none }) _
  jvm_step X.here [X.here.top, hx, hd, hm', hret, hn]
  first | (intro acts; rw [hl _ acts rfl rfl rfl]) | rw [hl _ _ rfl rfl rfl]
  exact Steps.refl _
/-- from S the run comes to an end of this invocation at which K holds -/
def OFin (p : Program) (e : Env) (below : List Frame) (K : Outcome → State → Prop) (S : State) : Prop := ∃ s₂ o, Steps p.tables e below S s₂ ∧ s₂.status = .running ∧ Ended s₂ below o ∧ K o s₂
theorem OFin.of {K : Outcome → State → Prop} {S S' : State} (h : ∀ t, Steps p.tables e below S' t → Steps p.tables e below S t) (k : OFin p e below K S') : OFin p e below K S := by
  obtain ⟨t, o, a, b⟩ := k; exact ⟨t, o, h t a, b⟩
theorem OFin.to {K : Outcome → State → Prop} {S S' : State} (h : Steps p.tables e below S S') (k : OFin p e below K S') : OFin p e below K S := by
  obtain ⟨t, o, a, b⟩ := k; exact ⟨t, o, h.trans a, b⟩
abbrev KPost (s : State) (Q : Option Value → Heap → List Loc → Prop) (C D : Nat) : Outcome → State → Prop := fun o U' => ∃ v L, o = .returned v ∧ Q v U'.heap L ∧ FrameEnd s o U' L C D
theorem OFin.retI (X : Stand p l e R s m args below meth c T locs cells slots) (hx : p.tables.exec = Jvm.exec) (hlk : meth.locks = false) {pc : Nat} {Ls : Array Slot} {z : Int32} {rest : List Value} {Q : Option Value → Heap → List Loc → Prop} {C D : Nat} (hret : meth.sig.returnType = some .int) (hd : decode c.code pc = .ok (.ireturn, 1)) (hC : cells ≤ C) (hD : slots ≤ D) (hQ : Q (some (.int z)) T.heap locs) :
    OFin p e below (KPost s Q C D) (T.setTop (mkF m pc Ls (.int z :: rest))) := by
  obtain ⟨fs, hr, hrun, hended, hW, hsame⟩ := X.leave (v := some (.int z)) (fun h => by rw [hret] at h; cases h) hlk
  exact ⟨_, _, Jvm.RoadKit.retI X hx hret hd hr, hrun, hended, _, _, rfl, hQ, ⟨_, rfl⟩, hW, hsame.mono hC hD⟩
theorem OFin.retB (X : Stand p l e R s m args below meth c T locs cells slots) (hx : p.tables.exec = Jvm.exec) (hlk : meth.locks = false) {pc : Nat} {Ls : Array Slot} {z : Int32} {rest : List Value} {Q : Option Value → Heap → List Loc → Prop} {C D : Nat} {t : FieldType} (ht : t = .boolean ∨ t = .byte ∨ t = .char ∨ t = .short) (hret : meth.sig.returnType = some t) (hd : decode c.code pc = .ok (.ireturn, 1)) (hC : cells ≤ C) (hD : slots ≤ D) (hQ : Q (some (.int (nar t z))) T.heap locs) :
    OFin p e below (KPost s Q C D) (T.setTop (mkF m pc Ls (.int z :: rest))) := by
  obtain ⟨fs, hr, hrun, hended, hW, hsame⟩ := X.leave (v := some (.int (nar t z))) (fun h => by rw [hret] at h; cases h) hlk
  exact ⟨_, _, retN X hx hret ht hd hr, hrun, hended, _, _, rfl, hQ, ⟨_, rfl⟩, hW, hsame.mono hC hD⟩
theorem OFin.retJ (X : Stand p l e R s m args below meth c T locs cells slots) (hx : p.tables.exec = Jvm.exec) (hlk : meth.locks = false) {pc : Nat} {Ls : Array Slot} {z : Int64} {Q : Option Value → Heap → List Loc → Prop} {C D : Nat} (hret : meth.sig.returnType = some .long) (hd : decode c.code pc = .ok (.lreturn, 1)) (hC : cells ≤ C) (hD : slots ≤ D) (hQ : Q (some (.long z)) T.heap locs) :
    OFin p e below (KPost s Q C D) (T.setTop (mkF m pc Ls [.long z])) := by
  obtain ⟨fs, hr, hrun, hended, hW, hsame⟩ := X.leave (v := some (.long z)) (fun h => by rw [hret] at h; cases h) hlk
  exact ⟨_, _, X.lreturnOut hx hret hd hr, hrun, hended, _, _, rfl, hQ, ⟨_, rfl⟩, hW, hsame.mono hC hD⟩
theorem OFin.retA (X : Stand p l e R s m args below meth c T locs cells slots) (hx : p.tables.exec = Jvm.exec) (hlk : meth.locks = false) {pc : Nat} {Ls : Array Slot} {z : Value} {Q : Option Value → Heap → List Loc → Prop} {C D : Nat} {t : FieldType} (ht : t.isReference = true) (hz : z.isRef = true) (hret : meth.sig.returnType = some t) (hd : decode c.code pc = .ok (.areturn, 1)) (hC : cells ≤ C) (hD : slots ≤ D) (hQ : Q (some z) T.heap locs) :
    OFin p e below (KPost s Q C D) (T.setTop (mkF m pc Ls [z])) := by
  obtain ⟨fs, hr, hrun, hended, hW, hsame⟩ := X.leave (v := some z) (fun h => by rw [hret] at h; cases h) hlk
  exact ⟨_, _, X.areturnOut hx hz hret ht hd hr, hrun, hended, _, _, rfl, hQ, ⟨_, rfl⟩, hW, hsame.mono hC hD⟩
theorem OFin.retD (X : Stand p l e R s m args below meth c T locs cells slots) (hx : p.tables.exec = Jvm.exec) (hlk : meth.locks = false) {pc : Nat} {Ls : Array Slot} {z : UInt64} {rest : List Value} {Q : Option Value → Heap → List Loc → Prop} {C D : Nat} (hret : meth.sig.returnType = some .double) (hd : decode c.code pc = .ok (.dreturn, 1)) (hC : cells ≤ C) (hD : slots ≤ D) (hQ : Q (some (.double z)) T.heap locs) :
    OFin p e below (KPost s Q C D) (T.setTop (mkF m pc Ls (.double z :: rest))) := by
  obtain ⟨fs, hr, hrun, hended, hW, hsame⟩ := X.leave (v := some (.double z)) (fun h => by rw [hret] at h; cases h) hlk
  exact ⟨_, _, retOut X hx hret rfl (Or.inr (Or.inr (Or.inl ⟨rfl, rfl, z, rfl⟩))) hd hr, hrun, hended, _, _, rfl, hQ, ⟨_, rfl⟩, hW, hsame.mono hC hD⟩
theorem OFin.retV (X : Stand p l e R s m args below meth c T locs cells slots) (hx : p.tables.exec = Jvm.exec) (hlk : meth.locks = false) {pc : Nat} {Ls : Array Slot} {Q : Option Value → Heap → List Loc → Prop} {C D : Nat} (hret : meth.sig.returnType = none) (hd : decode c.code pc = .ok (.return_, 1)) (hC : cells ≤ C) (hD : slots ≤ D) (hQ : Q none T.heap locs) :
    OFin p e below (KPost s Q C D) (T.setTop (mkF m pc Ls [])) := by
  obtain ⟨fs, hr, hrun, hended, hW, hsame⟩ := X.leave (v := none) (fun _ => rfl) hlk
  exact ⟨_, _, X.returnOut hx hret hd hr, hrun, hended, _, _, rfl, hQ, ⟨_, rfl⟩, hW, hsame.mono hC hD⟩
abbrev KPostW (s : State) (Q : Option Value → Heap → List Loc → Prop) (C D : Nat) : Outcome → State → Prop := fun o U' => ∃ v L, o = .returned v ∧ Q v U'.heap L ∧ ReturnedEndW s o U' L C D
theorem OFin.retBW {vm₁ : Vm} {k : Nat} (X : Stand p l e R (s.setVm vm₁) m args below meth c T locs cells slots) (hS : s.Since vm₁ k) (hk : k ≤ T.heap.size) (hx : p.tables.exec = Jvm.exec) (hlk : meth.locks = false) {pc : Nat} {Ls : Array Slot} {z : Int32} {rest : List Value} {Q : Option Value → Heap → List Loc → Prop} {C D : Nat} {t : FieldType} (ht : t = .boolean ∨ t = .byte ∨ t = .char ∨ t = .short) (hret : meth.sig.returnType = some t) (hd : decode c.code pc = .ok (.ireturn, 1)) (hC : cells ≤ C) (hD : slots ≤ D) (hQ : Q (some (.int (nar t z))) T.heap locs) :
    OFin p e below (KPostW s Q C D) (T.setTop (mkF m pc Ls (.int z :: rest))) := by
  obtain ⟨fs, hr, hrun, hended, h1, h2, h3, h4⟩ := X.leaveW hS hk (v := some (.int (nar t z))) (fun h => by rw [hret] at h; cases h) hlk
  exact ⟨_, _, retN X hx hret ht hd hr, hrun, hended, _, _, rfl, hQ, ⟨_, rfl⟩, h2, h3, h4.mono hC hD⟩
theorem own_alen {Z : State} {h : Heap} {a : Addr} {cl : Cell} {ty : FieldType} {z : Int32} {g : JFrame} {rest : List Value} {target : State} (X : Stand p l e R s m args below meth c T locs cells slots) (hx : p.tables.exec = Jvm.exec) (hZ : Z.Warmed39 s.vm) (eT : T.heap = h) (A : Arr Z h a cl ty) (S : cl.slots.size = z.toNatClampNeg) (q : ¬ z < 0) (hg : g.method = m) (hs : g.stack = .ref a :: rest) (hd : decode c.code g.pc = .ok (.arraylength, 1))
    (hr : Steps p.tables e below (T.setTop { g with pc := g.pc + 1, stack := .int z :: rest }) target) : Steps p.tables e below (T.setTop g) target := by
  refine X.arraylength hx (by rw [eT]; exact A.1) (State.isArrayOf_alike hZ.alike A.2.1) hg hs hd _ ?_
  rw [len_of S q]; exact hr
def OwnNoSta (h : Heap) (ws : List Addr) : Prop := ∀ x ∈ ws, ∀ cell : Cell, h[x]? = some cell → cell.vm.isStatics = false
theorem own_sn0 {h : Heap} : OwnNoSta h [] := fun _ q => nomatch q
theorem own_snS {Z : State} {h : Heap} {a : Addr} {C : String} {ws : List Addr} (E : Exa Z h a C) (r : OwnNoSta h ws) : OwnNoSta h (a :: ws) := fun x q cell hc => by
  rcases List.mem_cons.mp q with rfl | q
  · obtain ⟨c', _, h1, -, -, h4, -⟩ := E; cases h1.symm.trans hc; exact h4
  · exact r x q cell hc
theorem own_snV {Z : State} {h : Heap} {a : Addr} {k : ClassId} {ty : FieldType} {z : Int32} {vs : List Value} {dv : Value} {ws : List Addr} (F : Arv Z h a k ty z vs dv) (r : OwnNoSta h ws) : OwnNoSta h (a :: ws) := fun x q cell hc => by
  rcases List.mem_cons.mp q with rfl | q
  · obtain ⟨c', A, -⟩ := F; cases A.1.symm.trans hc; exact A.plain
  · exact r x q cell hc
theorem own_staKeep {Z : State} {h h' : Heap} {C n d : String} {v : Value} {ws : List Addr} (F : Sta Z h C n d v) (K : Keep h h' ws) (q : OwnNoSta h ws) : Sta Z h' C n d v := by
  obtain ⟨cf, i, k, f, st, cell, h1, h2, h3, h4, h5, h6, h7⟩ := F
  refine ⟨cf, i, k, f, st, cell, h1, h2, h3, h4, K.2.1 st cell h5 (fun z => ?_), h6, h7⟩
  have := q st z cell h5
  rw [this] at h6; cases h6
theorem own_pop2L {tb : Tables} [Ours tb] {e : Env} {below : List Frame} {T target : State} {m : MethodId} {c : Code} {g : JFrame} (h : At T m c below) (hx : tb.exec = Jvm.exec) (hg : g.method = m) {x : Int64} {rest : List Value} (hd : decode c.code g.pc = .ok (.pop2, 1)) (hs : g.stack = .long x :: rest)
    (hr : Steps tb e below (T.setTop { g with pc := g.pc + 1, stack := rest }) target) : Steps tb e below (T.setTop g) target := by
  subst hg
  jvm_step h [h.top, hx, hd, hs, Value.category]
  exact hr
end OwnNew
end Jvm.RoadKit
namespace Jvm.Pilot.@@N@@
open Jvm Jvm.ClassFile Sem Op Lib Jvm.Free Jvm.Stand Jvm.LawKit Jvm.RoadKit Bundle Jvm.Pilot.@@N@@.Jvm.D
theorem pd_0 : parseMethodDescriptor "()V" = some ⟨[], none⟩ := by decide +kernel
theorem pd_1 : parseMethodDescriptor "()D" = some ⟨[], some .double⟩ := by decide +kernel
theorem pd_2 : parseMethodDescriptor "(J)V" = some ⟨[.long], none⟩ := by decide +kernel
theorem own_and3 (x : Int32) : x &&& (3 : Int32) = (0 : Int32) ∨ x &&& (3 : Int32) = (1 : Int32) ∨ x &&& (3 : Int32) = (2 : Int32) ∨ x &&& (3 : Int32) = (3 : Int32) := by
  have h2 := c_mask x 3 2 (by decide) (by decide)
  generalize x &&& 3 = z at h2
  have h3 : z.toInt = 0 ∨ z.toInt = 1 ∨ z.toInt = 2 ∨ z.toInt = 3 := by omega
  have e : ∀ k : Int32, z.toInt = k.toInt → z = k := fun k => Int32.toInt_inj.mp
  rcases h3 with h | h | h | h
  · exact Or.inl (e _ h)
  · exact Or.inr (Or.inl (e _ h))
  · exact Or.inr (Or.inr (Or.inl (e _ h)))
  · exact Or.inr (Or.inr (Or.inr (e _ h)))
theorem own_nz64 {w : Int64} (h : w ≠ 0) : ¬ FP.Core.DZero (FP.l2d w) := fun z => FP.Core.l2d_ne_zero h ((FP.Core.zero_bits2 _).mp z)
theorem own_nn (t : Int64) {w : Int64} (h : w ≠ 0) : Jvm.Free.Fl.NoNaN64 (FP.ddiv (FP.l2d t) (FP.l2d w)) :=
  Jvm.Free.Fl.noNaN64_no.mpr (FP.Core.ddiv_out (FP.Core.l2d_notNaN t) (FP.Core.l2d_fin w) (own_nz64 h))
theorem own_nn0 : Jvm.Free.Fl.NoNaN64 FP.dconst0 := by unfold Jvm.Free.Fl.NoNaN64; decide +kernel
theorem own_two : FP.l2d 2 = (4611686018427387904 : UInt64) := by decide +kernel
theorem own_three : FP.l2d 3 = (4613937818241073152 : UInt64) := by decide +kernel
theorem own_one : FP.l2d 1 = FP.Core.dconst1 := by decide +kernel
theorem own_nn2 (t : Int64) : Jvm.Free.Fl.NoNaN64 (FP.ddiv (FP.l2d t) (4611686018427387904 : UInt64)) := by
  rw [← own_two]; exact own_nn t (by decide)
theorem own_nn3 (t : Int64) : Jvm.Free.Fl.NoNaN64 (FP.ddiv (FP.l2d t) (4613937818241073152 : UInt64)) := by
  rw [← own_three]; exact own_nn t (by decide)
theorem own_nni (t : Int64) {w : Int32} (h : w.toInt64 ≠ 0) : Jvm.Free.Fl.NoNaN64 (FP.ddiv (FP.l2d t) (FP.i2d w)) := by
  rw [i2d_w]; exact own_nn t h
theorem own_div1 (a : Int64) : FP.ddiv (FP.l2d ((0 : Int64) + a)) (FP.l2d (1 : Int64)) = FP.l2d a := by
  rw [Int64.zero_add, own_one]; exact FP.Core.ddiv_one (FP.Core.l2d_fin a).ne_nan
theorem own_div2 (a b : Int64) : FP.ddiv (FP.l2d (((0 : Int64) + a) + b)) (FP.l2d (2 : Int64)) = FP.ddiv (FP.l2d (a + b)) (4611686018427387904 : UInt64) := by
  rw [Int64.zero_add, own_two]
theorem own_div3 (a b c : Int64) : FP.ddiv (FP.l2d ((((0 : Int64) + a) + b) + c)) (FP.l2d (3 : Int64)) = FP.ddiv (FP.l2d ((a + b) + c)) (4613937818241073152 : UInt64) := by
  rw [Int64.zero_add, own_three]
theorem own_i1 : FP.i2d (1 : Int32) = FP.l2d (1 : Int64) := by rw [i2d_w]; rfl
theorem own_i2 : FP.i2d (2 : Int32) = FP.l2d (2 : Int64) := by rw [i2d_w]; rfl
theorem own_i3 : FP.i2d (3 : Int32) = FP.l2d (3 : Int64) := by rw [i2d_w]; rfl
theorem own_e1 (a : Int64) : FP.ddiv (FP.l2d ((0 : Int64) + a)) (FP.l2d (1 : Int64)) = FP.ddiv (FP.l2d ((a + (0 : Int64)) + (0 : Int64))) (FP.i2d (1 : Int32)) := by
  rw [Int64.zero_add, Int64.add_zero, Int64.add_zero, own_i1]
theorem own_e2 (a b : Int64) : FP.ddiv (FP.l2d (((0 : Int64) + a) + b)) (FP.l2d (2 : Int64)) = FP.ddiv (FP.l2d ((a + b) + (0 : Int64))) (FP.i2d (2 : Int32)) := by
  rw [Int64.zero_add, Int64.add_zero, own_i2]
theorem own_e3 (a b c : Int64) : FP.ddiv (FP.l2d ((((0 : Int64) + a) + b) + c)) (FP.l2d (3 : Int64)) = FP.ddiv (FP.l2d ((a + b) + c)) (FP.i2d (3 : Int32)) := by
  rw [Int64.zero_add, own_i3]
theorem own_ge0 {T k : Int64} (hT : 0 ≤ T.toInt) (hk : 0 < k.toInt) : ¬ cmpValue (FP.dcmp (FP.ddiv (FP.l2d T) (FP.l2d k)) FP.dconst0) .l < (0 : Int32) := by
  have hkz : k ≠ 0 := fun q => by subst q; exact absurd hk (by decide)
  have hd := own_nz64 hkz
  obtain ⟨c, q, e1⟩ := FP.Core.l2d_shape T
  obtain ⟨d, r, e2⟩ := FP.Core.l2d_shape k
  rw [show decide (T.toInt < 0) = false from decide_eq_false (by omega)] at e1
  rw [show decide (k.toInt < 0) = false from decide_eq_false (by omega)] at e2
  have hd0 : d ≠ 0 := fun z => hd ⟨false, r, by subst z; exact e2⟩
  have h1 : FP.Core.val64 (FP.ddiv (FP.l2d T) (FP.l2d k)) = FP.Core.roundRatio FP.Core.b64 false c d (q - r) := by
    have h := FP.Core.val64_ddiv (FP.l2d T) (FP.l2d k)
    rw [e1, e2] at h
    refine h.trans ?_
    show (if d = 0 then _ else _) = _
    rw [if_neg hd0]; rfl
  have h2 : FP.dcmp (FP.ddiv (FP.l2d T) (FP.l2d k)) FP.dconst0 = FP.Core.order (FP.Core.val64 (FP.ddiv (FP.l2d T) (FP.l2d k))) (FP.Core.val64 FP.dconst0) := rfl
  have h3 : FP.Core.val64 FP.dconst0 = .fin false 0 FP.Core.b64.qmin := FP.Core.val64_dconst0
  rw [h2, h1, h3]
  rcases FP.Core.roundRatio_cases FP.Core.b64 false c d (q - r) with ⟨c', q', h⟩ | h
  · rw [h]
    show ¬ cmpValue (some (compare (FP.Core.signed false (FP.Core.inUnits c' q' _)) (FP.Core.signed false (FP.Core.inUnits 0 _ _)))) .l < (0 : Int32)
    have z : FP.Core.signed false (FP.Core.inUnits 0 FP.Core.b64.qmin (min q' FP.Core.b64.qmin)) = 0 := by simp [FP.Core.signed, FP.Core.inUnits]
    rw [z]
    have g : 0 ≤ FP.Core.signed false (FP.Core.inUnits c' q' (min q' FP.Core.b64.qmin)) := by simp [FP.Core.signed]
    generalize FP.Core.signed false (FP.Core.inUnits c' q' (min q' FP.Core.b64.qmin)) = w at g
    rw [FP.Core.compare_ite, if_neg (by omega)]
    split <;> decide
  · rw [h]; decide
theorem own_m61 (x : Int64) : 0 ≤ (x &&& (2305843009213693951 : Int64)).toInt ∧ (x &&& (2305843009213693951 : Int64)).toInt < 2305843009213693952 := by
  have h := c_maskL x 2305843009213693951 61 (by decide) (by decide)
  have p : ((2 ^ 61 : Nat) : Int) = 2305843009213693952 := by decide
  rw [p] at h
  omega
theorem own_p1 (a : Int64) : 0 ≤ ((0 : Int64) + (a &&& (2305843009213693951 : Int64))).toInt := by
  rw [Int64.zero_add]; exact (own_m61 a).1
theorem own_p2 (a b : Int64) : 0 ≤ (((0 : Int64) + (a &&& (2305843009213693951 : Int64))) + (b &&& (2305843009213693951 : Int64))).toInt := by
  rw [Int64.zero_add]
  have h1 := own_m61 a
  have h2 := own_m61 b
  have h3 := c_ladd (a &&& 2305843009213693951) (b &&& 2305843009213693951)
  have h4 := rng64 ((a &&& 2305843009213693951) + (b &&& 2305843009213693951))
  omega
theorem own_p3 (a b c : Int64) : 0 ≤ ((((0 : Int64) + (a &&& (2305843009213693951 : Int64))) + (b &&& (2305843009213693951 : Int64))) + (c &&& (2305843009213693951 : Int64))).toInt := by
  rw [Int64.zero_add]
  have h1 := own_m61 a
  have h2 := own_m61 b
  have h5 := own_m61 c
  have h3 := c_ladd (a &&& 2305843009213693951) (b &&& 2305843009213693951)
  have h4 := rng64 ((a &&& 2305843009213693951) + (b &&& 2305843009213693951))
  have h6 := c_ladd ((a &&& 2305843009213693951) + (b &&& 2305843009213693951)) (c &&& 2305843009213693951)
  have h7 := rng64 (((a &&& 2305843009213693951) + (b &&& 2305843009213693951)) + (c &&& 2305843009213693951))
  omega
theorem dIni_0 : decode prog_71_method_1_code 0 = .ok (.aload_n 0, 1) := by decide +kernel
theorem dIni_1 : decode prog_71_method_1_code 1 = .ok (.invokespecial 1, 3) := by decide +kernel
theorem dIni_4 : decode prog_71_method_1_code 4 = .ok (.return_, 1) := by decide +kernel
theorem pnIni : plainName "com/example/kindred_mesh/kindredmesh/peer/SearchTime" = true := by first | (simp [plainName, overriddenIn]; done) | decide +kernel
theorem efIni (m : MethodId) (a0 : Addr) : entryFrame m #[(.ref a0)] 1 = mkF m 0 #[.val (.ref a0)] [] := by first | (simp [entryFrame, mkF, argsToLocals, Value.category]; done) | rfl
def QIni (Z : State) (a0 : Addr) (h0 : Heap) (n0 : Nat) (v : Option Value) (h : Heap) (L : List Loc) : Prop := v = none ∧ Fr n0 L ∧ h = h0
set_option maxRecDepth 65536 in
set_option maxHeartbeats 40000000 in
theorem rmIni (l : Launch) (Z : State) (a0 : Array Value) (hw : ∀ d ∈ tables_1, d.before a0 Z = true) (ws : List Jvm.Cond) (a0 : Addr) (h0 : Heap) (n0 : Nat) (Z0 : n0 ≤ h0.size)  :
    MetFree l (⟨"com/example/kindred_mesh/kindredmesh/peer/SearchTime", "<init>", "()V"⟩ : MethodName) (head1 (Jvm.Cond.code (⟨"com/example/kindred_mesh/kindredmesh/peer/SearchTime", "<init>", "()V"⟩ : MethodName) prog_71_method_1_code 1 none :: ws) ({ frames := 1, cells := 0, slots := 0, locals := 12 } : Room)) (fun a U => a = #[(.ref a0)] ∧ Z.Warmed39 U.vm ∧ U.heap = h0) (fun _ _ _ _ _ => True) (fun _ U o U' => ∃ v L, o = .returned v ∧ QIni Z a0 h0 n0 v U'.heap L ∧ FrameEnd U o U' L ({ frames := 1, cells := 0, slots := 0, locals := 12 } : Room).cells ({ frames := 1, cells := 0, slots := 0, locals := 12 } : Room).slots) := by
  refine MetFree.of_bodySF (plainFor_of_name pnIni) hisR ?_
  intro p e s m args below meth c s₁ Bd hml0 hP hK
  obtain ⟨rfl, hZ, hh⟩ := hP
  have hx := Bd.exec
  have hby := Bd.bytes
  have hlk := BodyLoose.notSynchronized Bd
  have hret := Bd.returns
  have hml : c.maxLocals = 1 := hml0
  have hown : s.vm.findClass "com/example/kindred_mesh/kindredmesh/peer/SearchTime" = some m.cls := findClass_of_methodNamed Bd.named
  have hnm := (name_of_methodNamed Bd.named Bd.method).1
  have X0 : Stand p l e ({ frames := 1, cells := 0, slots := 0, locals := 12 } : Room) s m #[(.ref a0)] below meth c s₁ [] 0 0 := Stand.of_body Bd
  have e0 : s₁.heap = h0 := by rw [← hh, Bd.state]; rfl
  have N0 := Fr.nil n0
  show OFin p e below (KPost s (QIni Z a0 h0 n0) ({ frames := 1, cells := 0, slots := 0, locals := 12 } : Room).cells ({ frames := 1, cells := 0, slots := 0, locals := 12 } : Room).slots) _
  rw [efIni m a0]
  refine OFin.of (S' := s₁.setTop (mkF m 1 #[.val (.ref a0)] [(.ref a0)])) (fun t ht => ?_) ?_
  · refine XS.aloadN X0.here hx rfl (hb hby dIni_0) rfl rfl ?_
    exact ht
  obtain ⟨T1, X1, e1, st1⟩ := initO X0 hx hZ hown (hw _ (List.mem_of_getElem? (i := 7) rfl)) (hw _ (List.mem_of_getElem? (i := 8) rfl)) (hw _ (List.mem_of_getElem? (i := 9) rfl)) e0 (g := (mkF m 1 #[.val (.ref a0)] [(.ref a0)])) rfl (by rw [hml]; rfl) rfl (hb hby dIni_1) (by decide) (W := 0) (by show 2 * 0 + _ ≤ _; exact Nat.le_of_eq rfl) (by decide)
  refine OFin.of (S' := T1.setTop (mkF m 4 #[.val (.ref a0)] [])) (fun t ht => st1 t ht) ?_
  exact OFin.retV X1 hx hlk hret (hb hby dIni_4) (by decide) (by decide) (by rw [e1]; exact ⟨rfl, N0, rfl⟩)
theorem dSv_0 : decode prog_71_method_2_code 0 = .ok (.aload_n 0, 1) := by decide +kernel
theorem dSv_1 : decode prog_71_method_2_code 1 = .ok (.dup, 1) := by decide +kernel
theorem dSv_2 : decode prog_71_method_2_code 2 = .ok (.getfield 7, 3) := by decide +kernel
theorem dSv_5 : decode prog_71_method_2_code 5 = .ok (.lconst 1, 1) := by decide +kernel
theorem dSv_6 : decode prog_71_method_2_code 6 = .ok (.ladd, 1) := by decide +kernel
theorem dSv_7 : decode prog_71_method_2_code 7 = .ok (.putfield 7, 3) := by decide +kernel
theorem dSv_10 : decode prog_71_method_2_code 10 = .ok (.aload_n 0, 1) := by decide +kernel
theorem dSv_11 : decode prog_71_method_2_code 11 = .ok (.dup, 1) := by decide +kernel
theorem dSv_12 : decode prog_71_method_2_code 12 = .ok (.getfield 13, 3) := by decide +kernel
theorem dSv_15 : decode prog_71_method_2_code 15 = .ok (.lload_n 1, 1) := by decide +kernel
theorem dSv_16 : decode prog_71_method_2_code 16 = .ok (.ladd, 1) := by decide +kernel
theorem dSv_17 : decode prog_71_method_2_code 17 = .ok (.putfield 13, 3) := by decide +kernel
theorem dSv_20 : decode prog_71_method_2_code 20 = .ok (.return_, 1) := by decide +kernel
theorem pnSv : plainName "com/example/kindred_mesh/kindredmesh/peer/SearchTime" = true := by first | (simp [plainName, overriddenIn]; done) | decide +kernel
theorem efSv (m : MethodId) (a0 : Addr) (q1 : Int64) : entryFrame m #[(.ref a0), (.long q1)] 3 = mkF m 0 #[.val (.ref a0), .val (.long q1), .second] [] := by first | (simp [entryFrame, mkF, argsToLocals, Value.category]; done) | rfl
def QSv (Z : State) (a0 : Addr) (q1 : Int64) (ww : Int64) (tt : Int64) (mm : UInt64) (h0 : Heap) (n0 : Nat) (v : Option Value) (h : Heap) (L : List Loc) : Prop := v = none ∧ Fr n0 L ∧ Keep h0 h [a0] ∧ Fld Z h a0 "com/example/kindred_mesh/kindredmesh/peer/SearchTime" "served" "J" (.long (ww + (1 : Int64))) ∧ Fld Z h a0 "com/example/kindred_mesh/kindredmesh/peer/SearchTime" "total" "J" (.long (tt + q1)) ∧ Fld Z h a0 "com/example/kindred_mesh/kindredmesh/peer/SearchTime" "lastMean" "D" (.double mm)
set_option maxRecDepth 65536 in
set_option maxHeartbeats 40000000 in
theorem rmSv (l : Launch) (Z : State) (a0 : Array Value) (hw : ∀ d ∈ tables_1, d.before a0 Z = true) (ws : List Jvm.Cond) (a0 : Addr) (q1 : Int64) (ww : Int64) (tt : Int64) (mm : UInt64) (h0 : Heap) (n0 : Nat) (Z0 : n0 ≤ h0.size) (E0 : Exa Z h0 a0 "com/example/kindred_mesh/kindredmesh/peer/SearchTime") (F_served : Fld Z h0 a0 "com/example/kindred_mesh/kindredmesh/peer/SearchTime" "served" "J" (.long ww)) (F_total : Fld Z h0 a0 "com/example/kindred_mesh/kindredmesh/peer/SearchTime" "total" "J" (.long tt)) (F_lastMean : Fld Z h0 a0 "com/example/kindred_mesh/kindredmesh/peer/SearchTime" "lastMean" "D" (.double mm)) (g0 : n0 ≤ a0) :
    MetFree l (⟨"com/example/kindred_mesh/kindredmesh/peer/SearchTime", "served", "(J)V"⟩ : MethodName) (head1 (Jvm.Cond.code (⟨"com/example/kindred_mesh/kindredmesh/peer/SearchTime", "served", "(J)V"⟩ : MethodName) prog_71_method_2_code 3 none :: ws) ({ frames := 0, cells := 0, slots := 0, locals := 0 } : Room)) (fun a U => a = #[(.ref a0), (.long q1)] ∧ Z.Warmed39 U.vm ∧ U.heap = h0) (fun _ _ _ _ _ => True) (fun _ U o U' => ∃ v L, o = .returned v ∧ QSv Z a0 q1 ww tt mm h0 n0 v U'.heap L ∧ FrameEnd U o U' L ({ frames := 0, cells := 0, slots := 0, locals := 0 } : Room).cells ({ frames := 0, cells := 0, slots := 0, locals := 0 } : Room).slots) := by
  refine MetFree.of_bodySF (plainFor_of_name pnSv) hisR ?_
  intro p e s m args below meth c s₁ Bd hml0 hP hK
  obtain ⟨rfl, hZ, hh⟩ := hP
  have hx := Bd.exec
  have hby := Bd.bytes
  have hlk := BodyLoose.notSynchronized Bd
  have hret := Bd.returns
  have hml : c.maxLocals = 3 := hml0
  have hown : s.vm.findClass "com/example/kindred_mesh/kindredmesh/peer/SearchTime" = some m.cls := findClass_of_methodNamed Bd.named
  have hnm := (name_of_methodNamed Bd.named Bd.method).1
  have X0 : Stand p l e ({ frames := 0, cells := 0, slots := 0, locals := 0 } : Room) s m #[(.ref a0), (.long q1)] below meth c s₁ [] 0 0 := Stand.of_body Bd
  have e0 : s₁.heap = h0 := by rw [← hh, Bd.state]; rfl
  have N0 := Fr.nil n0
  show OFin p e below (KPost s (QSv Z a0 q1 ww tt mm h0 n0) ({ frames := 0, cells := 0, slots := 0, locals := 0 } : Room).cells ({ frames := 0, cells := 0, slots := 0, locals := 0 } : Room).slots) _
  rw [efSv m a0 q1]
  have K0 : Keep h0 h0 [a0] := Keep.refl _ _
  refine OFin.of (S' := s₁.setTop (mkF m 2 #[.val (.ref a0), .val (.long q1), .second] [(.ref a0), (.ref a0)])) (fun t ht => ?_) ?_
  · refine XS.aloadN X0.here hx rfl (hb hby dSv_0) rfl rfl ?_
    show Steps p.tables e below (s₁.setTop (mkF m 1 _ [(.ref a0)])) _
    refine XS.dup X0.here hx rfl (hb hby dSv_1) rfl rfl ?_
    exact ht
  obtain ⟨T1, X1, e1, st1⟩ := getF X0 hx hZ hown (host := "") (Or.inl (hw _ (List.mem_of_getElem? (i := 15) rfl))) Via.refl e0 F_served (g := (mkF m 2 #[.val (.ref a0), .val (.long q1), .second] [(.ref a0), (.ref a0)])) rfl rfl (hb hby dSv_2)
  refine OFin.of (S' := T1.setTop (mkF m 5 #[.val (.ref a0), .val (.long q1), .second] [(.long ww), (.ref a0)])) (fun t ht => st1 t ht) ?_
  refine OFin.of (S' := T1.setTop (mkF m 7 #[.val (.ref a0), .val (.long q1), .second] [(.long (ww + (1 : Int64))), (.ref a0)])) (fun t ht => ?_) ?_
  · refine XS.lconst X1.here hx rfl (hb hby dSv_5) ?_
    show Steps p.tables e below (T1.setTop (mkF m 6 _ [(.long (1 : Int64)), (.long ww), (.ref a0)])) _
    refine XS.ladd X1.here hx rfl (hb hby dSv_6) rfl ?_
    exact ht
  obtain ⟨T2, h2, X2, e2, W2, st2⟩ := putF X1 hx hZ hown (host := "") (Or.inl (hw _ (List.mem_of_getElem? (i := 15) rfl))) Via.refl e1 F_served E0 (Or.inl (hw _ (List.mem_of_getElem? (i := 16) rfl))) (hw _ (List.mem_of_getElem? (i := 2) rfl)) (ty := .long) (by decide) rfl rfl (g := (mkF m 7 #[.val (.ref a0), .val (.long q1), .second] [(.long (ww + (1 : Int64))), (.ref a0)])) rfl rfl (hb hby dSv_7)
  have f3 := (E0.wr W2)
  have f4 := (F_total.other W2 (Or.inr (slot_ne (Or.inl (hw _ (List.mem_of_getElem? (i := 18) rfl))) (Or.inl (hw _ (List.mem_of_getElem? (i := 16) rfl))) (by decide) (t := .long) (t' := .long) (by decide) (by decide))))
  have f5 := (F_lastMean.other W2 (Or.inr (slot_ne (Or.inl (hw _ (List.mem_of_getElem? (i := 25) rfl))) (Or.inl (hw _ (List.mem_of_getElem? (i := 16) rfl))) (by decide) (t := .double) (t' := .long) (by decide) (by decide))))
  have Z6 : n0 ≤ h2.size := (Nat.le_trans Z0 (Keep.of_wr W2).1)
  have K7 : Keep h0 h2 [a0] := (K0.wr W2 (Or.inl (List.mem_of_getElem? (i := 0) rfl)))
  have N8 := Fr.snoc X2 N0 g0
  have f9 : Fld Z h2 a0 "com/example/kindred_mesh/kindredmesh/peer/SearchTime" "served" "J" (.long (ww + (1 : Int64))) := (F_served.same W2)
  refine OFin.of (S' := T2.setTop (mkF m 10 #[.val (.ref a0), .val (.long q1), .second] [])) (fun t ht => st2 t ht) ?_
  refine OFin.of (S' := T2.setTop (mkF m 12 #[.val (.ref a0), .val (.long q1), .second] [(.ref a0), (.ref a0)])) (fun t ht => ?_) ?_
  · refine XS.aloadN X2.here hx rfl (hb hby dSv_10) rfl rfl ?_
    show Steps p.tables e below (T2.setTop (mkF m 11 _ [(.ref a0)])) _
    refine XS.dup X2.here hx rfl (hb hby dSv_11) rfl rfl ?_
    exact ht
  obtain ⟨T10, X10, e10, st10⟩ := getF X2 hx hZ hown (host := "") (Or.inl (hw _ (List.mem_of_getElem? (i := 17) rfl))) Via.refl e2 f4 (g := (mkF m 12 #[.val (.ref a0), .val (.long q1), .second] [(.ref a0), (.ref a0)])) rfl rfl (hb hby dSv_12)
  refine OFin.of (S' := T10.setTop (mkF m 15 #[.val (.ref a0), .val (.long q1), .second] [(.long tt), (.ref a0)])) (fun t ht => st10 t ht) ?_
  refine OFin.of (S' := T10.setTop (mkF m 17 #[.val (.ref a0), .val (.long q1), .second] [(.long (tt + q1)), (.ref a0)])) (fun t ht => ?_) ?_
  · refine XS.lloadN X10.here hx rfl (hb hby dSv_15) rfl ?_
    show Steps p.tables e below (T10.setTop (mkF m 16 _ [(.long q1), (.long tt), (.ref a0)])) _
    refine XS.ladd X10.here hx rfl (hb hby dSv_16) rfl ?_
    exact ht
  obtain ⟨T11, h11, X11, e11, W11, st11⟩ := putF X10 hx hZ hown (host := "") (Or.inl (hw _ (List.mem_of_getElem? (i := 17) rfl))) Via.refl e10 f4 f3 (Or.inl (hw _ (List.mem_of_getElem? (i := 18) rfl))) (hw _ (List.mem_of_getElem? (i := 2) rfl)) (ty := .long) (by decide) rfl rfl (g := (mkF m 17 #[.val (.ref a0), .val (.long q1), .second] [(.long (tt + q1)), (.ref a0)])) rfl rfl (hb hby dSv_17)
  have f12 := (f3.wr W11)
  have f13 := (f5.other W11 (Or.inr (slot_ne (Or.inl (hw _ (List.mem_of_getElem? (i := 25) rfl))) (Or.inl (hw _ (List.mem_of_getElem? (i := 18) rfl))) (by decide) (t := .double) (t' := .long) (by decide) (by decide))))
  have f14 := (f9.other W11 (Or.inr (slot_ne (Or.inl (hw _ (List.mem_of_getElem? (i := 16) rfl))) (Or.inl (hw _ (List.mem_of_getElem? (i := 18) rfl))) (by decide) (t := .long) (t' := .long) (by decide) (by decide))))
  have Z15 : n0 ≤ h11.size := (Nat.le_trans Z6 (Keep.of_wr W11).1)
  have K16 : Keep h0 h11 [a0] := (K7.wr W11 (Or.inl (List.mem_of_getElem? (i := 0) rfl)))
  have N17 := Fr.snoc X11 N8 g0
  have f18 : Fld Z h11 a0 "com/example/kindred_mesh/kindredmesh/peer/SearchTime" "total" "J" (.long (tt + q1)) := (f4.same W11)
  refine OFin.of (S' := T11.setTop (mkF m 20 #[.val (.ref a0), .val (.long q1), .second] [])) (fun t ht => st11 t ht) ?_
  exact OFin.retV X11 hx hlk hret (hb hby dSv_20) (by decide) (by decide) (by rw [e11]; exact ⟨rfl, N17, K16, f14, f18, f13⟩)
theorem dNp0_0 : decode prog_71_method_3_code 0 = .ok (.aload_n 0, 1) := by decide +kernel
theorem dNp0_1 : decode prog_71_method_3_code 1 = .ok (.aload_n 0, 1) := by decide +kernel
theorem dNp0_2 : decode prog_71_method_3_code 2 = .ok (.getfield 7, 3) := by decide +kernel
theorem dNp0_5 : decode prog_71_method_3_code 5 = .ok (.lconst 0, 1) := by decide +kernel
theorem dNp0_6 : decode prog_71_method_3_code 6 = .ok (.lcmp, 1) := by decide +kernel
theorem dNp0_7 : decode prog_71_method_3_code 7 = .ok (.ifCond .ne 7, 3) := by decide +kernel
theorem dNp0_10 : decode prog_71_method_3_code 10 = .ok (.dconst 0, 1) := by decide +kernel
theorem dNp0_11 : decode prog_71_method_3_code 11 = .ok (.goto 14, 3) := by decide +kernel
theorem dNp0_25 : decode prog_71_method_3_code 25 = .ok (.putfield 16, 3) := by decide +kernel
theorem dNp0_28 : decode prog_71_method_3_code 28 = .ok (.aload_n 0, 1) := by decide +kernel
theorem dNp0_29 : decode prog_71_method_3_code 29 = .ok (.lconst 0, 1) := by decide +kernel
theorem dNp0_30 : decode prog_71_method_3_code 30 = .ok (.putfield 7, 3) := by decide +kernel
theorem dNp0_33 : decode prog_71_method_3_code 33 = .ok (.aload_n 0, 1) := by decide +kernel
theorem dNp0_34 : decode prog_71_method_3_code 34 = .ok (.lconst 0, 1) := by decide +kernel
theorem dNp0_35 : decode prog_71_method_3_code 35 = .ok (.putfield 13, 3) := by decide +kernel
theorem dNp0_38 : decode prog_71_method_3_code 38 = .ok (.return_, 1) := by decide +kernel
theorem pnNp0 : plainName "com/example/kindred_mesh/kindredmesh/peer/SearchTime" = true := by first | (simp [plainName, overriddenIn]; done) | decide +kernel
theorem efNp0 (m : MethodId) (a0 : Addr) : entryFrame m #[(.ref a0)] 1 = mkF m 0 #[.val (.ref a0)] [] := by first | (simp [entryFrame, mkF, argsToLocals, Value.category]; done) | rfl
def QNp0 (Z : State) (a0 : Addr) (ww : Int64) (tt : Int64) (mm : UInt64) (h0 : Heap) (n0 : Nat) (v : Option Value) (h : Heap) (L : List Loc) : Prop := v = none ∧ Fr n0 L ∧ Keep h0 h [a0] ∧ Fld Z h a0 "com/example/kindred_mesh/kindredmesh/peer/SearchTime" "served" "J" (.long (0 : Int64)) ∧ Fld Z h a0 "com/example/kindred_mesh/kindredmesh/peer/SearchTime" "total" "J" (.long (0 : Int64)) ∧ Fld Z h a0 "com/example/kindred_mesh/kindredmesh/peer/SearchTime" "lastMean" "D" (.double FP.dconst0)
set_option maxRecDepth 65536 in
set_option maxHeartbeats 40000000 in
theorem rmNp0 (l : Launch) (Z : State) (a0 : Array Value) (hw : ∀ d ∈ tables_1, d.before a0 Z = true) (ws : List Jvm.Cond) (a0 : Addr) (ww : Int64) (tt : Int64) (mm : UInt64) (h0 : Heap) (n0 : Nat) (Z0 : n0 ≤ h0.size) (E0 : Exa Z h0 a0 "com/example/kindred_mesh/kindredmesh/peer/SearchTime") (F_served : Fld Z h0 a0 "com/example/kindred_mesh/kindredmesh/peer/SearchTime" "served" "J" (.long ww)) (F_total : Fld Z h0 a0 "com/example/kindred_mesh/kindredmesh/peer/SearchTime" "total" "J" (.long tt)) (F_lastMean : Fld Z h0 a0 "com/example/kindred_mesh/kindredmesh/peer/SearchTime" "lastMean" "D" (.double mm)) (g0 : n0 ≤ a0) (hz : (lcmpW ww (0 : Int64)) = (0 : Int32)) :
    MetFree l (⟨"com/example/kindred_mesh/kindredmesh/peer/SearchTime", "newPeriod", "()V"⟩ : MethodName) (head1 (Jvm.Cond.code (⟨"com/example/kindred_mesh/kindredmesh/peer/SearchTime", "newPeriod", "()V"⟩ : MethodName) prog_71_method_3_code 1 none :: ws) ({ frames := 0, cells := 0, slots := 0, locals := 0 } : Room)) (fun a U => a = #[(.ref a0)] ∧ Z.Warmed39 U.vm ∧ U.heap = h0) (fun _ _ _ _ _ => True) (fun _ U o U' => ∃ v L, o = .returned v ∧ QNp0 Z a0 ww tt mm h0 n0 v U'.heap L ∧ FrameEnd U o U' L ({ frames := 0, cells := 0, slots := 0, locals := 0 } : Room).cells ({ frames := 0, cells := 0, slots := 0, locals := 0 } : Room).slots) := by
  refine MetFree.of_bodySF (plainFor_of_name pnNp0) hisR ?_
  intro p e s m args below meth c s₁ Bd hml0 hP hK
  obtain ⟨rfl, hZ, hh⟩ := hP
  have hx := Bd.exec
  have hby := Bd.bytes
  have hlk := BodyLoose.notSynchronized Bd
  have hret := Bd.returns
  have hml : c.maxLocals = 1 := hml0
  have hown : s.vm.findClass "com/example/kindred_mesh/kindredmesh/peer/SearchTime" = some m.cls := findClass_of_methodNamed Bd.named
  have hnm := (name_of_methodNamed Bd.named Bd.method).1
  have X0 : Stand p l e ({ frames := 0, cells := 0, slots := 0, locals := 0 } : Room) s m #[(.ref a0)] below meth c s₁ [] 0 0 := Stand.of_body Bd
  have e0 : s₁.heap = h0 := by rw [← hh, Bd.state]; rfl
  have N0 := Fr.nil n0
  show OFin p e below (KPost s (QNp0 Z a0 ww tt mm h0 n0) ({ frames := 0, cells := 0, slots := 0, locals := 0 } : Room).cells ({ frames := 0, cells := 0, slots := 0, locals := 0 } : Room).slots) _
  rw [efNp0 m a0]
  have K0 : Keep h0 h0 [a0] := Keep.refl _ _
  refine OFin.of (S' := s₁.setTop (mkF m 2 #[.val (.ref a0)] [(.ref a0), (.ref a0)])) (fun t ht => ?_) ?_
  · refine XS.aloadN X0.here hx rfl (hb hby dNp0_0) rfl rfl ?_
    show Steps p.tables e below (s₁.setTop (mkF m 1 _ [(.ref a0)])) _
    refine XS.aloadN X0.here hx rfl (hb hby dNp0_1) rfl rfl ?_
    exact ht
  obtain ⟨T1, X1, e1, st1⟩ := getF X0 hx hZ hown (host := "") (Or.inl (hw _ (List.mem_of_getElem? (i := 15) rfl))) Via.refl e0 F_served (g := (mkF m 2 #[.val (.ref a0)] [(.ref a0), (.ref a0)])) rfl rfl (hb hby dNp0_2)
  refine OFin.of (S' := T1.setTop (mkF m 5 #[.val (.ref a0)] [(.long ww), (.ref a0)])) (fun t ht => st1 t ht) ?_
  refine OFin.of (S' := T1.setTop (mkF m 25 #[.val (.ref a0)] [(.double FP.dconst0), (.ref a0)])) (fun t ht => ?_) ?_
  · refine XS.lconst X1.here hx rfl (hb hby dNp0_5) ?_
    show Steps p.tables e below (T1.setTop (mkF m 6 _ [(.long (0 : Int64)), (.long ww), (.ref a0)])) _
    refine XS.lcmp X1.here hx rfl (hb hby dNp0_6) rfl ?_
    show Steps p.tables e below (T1.setTop (mkF m 7 _ [(.int (lcmpW ww (0 : Int64))), (.ref a0)])) _
    refine XS.ifNo X1.here hx rfl (hb hby dNp0_7) rfl ((if0 _ _).trans (teq (hz : (lcmpW ww (0 : Int64)) = (0 : Int32))).2) ?_
    show Steps p.tables e below (T1.setTop (mkF m 10 _ [(.ref a0)])) _
    refine XS.dconst0 X1.here hx rfl (hb hby dNp0_10) rfl ?_
    show Steps p.tables e below (T1.setTop (mkF m 11 _ [(.double FP.dconst0), (.ref a0)])) _
    refine XS.goto X1.here hx rfl (pc0 := 11) (pc' := 25) rfl (hb hby dNp0_11) (by decide) (by decide) ?_
    exact ht
  obtain ⟨T2, h2, X2, e2, W2, st2⟩ := putF X1 hx hZ hown (host := "") (Or.inl (hw _ (List.mem_of_getElem? (i := 24) rfl))) Via.refl e1 F_lastMean E0 (Or.inl (hw _ (List.mem_of_getElem? (i := 25) rfl))) (hw _ (List.mem_of_getElem? (i := 2) rfl)) (ty := .double) (by decide) rfl rfl (g := (mkF m 25 #[.val (.ref a0)] [(.double FP.dconst0), (.ref a0)])) rfl rfl (hb hby dNp0_25)
  have f3 := (E0.wr W2)
  have f4 := (F_served.other W2 (Or.inr (slot_ne (Or.inl (hw _ (List.mem_of_getElem? (i := 16) rfl))) (Or.inl (hw _ (List.mem_of_getElem? (i := 25) rfl))) (by decide) (t := .long) (t' := .double) (by decide) (by decide))))
  have f5 := (F_total.other W2 (Or.inr (slot_ne (Or.inl (hw _ (List.mem_of_getElem? (i := 18) rfl))) (Or.inl (hw _ (List.mem_of_getElem? (i := 25) rfl))) (by decide) (t := .long) (t' := .double) (by decide) (by decide))))
  have Z6 : n0 ≤ h2.size := (Nat.le_trans Z0 (Keep.of_wr W2).1)
  have K7 : Keep h0 h2 [a0] := (K0.wr W2 (Or.inl (List.mem_of_getElem? (i := 0) rfl)))
  have N8 := Fr.snoc X2 N0 g0
  have f9 : Fld Z h2 a0 "com/example/kindred_mesh/kindredmesh/peer/SearchTime" "lastMean" "D" (.double FP.dconst0) := (F_lastMean.same W2)
  refine OFin.of (S' := T2.setTop (mkF m 28 #[.val (.ref a0)] [])) (fun t ht => st2 t ht) ?_
  refine OFin.of (S' := T2.setTop (mkF m 30 #[.val (.ref a0)] [(.long (0 : Int64)), (.ref a0)])) (fun t ht => ?_) ?_
  · refine XS.aloadN X2.here hx rfl (hb hby dNp0_28) rfl rfl ?_
    show Steps p.tables e below (T2.setTop (mkF m 29 _ [(.ref a0)])) _
    refine XS.lconst X2.here hx rfl (hb hby dNp0_29) ?_
    exact ht
  obtain ⟨T10, h10, X10, e10, W10, st10⟩ := putF X2 hx hZ hown (host := "") (Or.inl (hw _ (List.mem_of_getElem? (i := 15) rfl))) Via.refl e2 f4 f3 (Or.inl (hw _ (List.mem_of_getElem? (i := 16) rfl))) (hw _ (List.mem_of_getElem? (i := 2) rfl)) (ty := .long) (by decide) rfl rfl (g := (mkF m 30 #[.val (.ref a0)] [(.long (0 : Int64)), (.ref a0)])) rfl rfl (hb hby dNp0_30)
  have f11 := (f3.wr W10)
  have f12 := (f5.other W10 (Or.inr (slot_ne (Or.inl (hw _ (List.mem_of_getElem? (i := 18) rfl))) (Or.inl (hw _ (List.mem_of_getElem? (i := 16) rfl))) (by decide) (t := .long) (t' := .long) (by decide) (by decide))))
  have f13 := (f9.other W10 (Or.inr (slot_ne (Or.inl (hw _ (List.mem_of_getElem? (i := 25) rfl))) (Or.inl (hw _ (List.mem_of_getElem? (i := 16) rfl))) (by decide) (t := .double) (t' := .long) (by decide) (by decide))))
  have Z14 : n0 ≤ h10.size := (Nat.le_trans Z6 (Keep.of_wr W10).1)
  have K15 : Keep h0 h10 [a0] := (K7.wr W10 (Or.inl (List.mem_of_getElem? (i := 0) rfl)))
  have N16 := Fr.snoc X10 N8 g0
  have f17 : Fld Z h10 a0 "com/example/kindred_mesh/kindredmesh/peer/SearchTime" "served" "J" (.long (0 : Int64)) := (f4.same W10)
  refine OFin.of (S' := T10.setTop (mkF m 33 #[.val (.ref a0)] [])) (fun t ht => st10 t ht) ?_
  refine OFin.of (S' := T10.setTop (mkF m 35 #[.val (.ref a0)] [(.long (0 : Int64)), (.ref a0)])) (fun t ht => ?_) ?_
  · refine XS.aloadN X10.here hx rfl (hb hby dNp0_33) rfl rfl ?_
    show Steps p.tables e below (T10.setTop (mkF m 34 _ [(.ref a0)])) _
    refine XS.lconst X10.here hx rfl (hb hby dNp0_34) ?_
    exact ht
  obtain ⟨T18, h18, X18, e18, W18, st18⟩ := putF X10 hx hZ hown (host := "") (Or.inl (hw _ (List.mem_of_getElem? (i := 17) rfl))) Via.refl e10 f12 f11 (Or.inl (hw _ (List.mem_of_getElem? (i := 18) rfl))) (hw _ (List.mem_of_getElem? (i := 2) rfl)) (ty := .long) (by decide) rfl rfl (g := (mkF m 35 #[.val (.ref a0)] [(.long (0 : Int64)), (.ref a0)])) rfl rfl (hb hby dNp0_35)
  have f19 := (f11.wr W18)
  have f20 := (f13.other W18 (Or.inr (slot_ne (Or.inl (hw _ (List.mem_of_getElem? (i := 25) rfl))) (Or.inl (hw _ (List.mem_of_getElem? (i := 18) rfl))) (by decide) (t := .double) (t' := .long) (by decide) (by decide))))
  have f21 := (f17.other W18 (Or.inr (slot_ne (Or.inl (hw _ (List.mem_of_getElem? (i := 16) rfl))) (Or.inl (hw _ (List.mem_of_getElem? (i := 18) rfl))) (by decide) (t := .long) (t' := .long) (by decide) (by decide))))
  have Z22 : n0 ≤ h18.size := (Nat.le_trans Z14 (Keep.of_wr W18).1)
  have K23 : Keep h0 h18 [a0] := (K15.wr W18 (Or.inl (List.mem_of_getElem? (i := 0) rfl)))
  have N24 := Fr.snoc X18 N16 g0
  have f25 : Fld Z h18 a0 "com/example/kindred_mesh/kindredmesh/peer/SearchTime" "total" "J" (.long (0 : Int64)) := (f12.same W18)
  refine OFin.of (S' := T18.setTop (mkF m 38 #[.val (.ref a0)] [])) (fun t ht => st18 t ht) ?_
  exact OFin.retV X18 hx hlk hret (hb hby dNp0_38) (by decide) (by decide) (by rw [e18]; exact ⟨rfl, N24, K23, f21, f25, f20⟩)
theorem dNp1_0 : decode prog_71_method_3_code 0 = .ok (.aload_n 0, 1) := by decide +kernel
theorem dNp1_1 : decode prog_71_method_3_code 1 = .ok (.aload_n 0, 1) := by decide +kernel
theorem dNp1_2 : decode prog_71_method_3_code 2 = .ok (.getfield 7, 3) := by decide +kernel
theorem dNp1_5 : decode prog_71_method_3_code 5 = .ok (.lconst 0, 1) := by decide +kernel
theorem dNp1_6 : decode prog_71_method_3_code 6 = .ok (.lcmp, 1) := by decide +kernel
theorem dNp1_7 : decode prog_71_method_3_code 7 = .ok (.ifCond .ne 7, 3) := by decide +kernel
theorem dNp1_14 : decode prog_71_method_3_code 14 = .ok (.aload_n 0, 1) := by decide +kernel
theorem dNp1_15 : decode prog_71_method_3_code 15 = .ok (.getfield 13, 3) := by decide +kernel
theorem dNp1_18 : decode prog_71_method_3_code 18 = .ok (.l2d, 1) := by decide +kernel
theorem dNp1_19 : decode prog_71_method_3_code 19 = .ok (.aload_n 0, 1) := by decide +kernel
theorem dNp1_20 : decode prog_71_method_3_code 20 = .ok (.getfield 7, 3) := by decide +kernel
theorem dNp1_23 : decode prog_71_method_3_code 23 = .ok (.l2d, 1) := by decide +kernel
theorem dNp1_24 : decode prog_71_method_3_code 24 = .ok (.ddiv, 1) := by decide +kernel
theorem dNp1_25 : decode prog_71_method_3_code 25 = .ok (.putfield 16, 3) := by decide +kernel
theorem dNp1_28 : decode prog_71_method_3_code 28 = .ok (.aload_n 0, 1) := by decide +kernel
theorem dNp1_29 : decode prog_71_method_3_code 29 = .ok (.lconst 0, 1) := by decide +kernel
theorem dNp1_30 : decode prog_71_method_3_code 30 = .ok (.putfield 7, 3) := by decide +kernel
theorem dNp1_33 : decode prog_71_method_3_code 33 = .ok (.aload_n 0, 1) := by decide +kernel
theorem dNp1_34 : decode prog_71_method_3_code 34 = .ok (.lconst 0, 1) := by decide +kernel
theorem dNp1_35 : decode prog_71_method_3_code 35 = .ok (.putfield 13, 3) := by decide +kernel
theorem dNp1_38 : decode prog_71_method_3_code 38 = .ok (.return_, 1) := by decide +kernel
theorem pnNp1 : plainName "com/example/kindred_mesh/kindredmesh/peer/SearchTime" = true := by first | (simp [plainName, overriddenIn]; done) | decide +kernel
theorem efNp1 (m : MethodId) (a0 : Addr) : entryFrame m #[(.ref a0)] 1 = mkF m 0 #[.val (.ref a0)] [] := by first | (simp [entryFrame, mkF, argsToLocals, Value.category]; done) | rfl
def QNp1 (Z : State) (a0 : Addr) (ww : Int64) (tt : Int64) (mm : UInt64) (h0 : Heap) (n0 : Nat) (v : Option Value) (h : Heap) (L : List Loc) : Prop := v = none ∧ Fr n0 L ∧ Keep h0 h [a0] ∧ Fld Z h a0 "com/example/kindred_mesh/kindredmesh/peer/SearchTime" "served" "J" (.long (0 : Int64)) ∧ Fld Z h a0 "com/example/kindred_mesh/kindredmesh/peer/SearchTime" "total" "J" (.long (0 : Int64)) ∧ Fld Z h a0 "com/example/kindred_mesh/kindredmesh/peer/SearchTime" "lastMean" "D" (.double (FP.ddiv (FP.l2d tt) (FP.l2d ww)))
set_option maxRecDepth 65536 in
set_option maxHeartbeats 40000000 in
theorem rmNp1 (l : Launch) (Z : State) (a0 : Array Value) (hw : ∀ d ∈ tables_1, d.before a0 Z = true) (ws : List Jvm.Cond) (a0 : Addr) (ww : Int64) (tt : Int64) (mm : UInt64) (h0 : Heap) (n0 : Nat) (Z0 : n0 ≤ h0.size) (E0 : Exa Z h0 a0 "com/example/kindred_mesh/kindredmesh/peer/SearchTime") (F_served : Fld Z h0 a0 "com/example/kindred_mesh/kindredmesh/peer/SearchTime" "served" "J" (.long ww)) (F_total : Fld Z h0 a0 "com/example/kindred_mesh/kindredmesh/peer/SearchTime" "total" "J" (.long tt)) (F_lastMean : Fld Z h0 a0 "com/example/kindred_mesh/kindredmesh/peer/SearchTime" "lastMean" "D" (.double mm)) (g0 : n0 ≤ a0) (hz : ¬ (lcmpW ww (0 : Int64)) = (0 : Int32)) (hn : Jvm.Free.Fl.NoNaN64 (FP.ddiv (FP.l2d tt) (FP.l2d ww))) :
    MetFree l (⟨"com/example/kindred_mesh/kindredmesh/peer/SearchTime", "newPeriod", "()V"⟩ : MethodName) (head1 (Jvm.Cond.code (⟨"com/example/kindred_mesh/kindredmesh/peer/SearchTime", "newPeriod", "()V"⟩ : MethodName) prog_71_method_3_code 1 none :: ws) ({ frames := 0, cells := 0, slots := 0, locals := 0 } : Room)) (fun a U => a = #[(.ref a0)] ∧ Z.Warmed39 U.vm ∧ U.heap = h0) (fun _ _ _ _ _ => True) (fun _ U o U' => ∃ v L, o = .returned v ∧ QNp1 Z a0 ww tt mm h0 n0 v U'.heap L ∧ FrameEnd U o U' L ({ frames := 0, cells := 0, slots := 0, locals := 0 } : Room).cells ({ frames := 0, cells := 0, slots := 0, locals := 0 } : Room).slots) := by
  refine MetFree.of_bodySF (plainFor_of_name pnNp1) hisR ?_
  intro p e s m args below meth c s₁ Bd hml0 hP hK
  obtain ⟨rfl, hZ, hh⟩ := hP
  have hx := Bd.exec
  have hby := Bd.bytes
  have hlk := BodyLoose.notSynchronized Bd
  have hret := Bd.returns
  have hml : c.maxLocals = 1 := hml0
  have hown : s.vm.findClass "com/example/kindred_mesh/kindredmesh/peer/SearchTime" = some m.cls := findClass_of_methodNamed Bd.named
  have hnm := (name_of_methodNamed Bd.named Bd.method).1
  have X0 : Stand p l e ({ frames := 0, cells := 0, slots := 0, locals := 0 } : Room) s m #[(.ref a0)] below meth c s₁ [] 0 0 := Stand.of_body Bd
  have e0 : s₁.heap = h0 := by rw [← hh, Bd.state]; rfl
  have N0 := Fr.nil n0
  show OFin p e below (KPost s (QNp1 Z a0 ww tt mm h0 n0) ({ frames := 0, cells := 0, slots := 0, locals := 0 } : Room).cells ({ frames := 0, cells := 0, slots := 0, locals := 0 } : Room).slots) _
  rw [efNp1 m a0]
  have K0 : Keep h0 h0 [a0] := Keep.refl _ _
  refine OFin.of (S' := s₁.setTop (mkF m 2 #[.val (.ref a0)] [(.ref a0), (.ref a0)])) (fun t ht => ?_) ?_
  · refine XS.aloadN X0.here hx rfl (hb hby dNp1_0) rfl rfl ?_
    show Steps p.tables e below (s₁.setTop (mkF m 1 _ [(.ref a0)])) _
    refine XS.aloadN X0.here hx rfl (hb hby dNp1_1) rfl rfl ?_
    exact ht
  obtain ⟨T1, X1, e1, st1⟩ := getF X0 hx hZ hown (host := "") (Or.inl (hw _ (List.mem_of_getElem? (i := 15) rfl))) Via.refl e0 F_served (g := (mkF m 2 #[.val (.ref a0)] [(.ref a0), (.ref a0)])) rfl rfl (hb hby dNp1_2)
  refine OFin.of (S' := T1.setTop (mkF m 5 #[.val (.ref a0)] [(.long ww), (.ref a0)])) (fun t ht => st1 t ht) ?_
  refine OFin.of (S' := T1.setTop (mkF m 15 #[.val (.ref a0)] [(.ref a0), (.ref a0)])) (fun t ht => ?_) ?_
  · refine XS.lconst X1.here hx rfl (hb hby dNp1_5) ?_
    show Steps p.tables e below (T1.setTop (mkF m 6 _ [(.long (0 : Int64)), (.long ww), (.ref a0)])) _
    refine XS.lcmp X1.here hx rfl (hb hby dNp1_6) rfl ?_
    show Steps p.tables e below (T1.setTop (mkF m 7 _ [(.int (lcmpW ww (0 : Int64))), (.ref a0)])) _
    refine XS.ifYes X1.here hx rfl (pc0 := 7) (pc' := 14) rfl (hb hby dNp1_7) rfl ((if0 _ _).trans (feq (hz : ¬ ((lcmpW ww (0 : Int64)) = (0 : Int32)))).2) (by decide) (by decide) ?_
    show Steps p.tables e below (T1.setTop (mkF m 14 _ [(.ref a0)])) _
    refine XS.aloadN X1.here hx rfl (hb hby dNp1_14) rfl rfl ?_
    exact ht
  obtain ⟨T2, X2, e2, st2⟩ := getF X1 hx hZ hown (host := "") (Or.inl (hw _ (List.mem_of_getElem? (i := 17) rfl))) Via.refl e1 F_total (g := (mkF m 15 #[.val (.ref a0)] [(.ref a0), (.ref a0)])) rfl rfl (hb hby dNp1_15)
  refine OFin.of (S' := T2.setTop (mkF m 18 #[.val (.ref a0)] [(.long tt), (.ref a0)])) (fun t ht => st2 t ht) ?_
  refine OFin.of (S' := T2.setTop (mkF m 20 #[.val (.ref a0)] [(.ref a0), (.double (FP.l2d tt)), (.ref a0)])) (fun t ht => ?_) ?_
  · refine XS.l2dS X2.here hx rfl (hb hby dNp1_18) rfl rfl ?_
    show Steps p.tables e below (T2.setTop (mkF m 19 _ [(.double (FP.l2d tt)), (.ref a0)])) _
    refine XS.aloadN X2.here hx rfl (hb hby dNp1_19) rfl rfl ?_
    exact ht
  obtain ⟨T3, X3, e3, st3⟩ := getF X2 hx hZ hown (host := "") (Or.inl (hw _ (List.mem_of_getElem? (i := 15) rfl))) Via.refl e2 F_served (g := (mkF m 20 #[.val (.ref a0)] [(.ref a0), (.double (FP.l2d tt)), (.ref a0)])) rfl rfl (hb hby dNp1_20)
  refine OFin.of (S' := T3.setTop (mkF m 23 #[.val (.ref a0)] [(.long ww), (.double (FP.l2d tt)), (.ref a0)])) (fun t ht => st3 t ht) ?_
  refine OFin.of (S' := T3.setTop (mkF m 25 #[.val (.ref a0)] [(.double (FP.ddiv (FP.l2d tt) (FP.l2d ww))), (.ref a0)])) (fun t ht => ?_) ?_
  · refine XS.l2dS X3.here hx rfl (hb hby dNp1_23) rfl rfl ?_
    show Steps p.tables e below (T3.setTop (mkF m 24 _ [(.double (FP.l2d ww)), (.double (FP.l2d tt)), (.ref a0)])) _
    refine XS.ddivS X3.here hx rfl (hb hby dNp1_24) rfl hn rfl ?_
    exact ht
  obtain ⟨T4, h4, X4, e4, W4, st4⟩ := putF X3 hx hZ hown (host := "") (Or.inl (hw _ (List.mem_of_getElem? (i := 24) rfl))) Via.refl e3 F_lastMean E0 (Or.inl (hw _ (List.mem_of_getElem? (i := 25) rfl))) (hw _ (List.mem_of_getElem? (i := 2) rfl)) (ty := .double) (by decide) rfl rfl (g := (mkF m 25 #[.val (.ref a0)] [(.double (FP.ddiv (FP.l2d tt) (FP.l2d ww))), (.ref a0)])) rfl rfl (hb hby dNp1_25)
  have f5 := (E0.wr W4)
  have f6 := (F_served.other W4 (Or.inr (slot_ne (Or.inl (hw _ (List.mem_of_getElem? (i := 16) rfl))) (Or.inl (hw _ (List.mem_of_getElem? (i := 25) rfl))) (by decide) (t := .long) (t' := .double) (by decide) (by decide))))
  have f7 := (F_total.other W4 (Or.inr (slot_ne (Or.inl (hw _ (List.mem_of_getElem? (i := 18) rfl))) (Or.inl (hw _ (List.mem_of_getElem? (i := 25) rfl))) (by decide) (t := .long) (t' := .double) (by decide) (by decide))))
  have Z8 : n0 ≤ h4.size := (Nat.le_trans Z0 (Keep.of_wr W4).1)
  have K9 : Keep h0 h4 [a0] := (K0.wr W4 (Or.inl (List.mem_of_getElem? (i := 0) rfl)))
  have N10 := Fr.snoc X4 N0 g0
  have f11 : Fld Z h4 a0 "com/example/kindred_mesh/kindredmesh/peer/SearchTime" "lastMean" "D" (.double (FP.ddiv (FP.l2d tt) (FP.l2d ww))) := (F_lastMean.same W4)
  refine OFin.of (S' := T4.setTop (mkF m 28 #[.val (.ref a0)] [])) (fun t ht => st4 t ht) ?_
  refine OFin.of (S' := T4.setTop (mkF m 30 #[.val (.ref a0)] [(.long (0 : Int64)), (.ref a0)])) (fun t ht => ?_) ?_
  · refine XS.aloadN X4.here hx rfl (hb hby dNp1_28) rfl rfl ?_
    show Steps p.tables e below (T4.setTop (mkF m 29 _ [(.ref a0)])) _
    refine XS.lconst X4.here hx rfl (hb hby dNp1_29) ?_
    exact ht
  obtain ⟨T12, h12, X12, e12, W12, st12⟩ := putF X4 hx hZ hown (host := "") (Or.inl (hw _ (List.mem_of_getElem? (i := 15) rfl))) Via.refl e4 f6 f5 (Or.inl (hw _ (List.mem_of_getElem? (i := 16) rfl))) (hw _ (List.mem_of_getElem? (i := 2) rfl)) (ty := .long) (by decide) rfl rfl (g := (mkF m 30 #[.val (.ref a0)] [(.long (0 : Int64)), (.ref a0)])) rfl rfl (hb hby dNp1_30)
  have f13 := (f5.wr W12)
  have f14 := (f7.other W12 (Or.inr (slot_ne (Or.inl (hw _ (List.mem_of_getElem? (i := 18) rfl))) (Or.inl (hw _ (List.mem_of_getElem? (i := 16) rfl))) (by decide) (t := .long) (t' := .long) (by decide) (by decide))))
  have f15 := (f11.other W12 (Or.inr (slot_ne (Or.inl (hw _ (List.mem_of_getElem? (i := 25) rfl))) (Or.inl (hw _ (List.mem_of_getElem? (i := 16) rfl))) (by decide) (t := .double) (t' := .long) (by decide) (by decide))))
  have Z16 : n0 ≤ h12.size := (Nat.le_trans Z8 (Keep.of_wr W12).1)
  have K17 : Keep h0 h12 [a0] := (K9.wr W12 (Or.inl (List.mem_of_getElem? (i := 0) rfl)))
  have N18 := Fr.snoc X12 N10 g0
  have f19 : Fld Z h12 a0 "com/example/kindred_mesh/kindredmesh/peer/SearchTime" "served" "J" (.long (0 : Int64)) := (f6.same W12)
  refine OFin.of (S' := T12.setTop (mkF m 33 #[.val (.ref a0)] [])) (fun t ht => st12 t ht) ?_
  refine OFin.of (S' := T12.setTop (mkF m 35 #[.val (.ref a0)] [(.long (0 : Int64)), (.ref a0)])) (fun t ht => ?_) ?_
  · refine XS.aloadN X12.here hx rfl (hb hby dNp1_33) rfl rfl ?_
    show Steps p.tables e below (T12.setTop (mkF m 34 _ [(.ref a0)])) _
    refine XS.lconst X12.here hx rfl (hb hby dNp1_34) ?_
    exact ht
  obtain ⟨T20, h20, X20, e20, W20, st20⟩ := putF X12 hx hZ hown (host := "") (Or.inl (hw _ (List.mem_of_getElem? (i := 17) rfl))) Via.refl e12 f14 f13 (Or.inl (hw _ (List.mem_of_getElem? (i := 18) rfl))) (hw _ (List.mem_of_getElem? (i := 2) rfl)) (ty := .long) (by decide) rfl rfl (g := (mkF m 35 #[.val (.ref a0)] [(.long (0 : Int64)), (.ref a0)])) rfl rfl (hb hby dNp1_35)
  have f21 := (f13.wr W20)
  have f22 := (f15.other W20 (Or.inr (slot_ne (Or.inl (hw _ (List.mem_of_getElem? (i := 25) rfl))) (Or.inl (hw _ (List.mem_of_getElem? (i := 18) rfl))) (by decide) (t := .double) (t' := .long) (by decide) (by decide))))
  have f23 := (f19.other W20 (Or.inr (slot_ne (Or.inl (hw _ (List.mem_of_getElem? (i := 16) rfl))) (Or.inl (hw _ (List.mem_of_getElem? (i := 18) rfl))) (by decide) (t := .long) (t' := .long) (by decide) (by decide))))
  have Z24 : n0 ≤ h20.size := (Nat.le_trans Z16 (Keep.of_wr W20).1)
  have K25 : Keep h0 h20 [a0] := (K17.wr W20 (Or.inl (List.mem_of_getElem? (i := 0) rfl)))
  have N26 := Fr.snoc X20 N18 g0
  have f27 : Fld Z h20 a0 "com/example/kindred_mesh/kindredmesh/peer/SearchTime" "total" "J" (.long (0 : Int64)) := (f14.same W20)
  refine OFin.of (S' := T20.setTop (mkF m 38 #[.val (.ref a0)] [])) (fun t ht => st20 t ht) ?_
  exact OFin.retV X20 hx hlk hret (hb hby dNp1_38) (by decide) (by decide) (by rw [e20]; exact ⟨rfl, N26, K25, f23, f27, f22⟩)
theorem dLm_0 : decode prog_71_method_5_code 0 = .ok (.aload_n 0, 1) := by decide +kernel
theorem dLm_1 : decode prog_71_method_5_code 1 = .ok (.getfield 16, 3) := by decide +kernel
theorem dLm_4 : decode prog_71_method_5_code 4 = .ok (.dreturn, 1) := by decide +kernel
theorem pnLm : plainName "com/example/kindred_mesh/kindredmesh/peer/SearchTime" = true := by first | (simp [plainName, overriddenIn]; done) | decide +kernel
theorem efLm (m : MethodId) (a0 : Addr) : entryFrame m #[(.ref a0)] 1 = mkF m 0 #[.val (.ref a0)] [] := by first | (simp [entryFrame, mkF, argsToLocals, Value.category]; done) | rfl
def QLm (Z : State) (a0 : Addr) (mm : UInt64) (h0 : Heap) (n0 : Nat) (v : Option Value) (h : Heap) (L : List Loc) : Prop := v = some (.double mm) ∧ Fr n0 L ∧ h = h0
set_option maxRecDepth 65536 in
set_option maxHeartbeats 40000000 in
theorem rmLm (l : Launch) (Z : State) (a0 : Array Value) (hw : ∀ d ∈ tables_1, d.before a0 Z = true) (ws : List Jvm.Cond) (a0 : Addr) (mm : UInt64) (h0 : Heap) (n0 : Nat) (Z0 : n0 ≤ h0.size) (F_lastMean : Fld Z h0 a0 "com/example/kindred_mesh/kindredmesh/peer/SearchTime" "lastMean" "D" (.double mm)) :
    MetFree l (⟨"com/example/kindred_mesh/kindredmesh/peer/SearchTime", "lastMean", "()D"⟩ : MethodName) (head1 (Jvm.Cond.code (⟨"com/example/kindred_mesh/kindredmesh/peer/SearchTime", "lastMean", "()D"⟩ : MethodName) prog_71_method_5_code 1 (some .double) :: ws) ({ frames := 0, cells := 0, slots := 0, locals := 0 } : Room)) (fun a U => a = #[(.ref a0)] ∧ Z.Warmed39 U.vm ∧ U.heap = h0) (fun _ _ _ _ _ => True) (fun _ U o U' => ∃ v L, o = .returned v ∧ QLm Z a0 mm h0 n0 v U'.heap L ∧ FrameEnd U o U' L ({ frames := 0, cells := 0, slots := 0, locals := 0 } : Room).cells ({ frames := 0, cells := 0, slots := 0, locals := 0 } : Room).slots) := by
  refine MetFree.of_bodySF (plainFor_of_name pnLm) hisR ?_
  intro p e s m args below meth c s₁ Bd hml0 hP hK
  obtain ⟨rfl, hZ, hh⟩ := hP
  have hx := Bd.exec
  have hby := Bd.bytes
  have hlk := BodyLoose.notSynchronized Bd
  have hret := Bd.returns
  have hml : c.maxLocals = 1 := hml0
  have hown : s.vm.findClass "com/example/kindred_mesh/kindredmesh/peer/SearchTime" = some m.cls := findClass_of_methodNamed Bd.named
  have hnm := (name_of_methodNamed Bd.named Bd.method).1
  have X0 : Stand p l e ({ frames := 0, cells := 0, slots := 0, locals := 0 } : Room) s m #[(.ref a0)] below meth c s₁ [] 0 0 := Stand.of_body Bd
  have e0 : s₁.heap = h0 := by rw [← hh, Bd.state]; rfl
  have N0 := Fr.nil n0
  show OFin p e below (KPost s (QLm Z a0 mm h0 n0) ({ frames := 0, cells := 0, slots := 0, locals := 0 } : Room).cells ({ frames := 0, cells := 0, slots := 0, locals := 0 } : Room).slots) _
  rw [efLm m a0]
  refine OFin.of (S' := s₁.setTop (mkF m 1 #[.val (.ref a0)] [(.ref a0)])) (fun t ht => ?_) ?_
  · refine XS.aloadN X0.here hx rfl (hb hby dLm_0) rfl rfl ?_
    exact ht
  obtain ⟨T1, X1, e1, st1⟩ := getF X0 hx hZ hown (host := "") (Or.inl (hw _ (List.mem_of_getElem? (i := 24) rfl))) Via.refl e0 F_lastMean (g := (mkF m 1 #[.val (.ref a0)] [(.ref a0)])) rfl rfl (hb hby dLm_1)
  refine OFin.of (S' := T1.setTop (mkF m 4 #[.val (.ref a0)] [(.double mm)])) (fun t ht => st1 t ht) ?_
  exact OFin.retD X1 hx hlk hret (hb hby dLm_4) (by decide) (by decide) (by rw [e1]; exact ⟨rfl, N0, rfl⟩)
theorem pn0 : plainName "com/example/kindred_mesh/kindredmesh/peer/SearchTimeServedPinLaw" = true := by first | (simp [plainName, overriddenIn]; done) | decide +kernel
theorem ef0 (m : MethodId) (q0 : Int64) (q1 : Int64) (q2 : Int64) (q3 : Int64) (p4 : Int32) : entryFrame m #[(.long q0), (.long q1), (.long q2), (.long q3), (.int p4)] maxLocals = mkF m 0 #[.val (.long q0), .second, .val (.long q1), .second, .val (.long q2), .second, .val (.long q3), .second, .val (.int p4), .unset, .unset, .unset, .unset, .unset, .unset, .unset, .unset, .unset, .unset, .unset, .unset, .unset, .unset, .unset, .unset, .unset, .unset] [] := by first | (simp [entryFrame, mkF, argsToLocals, Value.category, maxLocals]; done) | rfl
def Q0 (Z : State) (q0 : Int64) (q1 : Int64) (q2 : Int64) (q3 : Int64) (p4 : Int32) (h0 : Heap) (n0 : Nat) (v : Option Value) (h : Heap) (L : List Loc) : Prop := v = some (.int (1 : Int32)) ∧ Fr n0 L
set_option maxRecDepth 65536 in
set_option maxHeartbeats 40000000 in
theorem rm0 (l : Launch) (Z : State) (a0 : Array Value) (hw : ∀ d ∈ tables_1, d.before a0 Z = true) (ws : List Jvm.Cond) (q0 : Int64) (q1 : Int64) (q2 : Int64) (q3 : Int64) (p4 : Int32) (h0 : Heap) (n0 : Nat) (Z0 : n0 ≤ h0.size)  :
    MetFree l x (head1 (Jvm.Cond.code x code maxLocals ret :: ws) room_1) (fun a U => a = #[(.long q0), (.long q1), (.long q2), (.long q3), (.int p4)] ∧ Z.Warmed39 U.vm ∧ U.heap = h0) (fun _ _ _ _ _ => True) (fun _ U o U' => ∃ v L, o = .returned v ∧ Q0 Z q0 q1 q2 q3 p4 h0 n0 v U'.heap L ∧ FrameEnd U o U' L room_1.cells room_1.slots) := by
  refine MetFree.of_bodySF (plainFor_of_name pn0) hisR ?_
  intro p e s m args below meth c s₁ Bd hml0 hP hK
  obtain ⟨rfl, hZ, hh⟩ := hP
  have hx := Bd.exec
  have hby := Bd.bytes
  have hlk := BodyLoose.notSynchronized Bd
  have hret := Bd.returns
  have hml : c.maxLocals = 27 := hml0
  have hown : s.vm.findClass "com/example/kindred_mesh/kindredmesh/peer/SearchTimeServedPinLaw" = some m.cls := findClass_of_methodNamed Bd.named
  have hnm := (name_of_methodNamed Bd.named Bd.method).1
  have X0 : Stand p l e room_1 s m #[(.long q0), (.long q1), (.long q2), (.long q3), (.int p4)] below meth c s₁ [] 0 0 := Stand.of_body Bd
  have e0 : s₁.heap = h0 := by rw [← hh, Bd.state]; rfl
  have N0 := Fr.nil n0
  show OFin p e below (KPost s (Q0 Z q0 q1 q2 q3 p4 h0 n0) room_1.cells room_1.slots) _
  rw [ef0 m q0 q1 q2 q3 p4]
  refine OFin.of (S' := s₁.setTop (mkF m 34 #[.val (.long q0), .second, .val (.long q1), .second, .val (.long q2), .second, .val (.long q3), .second, .val (.int p4), .val (.long (q0 &&& (2305843009213693951 : Int64))), .second, .val (.long (q1 &&& (2305843009213693951 : Int64))), .second, .val (.long (q2 &&& (2305843009213693951 : Int64))), .second, .val (.long (q3 &&& (2305843009213693951 : Int64))), .second, .unset, .unset, .unset, .unset, .unset, .unset, .unset, .unset, .unset, .unset] [(.int (p4 &&& (3 : Int32)))])) (fun t ht => ?_) ?_
  · refine XS.lloadN X0.here hx rfl (hb hby at_0) rfl ?_
    show Steps p.tables e below (s₁.setTop (mkF m 1 _ [(.long q0)])) _
    refine X0.ldc2Long hx hown (mvT hZ (hw _ (List.mem_of_getElem? (i := 0) rfl))) (g := (mkF m 1 #[.val (.long q0), .second, .val (.long q1), .second, .val (.long q2), .second, .val (.long q3), .second, .val (.int p4), .unset, .unset, .unset, .unset, .unset, .unset, .unset, .unset, .unset, .unset, .unset, .unset, .unset, .unset, .unset, .unset, .unset, .unset] [(.long q0)])) rfl (hb hby at_1) _ ?_
    show Steps p.tables e below (s₁.setTop (mkF m 4 _ [(.long (2305843009213693951 : Int64)), (.long q0)])) _
    refine XS.land X0.here hx rfl (hb hby at_4) rfl ?_
    show Steps p.tables e below (s₁.setTop (mkF m 5 _ [(.long (q0 &&& (2305843009213693951 : Int64)))])) _
    refine XS.lstore X0.here hx rfl (hb hby at_5) rfl (l' := #[.val (.long q0), .second, .val (.long q1), .second, .val (.long q2), .second, .val (.long q3), .second, .val (.int p4), .val (.long (q0 &&& (2305843009213693951 : Int64))), .second, .unset, .unset, .unset, .unset, .unset, .unset, .unset, .unset, .unset, .unset, .unset, .unset, .unset, .unset, .unset, .unset]) rfl ?_
    show Steps p.tables e below (s₁.setTop (mkF m 7 #[.val (.long q0), .second, .val (.long q1), .second, .val (.long q2), .second, .val (.long q3), .second, .val (.int p4), .val (.long (q0 &&& (2305843009213693951 : Int64))), .second, .unset, .unset, .unset, .unset, .unset, .unset, .unset, .unset, .unset, .unset, .unset, .unset, .unset, .unset, .unset, .unset] [])) _
    refine XS.lloadN X0.here hx rfl (hb hby at_7) rfl ?_
    show Steps p.tables e below (s₁.setTop (mkF m 8 _ [(.long q1)])) _
    refine X0.ldc2Long hx hown (mvT hZ (hw _ (List.mem_of_getElem? (i := 0) rfl))) (g := (mkF m 8 #[.val (.long q0), .second, .val (.long q1), .second, .val (.long q2), .second, .val (.long q3), .second, .val (.int p4), .val (.long (q0 &&& (2305843009213693951 : Int64))), .second, .unset, .unset, .unset, .unset, .unset, .unset, .unset, .unset, .unset, .unset, .unset, .unset, .unset, .unset, .unset, .unset] [(.long q1)])) rfl (hb hby at_8) _ ?_
    show Steps p.tables e below (s₁.setTop (mkF m 11 _ [(.long (2305843009213693951 : Int64)), (.long q1)])) _
    refine XS.land X0.here hx rfl (hb hby at_11) rfl ?_
    show Steps p.tables e below (s₁.setTop (mkF m 12 _ [(.long (q1 &&& (2305843009213693951 : Int64)))])) _
    refine XS.lstore X0.here hx rfl (hb hby at_12) rfl (l' := #[.val (.long q0), .second, .val (.long q1), .second, .val (.long q2), .second, .val (.long q3), .second, .val (.int p4), .val (.long (q0 &&& (2305843009213693951 : Int64))), .second, .val (.long (q1 &&& (2305843009213693951 : Int64))), .second, .unset, .unset, .unset, .unset, .unset, .unset, .unset, .unset, .unset, .unset, .unset, .unset, .unset, .unset]) rfl ?_
    show Steps p.tables e below (s₁.setTop (mkF m 14 #[.val (.long q0), .second, .val (.long q1), .second, .val (.long q2), .second, .val (.long q3), .second, .val (.int p4), .val (.long (q0 &&& (2305843009213693951 : Int64))), .second, .val (.long (q1 &&& (2305843009213693951 : Int64))), .second, .unset, .unset, .unset, .unset, .unset, .unset, .unset, .unset, .unset, .unset, .unset, .unset, .unset, .unset] [])) _
    refine XS.lload X0.here hx rfl (hb hby at_14) rfl ?_
    show Steps p.tables e below (s₁.setTop (mkF m 16 _ [(.long q2)])) _
    refine X0.ldc2Long hx hown (mvT hZ (hw _ (List.mem_of_getElem? (i := 0) rfl))) (g := (mkF m 16 #[.val (.long q0), .second, .val (.long q1), .second, .val (.long q2), .second, .val (.long q3), .second, .val (.int p4), .val (.long (q0 &&& (2305843009213693951 : Int64))), .second, .val (.long (q1 &&& (2305843009213693951 : Int64))), .second, .unset, .unset, .unset, .unset, .unset, .unset, .unset, .unset, .unset, .unset, .unset, .unset, .unset, .unset] [(.long q2)])) rfl (hb hby at_16) _ ?_
    show Steps p.tables e below (s₁.setTop (mkF m 19 _ [(.long (2305843009213693951 : Int64)), (.long q2)])) _
    refine XS.land X0.here hx rfl (hb hby at_19) rfl ?_
    show Steps p.tables e below (s₁.setTop (mkF m 20 _ [(.long (q2 &&& (2305843009213693951 : Int64)))])) _
    refine XS.lstore X0.here hx rfl (hb hby at_20) rfl (l' := #[.val (.long q0), .second, .val (.long q1), .second, .val (.long q2), .second, .val (.long q3), .second, .val (.int p4), .val (.long (q0 &&& (2305843009213693951 : Int64))), .second, .val (.long (q1 &&& (2305843009213693951 : Int64))), .second, .val (.long (q2 &&& (2305843009213693951 : Int64))), .second, .unset, .unset, .unset, .unset, .unset, .unset, .unset, .unset, .unset, .unset, .unset, .unset]) rfl ?_
    show Steps p.tables e below (s₁.setTop (mkF m 22 #[.val (.long q0), .second, .val (.long q1), .second, .val (.long q2), .second, .val (.long q3), .second, .val (.int p4), .val (.long (q0 &&& (2305843009213693951 : Int64))), .second, .val (.long (q1 &&& (2305843009213693951 : Int64))), .second, .val (.long (q2 &&& (2305843009213693951 : Int64))), .second, .unset, .unset, .unset, .unset, .unset, .unset, .unset, .unset, .unset, .unset, .unset, .unset] [])) _
    refine XS.lload X0.here hx rfl (hb hby at_22) rfl ?_
    show Steps p.tables e below (s₁.setTop (mkF m 24 _ [(.long q3)])) _
    refine X0.ldc2Long hx hown (mvT hZ (hw _ (List.mem_of_getElem? (i := 0) rfl))) (g := (mkF m 24 #[.val (.long q0), .second, .val (.long q1), .second, .val (.long q2), .second, .val (.long q3), .second, .val (.int p4), .val (.long (q0 &&& (2305843009213693951 : Int64))), .second, .val (.long (q1 &&& (2305843009213693951 : Int64))), .second, .val (.long (q2 &&& (2305843009213693951 : Int64))), .second, .unset, .unset, .unset, .unset, .unset, .unset, .unset, .unset, .unset, .unset, .unset, .unset] [(.long q3)])) rfl (hb hby at_24) _ ?_
    show Steps p.tables e below (s₁.setTop (mkF m 27 _ [(.long (2305843009213693951 : Int64)), (.long q3)])) _
    refine XS.land X0.here hx rfl (hb hby at_27) rfl ?_
    show Steps p.tables e below (s₁.setTop (mkF m 28 _ [(.long (q3 &&& (2305843009213693951 : Int64)))])) _
    refine XS.lstore X0.here hx rfl (hb hby at_28) rfl (l' := #[.val (.long q0), .second, .val (.long q1), .second, .val (.long q2), .second, .val (.long q3), .second, .val (.int p4), .val (.long (q0 &&& (2305843009213693951 : Int64))), .second, .val (.long (q1 &&& (2305843009213693951 : Int64))), .second, .val (.long (q2 &&& (2305843009213693951 : Int64))), .second, .val (.long (q3 &&& (2305843009213693951 : Int64))), .second, .unset, .unset, .unset, .unset, .unset, .unset, .unset, .unset, .unset, .unset]) rfl ?_
    show Steps p.tables e below (s₁.setTop (mkF m 30 #[.val (.long q0), .second, .val (.long q1), .second, .val (.long q2), .second, .val (.long q3), .second, .val (.int p4), .val (.long (q0 &&& (2305843009213693951 : Int64))), .second, .val (.long (q1 &&& (2305843009213693951 : Int64))), .second, .val (.long (q2 &&& (2305843009213693951 : Int64))), .second, .val (.long (q3 &&& (2305843009213693951 : Int64))), .second, .unset, .unset, .unset, .unset, .unset, .unset, .unset, .unset, .unset, .unset] [])) _
    refine XS.iload X0.here hx rfl (hb hby at_30) rfl ?_
    show Steps p.tables e below (s₁.setTop (mkF m 32 _ [(.int p4)])) _
    refine XS.iconst X0.here hx rfl (hb hby at_32) ?_
    show Steps p.tables e below (s₁.setTop (mkF m 33 _ [(.int (3 : Int32)), (.int p4)])) _
    refine XS.iand X0.here hx rfl (hb hby at_33) rfl ?_
    exact ht
  rcases (own_and3 _ : (p4 &&& (3 : Int32)) = (0 : Int32) ∨ (p4 &&& (3 : Int32)) = (1 : Int32) ∨ (p4 &&& (3 : Int32)) = (2 : Int32) ∨ (p4 &&& (3 : Int32)) = (3 : Int32)) with hq1 | hq1 | hq1 | hq1
  · rw [hq1]
    refine OFin.of (S' := s₁.setTop (mkF m 40 #[.val (.long q0), .second, .val (.long q1), .second, .val (.long q2), .second, .val (.long q3), .second, .val (.int p4), .val (.long (q0 &&& (2305843009213693951 : Int64))), .second, .val (.long (q1 &&& (2305843009213693951 : Int64))), .second, .val (.long (q2 &&& (2305843009213693951 : Int64))), .second, .val (.long (q3 &&& (2305843009213693951 : Int64))), .second, .val (.int (0 : Int32)), .unset, .unset, .unset, .unset, .unset, .unset, .unset, .unset, .unset] [(.int (p4 &&& (4 : Int32)))])) (fun t ht => ?_) ?_
    · refine XS.istore X0.here hx rfl (hb hby at_34) rfl (l' := #[.val (.long q0), .second, .val (.long q1), .second, .val (.long q2), .second, .val (.long q3), .second, .val (.int p4), .val (.long (q0 &&& (2305843009213693951 : Int64))), .second, .val (.long (q1 &&& (2305843009213693951 : Int64))), .second, .val (.long (q2 &&& (2305843009213693951 : Int64))), .second, .val (.long (q3 &&& (2305843009213693951 : Int64))), .second, .val (.int (0 : Int32)), .unset, .unset, .unset, .unset, .unset, .unset, .unset, .unset, .unset]) rfl ?_
      show Steps p.tables e below (s₁.setTop (mkF m 36 #[.val (.long q0), .second, .val (.long q1), .second, .val (.long q2), .second, .val (.long q3), .second, .val (.int p4), .val (.long (q0 &&& (2305843009213693951 : Int64))), .second, .val (.long (q1 &&& (2305843009213693951 : Int64))), .second, .val (.long (q2 &&& (2305843009213693951 : Int64))), .second, .val (.long (q3 &&& (2305843009213693951 : Int64))), .second, .val (.int (0 : Int32)), .unset, .unset, .unset, .unset, .unset, .unset, .unset, .unset, .unset] [])) _
      refine XS.iload X0.here hx rfl (hb hby at_36) rfl ?_
      show Steps p.tables e below (s₁.setTop (mkF m 38 _ [(.int p4)])) _
      refine XS.iconst X0.here hx rfl (hb hby at_38) ?_
      show Steps p.tables e below (s₁.setTop (mkF m 39 _ [(.int (4 : Int32)), (.int p4)])) _
      refine XS.iand X0.here hx rfl (hb hby at_39) rfl ?_
      exact ht
    by_cases hc2 : (p4 &&& (4 : Int32)) = (0 : Int32)
    · refine OFin.of (S' := s₁.setTop (mkF m 50 #[.val (.long q0), .second, .val (.long q1), .second, .val (.long q2), .second, .val (.long q3), .second, .val (.int p4), .val (.long (q0 &&& (2305843009213693951 : Int64))), .second, .val (.long (q1 &&& (2305843009213693951 : Int64))), .second, .val (.long (q2 &&& (2305843009213693951 : Int64))), .second, .val (.long (q3 &&& (2305843009213693951 : Int64))), .second, .val (.int (0 : Int32)), .val (.int (0 : Int32)), .unset, .unset, .unset, .unset, .unset, .unset, .unset, .unset] [])) (fun t ht => ?_) ?_
      · refine XS.ifYes X0.here hx rfl (pc0 := 40) (pc' := 47) rfl (hb hby at_40) rfl ((if0 _ _).trans (teq (hc2 : (p4 &&& (4 : Int32)) = (0 : Int32))).1) (by decide) (by decide) ?_
        show Steps p.tables e below (s₁.setTop (mkF m 47 _ [])) _
        refine XS.iconst X0.here hx rfl (hb hby at_47) ?_
        show Steps p.tables e below (s₁.setTop (mkF m 48 _ [(.int (0 : Int32))])) _
        refine XS.istore X0.here hx rfl (hb hby at_48) rfl (l' := #[.val (.long q0), .second, .val (.long q1), .second, .val (.long q2), .second, .val (.long q3), .second, .val (.int p4), .val (.long (q0 &&& (2305843009213693951 : Int64))), .second, .val (.long (q1 &&& (2305843009213693951 : Int64))), .second, .val (.long (q2 &&& (2305843009213693951 : Int64))), .second, .val (.long (q3 &&& (2305843009213693951 : Int64))), .second, .val (.int (0 : Int32)), .val (.int (0 : Int32)), .unset, .unset, .unset, .unset, .unset, .unset, .unset, .unset]) rfl ?_
        exact ht
      obtain ⟨T3, h3, X3, e3, E3, A3, D3, -, st3⟩ := newO X0 hx hZ hown (hw _ (List.mem_of_getElem? (i := 1) rfl)) (hw _ (List.mem_of_getElem? (i := 2) rfl)) (hw _ (List.mem_of_getElem? (i := 3) rfl)) e0 (g := (mkF m 50 #[.val (.long q0), .second, .val (.long q1), .second, .val (.long q2), .second, .val (.long q3), .second, .val (.int p4), .val (.long (q0 &&& (2305843009213693951 : Int64))), .second, .val (.long (q1 &&& (2305843009213693951 : Int64))), .second, .val (.long (q2 &&& (2305843009213693951 : Int64))), .second, .val (.long (q3 &&& (2305843009213693951 : Int64))), .second, .val (.int (0 : Int32)), .val (.int (0 : Int32)), .unset, .unset, .unset, .unset, .unset, .unset, .unset, .unset] [])) rfl (hb hby at_50) (by decide) (by decide)
      obtain ⟨b3, gq3⟩ : ∃ z, z = h0.size := ⟨_, rfl⟩
      rw [← gq3] at A3 D3 st3
      have g4 : n0 ≤ b3 := (Nat.le_trans Z0 (Nat.le_of_eq gq3.symm))
      have Z5 : n0 ≤ h3.size := (Nat.le_trans Z0 E3.1)
      have f6 : Fld Z h3 b3 "com/example/kindred_mesh/kindredmesh/peer/SearchTime" "served" "J" (.long (0 : Int64)) := D3 (Or.inl (hw _ (List.mem_of_getElem? (i := 16) rfl))) (ty := .long) (by decide)
      have f7 : Fld Z h3 b3 "com/example/kindred_mesh/kindredmesh/peer/SearchTime" "total" "J" (.long (0 : Int64)) := D3 (Or.inl (hw _ (List.mem_of_getElem? (i := 18) rfl))) (ty := .long) (by decide)
      have f8 : Fld Z h3 b3 "com/example/kindred_mesh/kindredmesh/peer/SearchTime" "lastMean" "D" (.double 0) := D3 (Or.inl (hw _ (List.mem_of_getElem? (i := 25) rfl))) (ty := .double) (by decide)
      refine OFin.of (S' := T3.setTop (mkF m 53 #[.val (.long q0), .second, .val (.long q1), .second, .val (.long q2), .second, .val (.long q3), .second, .val (.int p4), .val (.long (q0 &&& (2305843009213693951 : Int64))), .second, .val (.long (q1 &&& (2305843009213693951 : Int64))), .second, .val (.long (q2 &&& (2305843009213693951 : Int64))), .second, .val (.long (q3 &&& (2305843009213693951 : Int64))), .second, .val (.int (0 : Int32)), .val (.int (0 : Int32)), .unset, .unset, .unset, .unset, .unset, .unset, .unset, .unset] [(.ref b3)])) (fun t ht => st3 t ht) ?_
      refine OFin.of (S' := T3.setTop (mkF m 54 #[.val (.long q0), .second, .val (.long q1), .second, .val (.long q2), .second, .val (.long q3), .second, .val (.int p4), .val (.long (q0 &&& (2305843009213693951 : Int64))), .second, .val (.long (q1 &&& (2305843009213693951 : Int64))), .second, .val (.long (q2 &&& (2305843009213693951 : Int64))), .second, .val (.long (q3 &&& (2305843009213693951 : Int64))), .second, .val (.int (0 : Int32)), .val (.int (0 : Int32)), .unset, .unset, .unset, .unset, .unset, .unset, .unset, .unset] [(.ref b3), (.ref b3)])) (fun t ht => ?_) ?_
      · refine XS.dup X3.here hx rfl (hb hby at_53) rfl rfl ?_
        exact ht
      obtain ⟨_, _, ⟨T9, L9, k9, n9⟩, -, X9, ⟨Lc9, hQ9, l9, y9, z9⟩, st9⟩ := X3.specialBack hx (y := (⟨"com/example/kindred_mesh/kindredmesh/peer/SearchTime", "<init>", "()V"⟩ : MethodName)) rfl hown (mvT hZ (hw _ (List.mem_of_getElem? (i := 4) rfl))) (mvT hZ (hw _ (List.mem_of_getElem? (i := 5) rfl))) (mvT hZ (hw _ (List.mem_of_getElem? (i := 6) rfl))) (by decide) (backOf (W := 1) (rmIni l Z _ hw [] b3 h3 n0 Z5 ) hZ (hw _ (List.mem_of_getElem? (i := 6) rfl)) (hw _ (List.mem_of_getElem? (i := 3) rfl)) (by decide) (by decide)) (g := (mkF m 54 #[.val (.long q0), .second, .val (.long q1), .second, .val (.long q2), .second, .val (.long q3), .second, .val (.int p4), .val (.long (q0 &&& (2305843009213693951 : Int64))), .second, .val (.long (q1 &&& (2305843009213693951 : Int64))), .second, .val (.long (q2 &&& (2305843009213693951 : Int64))), .second, .val (.long (q3 &&& (2305843009213693951 : Int64))), .second, .val (.int (0 : Int32)), .val (.int (0 : Int32)), .unset, .unset, .unset, .unset, .unset, .unset, .unset, .unset] [(.ref b3), (.ref b3)])) rfl (by rw [hml]; rfl) (Steps.refl _) (a := b3) (argsL := []) (rest := [(.ref b3)]) (lenOf pd_0 rfl) rfl (by show 2 * 0 + _ ≤ _; exact Nat.le_of_eq rfl) (hb hby at_54) (fun _ _ => ⟨rfl, e3, (by decide : 1 + 0 ≤ _), (by decide : 3 + 0 ≤ _)⟩)
      dsimp only [Pt.U, Pt.locs, Pt.cells, Pt.slots] at X9 l9 y9 z9 st9 hQ9
      subst l9 y9 z9
      obtain ⟨rfl, Nq9, hs9⟩ := hQ9
      have N10 := Fr.app N0 Nq9
      refine OFin.to (S' := T9.setTop (mkF m 57 #[.val (.long q0), .second, .val (.long q1), .second, .val (.long q2), .second, .val (.long q3), .second, .val (.int p4), .val (.long (q0 &&& (2305843009213693951 : Int64))), .second, .val (.long (q1 &&& (2305843009213693951 : Int64))), .second, .val (.long (q2 &&& (2305843009213693951 : Int64))), .second, .val (.long (q3 &&& (2305843009213693951 : Int64))), .second, .val (.int (0 : Int32)), .val (.int (0 : Int32)), .unset, .unset, .unset, .unset, .unset, .unset, .unset, .unset] [(.ref b3)])) st9 ?_
      refine OFin.of (S' := T9.setTop (mkF m 139 #[.val (.long q0), .second, .val (.long q1), .second, .val (.long q2), .second, .val (.long q3), .second, .val (.int p4), .val (.long (q0 &&& (2305843009213693951 : Int64))), .second, .val (.long (q1 &&& (2305843009213693951 : Int64))), .second, .val (.long (q2 &&& (2305843009213693951 : Int64))), .second, .val (.long (q3 &&& (2305843009213693951 : Int64))), .second, .val (.int (0 : Int32)), .val (.int (0 : Int32)), .val (.ref b3), .val (.int (1 : Int32)), .unset, .unset, .unset, .unset, .unset, .unset] [(.ref b3)])) (fun t ht => ?_) ?_
      · refine XS.astore X9.here hx rfl (hb hby at_57) rfl rfl (l' := #[.val (.long q0), .second, .val (.long q1), .second, .val (.long q2), .second, .val (.long q3), .second, .val (.int p4), .val (.long (q0 &&& (2305843009213693951 : Int64))), .second, .val (.long (q1 &&& (2305843009213693951 : Int64))), .second, .val (.long (q2 &&& (2305843009213693951 : Int64))), .second, .val (.long (q3 &&& (2305843009213693951 : Int64))), .second, .val (.int (0 : Int32)), .val (.int (0 : Int32)), .val (.ref b3), .unset, .unset, .unset, .unset, .unset, .unset, .unset]) rfl ?_
        show Steps p.tables e below (T9.setTop (mkF m 59 #[.val (.long q0), .second, .val (.long q1), .second, .val (.long q2), .second, .val (.long q3), .second, .val (.int p4), .val (.long (q0 &&& (2305843009213693951 : Int64))), .second, .val (.long (q1 &&& (2305843009213693951 : Int64))), .second, .val (.long (q2 &&& (2305843009213693951 : Int64))), .second, .val (.long (q3 &&& (2305843009213693951 : Int64))), .second, .val (.int (0 : Int32)), .val (.int (0 : Int32)), .val (.ref b3), .unset, .unset, .unset, .unset, .unset, .unset, .unset] [])) _
        refine XS.iconst X9.here hx rfl (hb hby at_59) ?_
        show Steps p.tables e below (T9.setTop (mkF m 60 _ [(.int (1 : Int32))])) _
        refine XS.istore X9.here hx rfl (hb hby at_60) rfl (l' := #[.val (.long q0), .second, .val (.long q1), .second, .val (.long q2), .second, .val (.long q3), .second, .val (.int p4), .val (.long (q0 &&& (2305843009213693951 : Int64))), .second, .val (.long (q1 &&& (2305843009213693951 : Int64))), .second, .val (.long (q2 &&& (2305843009213693951 : Int64))), .second, .val (.long (q3 &&& (2305843009213693951 : Int64))), .second, .val (.int (0 : Int32)), .val (.int (0 : Int32)), .val (.ref b3), .val (.int (1 : Int32)), .unset, .unset, .unset, .unset, .unset, .unset]) rfl ?_
        show Steps p.tables e below (T9.setTop (mkF m 62 #[.val (.long q0), .second, .val (.long q1), .second, .val (.long q2), .second, .val (.long q3), .second, .val (.int p4), .val (.long (q0 &&& (2305843009213693951 : Int64))), .second, .val (.long (q1 &&& (2305843009213693951 : Int64))), .second, .val (.long (q2 &&& (2305843009213693951 : Int64))), .second, .val (.long (q3 &&& (2305843009213693951 : Int64))), .second, .val (.int (0 : Int32)), .val (.int (0 : Int32)), .val (.ref b3), .val (.int (1 : Int32)), .unset, .unset, .unset, .unset, .unset, .unset] [])) _
        refine XS.iload X9.here hx rfl (hb hby at_62) rfl ?_
        show Steps p.tables e below (T9.setTop (mkF m 64 _ [(.int (0 : Int32))])) _
        refine XS.ifYes X9.here hx rfl (pc0 := 64) (pc' := 98) rfl (hb hby at_64) rfl ((if0 _ _).trans (teq (by decide : (0 : Int32) = (0 : Int32))).1) (by decide) (by decide) ?_
        show Steps p.tables e below (T9.setTop (mkF m 98 _ [])) _
        refine XS.iload X9.here hx rfl (hb hby at_98) rfl ?_
        show Steps p.tables e below (T9.setTop (mkF m 100 _ [(.int (0 : Int32))])) _
        refine XS.iconst X9.here hx rfl (hb hby at_100) ?_
        show Steps p.tables e below (T9.setTop (mkF m 101 _ [(.int (1 : Int32)), (.int (0 : Int32))])) _
        refine XS.icmpYes X9.here hx rfl (pc0 := 101) (pc' := 111) rfl (hb hby at_101) rfl (tlt (by decide : (0 : Int32) < (1 : Int32))).1 (by decide) (by decide) ?_
        show Steps p.tables e below (T9.setTop (mkF m 111 _ [])) _
        refine XS.iload X9.here hx rfl (hb hby at_111) rfl ?_
        show Steps p.tables e below (T9.setTop (mkF m 113 _ [(.int (0 : Int32))])) _
        refine XS.iconst X9.here hx rfl (hb hby at_113) ?_
        show Steps p.tables e below (T9.setTop (mkF m 114 _ [(.int (2 : Int32)), (.int (0 : Int32))])) _
        refine XS.icmpYes X9.here hx rfl (pc0 := 114) (pc' := 124) rfl (hb hby at_114) rfl (tlt (by decide : (0 : Int32) < (2 : Int32))).1 (by decide) (by decide) ?_
        show Steps p.tables e below (T9.setTop (mkF m 124 _ [])) _
        refine XS.iload X9.here hx rfl (hb hby at_124) rfl ?_
        show Steps p.tables e below (T9.setTop (mkF m 126 _ [(.int (0 : Int32))])) _
        refine XS.iconst X9.here hx rfl (hb hby at_126) ?_
        show Steps p.tables e below (T9.setTop (mkF m 127 _ [(.int (3 : Int32)), (.int (0 : Int32))])) _
        refine XS.icmpYes X9.here hx rfl (pc0 := 127) (pc' := 137) rfl (hb hby at_127) rfl (tlt (by decide : (0 : Int32) < (3 : Int32))).1 (by decide) (by decide) ?_
        show Steps p.tables e below (T9.setTop (mkF m 137 _ [])) _
        refine XS.aload X9.here hx rfl (hb hby at_137) rfl rfl ?_
        exact ht
      obtain ⟨cq12, kq12, q12a, q12b, q12c⟩ := isOf hZ hs9 A3
      obtain ⟨_, _, ⟨T11, L11, k11, n11⟩, -, X11, ⟨Lc11, hQ11, l11, y11, z11⟩, st11⟩ := X9.virtualBack hx (y := (⟨"com/example/kindred_mesh/kindredmesh/peer/SearchTime", "newPeriod", "()V"⟩ : MethodName)) (z := (⟨"com/example/kindred_mesh/kindredmesh/peer/SearchTime", "newPeriod", "()V"⟩ : MethodName)) hown (mvT hZ (hw _ (List.mem_of_getElem? (i := 19) rfl))) (mvT hZ (hw _ (List.mem_of_getElem? (i := 20) rfl))) (notFace_of_selects (args := #[]) (mvT hZ (hw _ (List.mem_of_getElem? (i := 22) rfl)))) (mvT hZ (hw _ (List.mem_of_getElem? (i := 22) rfl))) (mvT hZ (hw _ (List.mem_of_getElem? (i := 21) rfl))) (by decide) (backOf (W := 0) (rmNp0 l Z _ hw [] b3 (0 : Int64) (0 : Int64) 0 h3 n0 Z5 A3 f6 f7 f8 g4 (by decide)) hZ (hw _ (List.mem_of_getElem? (i := 23) rfl)) (hw _ (List.mem_of_getElem? (i := 3) rfl)) (by decide) (by decide)) q12a q12c (g := (mkF m 139 #[.val (.long q0), .second, .val (.long q1), .second, .val (.long q2), .second, .val (.long q3), .second, .val (.int p4), .val (.long (q0 &&& (2305843009213693951 : Int64))), .second, .val (.long (q1 &&& (2305843009213693951 : Int64))), .second, .val (.long (q2 &&& (2305843009213693951 : Int64))), .second, .val (.long (q3 &&& (2305843009213693951 : Int64))), .second, .val (.int (0 : Int32)), .val (.int (0 : Int32)), .val (.ref b3), .val (.int (1 : Int32)), .unset, .unset, .unset, .unset, .unset, .unset] [(.ref b3)])) rfl (by rw [hml]; rfl) (Steps.refl _) (argsL := []) (rest := []) (lenOf pd_0 rfl) rfl (by show 2 * 0 + _ ≤ _; exact Nat.le_of_eq rfl) (hb hby at_139) (fun _ _ => ⟨rfl, hs9, (by decide : 1 + 0 ≤ _), (by decide : 3 + 0 ≤ _)⟩)
      dsimp only [Pt.U, Pt.locs, Pt.cells, Pt.slots] at X11 l11 y11 z11 st11 hQ11
      subst l11 y11 z11
      obtain ⟨rfl, Nq11, Kq11, f13, f14, f15⟩ := hQ11
      have N16 := Fr.app N10 Nq11
      have f17 := (A3.keep Kq11)
      have Z18 : n0 ≤ T11.heap.size := (Nat.le_trans Z5 Kq11.1)
      refine OFin.to (S' := T11.setTop (mkF m 142 #[.val (.long q0), .second, .val (.long q1), .second, .val (.long q2), .second, .val (.long q3), .second, .val (.int p4), .val (.long (q0 &&& (2305843009213693951 : Int64))), .second, .val (.long (q1 &&& (2305843009213693951 : Int64))), .second, .val (.long (q2 &&& (2305843009213693951 : Int64))), .second, .val (.long (q3 &&& (2305843009213693951 : Int64))), .second, .val (.int (0 : Int32)), .val (.int (0 : Int32)), .val (.ref b3), .val (.int (1 : Int32)), .unset, .unset, .unset, .unset, .unset, .unset] [])) st11 ?_
      refine OFin.of (S' := T11.setTop (mkF m 202 #[.val (.long q0), .second, .val (.long q1), .second, .val (.long q2), .second, .val (.long q3), .second, .val (.int p4), .val (.long (q0 &&& (2305843009213693951 : Int64))), .second, .val (.long (q1 &&& (2305843009213693951 : Int64))), .second, .val (.long (q2 &&& (2305843009213693951 : Int64))), .second, .val (.long (q3 &&& (2305843009213693951 : Int64))), .second, .val (.int (0 : Int32)), .val (.int (0 : Int32)), .val (.ref b3), .val (.int (1 : Int32)), .val (.long (0 : Int64)), .second, .val (.double FP.dconst0), .second, .unset, .unset] [(.ref b3)])) (fun t ht => ?_) ?_
      · refine XS.iload X11.here hx rfl (hb hby at_142) rfl ?_
        show Steps p.tables e below (T11.setTop (mkF m 144 _ [(.int (0 : Int32))])) _
        refine XS.iconst X11.here hx rfl (hb hby at_144) ?_
        show Steps p.tables e below (T11.setTop (mkF m 145 _ [(.int (1 : Int32)), (.int (0 : Int32))])) _
        refine XS.icmpYes X11.here hx rfl (pc0 := 145) (pc' := 153) rfl (hb hby at_145) rfl (tlt (by decide : (0 : Int32) < (1 : Int32))).1 (by decide) (by decide) ?_
        show Steps p.tables e below (T11.setTop (mkF m 153 _ [])) _
        refine XS.lconst X11.here hx rfl (hb hby at_153) ?_
        show Steps p.tables e below (T11.setTop (mkF m 154 _ [(.long (0 : Int64))])) _
        refine XS.iload X11.here hx rfl (hb hby at_154) rfl ?_
        show Steps p.tables e below (T11.setTop (mkF m 156 _ [(.int (0 : Int32)), (.long (0 : Int64))])) _
        refine XS.iconst X11.here hx rfl (hb hby at_156) ?_
        show Steps p.tables e below (T11.setTop (mkF m 157 _ [(.int (2 : Int32)), (.int (0 : Int32)), (.long (0 : Int64))])) _
        refine XS.icmpYes X11.here hx rfl (pc0 := 157) (pc' := 165) rfl (hb hby at_157) rfl (tlt (by decide : (0 : Int32) < (2 : Int32))).1 (by decide) (by decide) ?_
        show Steps p.tables e below (T11.setTop (mkF m 165 _ [(.long (0 : Int64))])) _
        refine XS.lconst X11.here hx rfl (hb hby at_165) ?_
        show Steps p.tables e below (T11.setTop (mkF m 166 _ [(.long (0 : Int64)), (.long (0 : Int64))])) _
        refine XS.ladd X11.here hx rfl (hb hby at_166) rfl ?_
        show Steps p.tables e below (T11.setTop (mkF m 167 _ [(.long (0 : Int64))])) _
        refine XS.iload X11.here hx rfl (hb hby at_167) rfl ?_
        show Steps p.tables e below (T11.setTop (mkF m 169 _ [(.int (0 : Int32)), (.long (0 : Int64))])) _
        refine XS.iconst X11.here hx rfl (hb hby at_169) ?_
        show Steps p.tables e below (T11.setTop (mkF m 170 _ [(.int (3 : Int32)), (.int (0 : Int32)), (.long (0 : Int64))])) _
        refine XS.icmpYes X11.here hx rfl (pc0 := 170) (pc' := 178) rfl (hb hby at_170) rfl (tlt (by decide : (0 : Int32) < (3 : Int32))).1 (by decide) (by decide) ?_
        show Steps p.tables e below (T11.setTop (mkF m 178 _ [(.long (0 : Int64))])) _
        refine XS.lconst X11.here hx rfl (hb hby at_178) ?_
        show Steps p.tables e below (T11.setTop (mkF m 179 _ [(.long (0 : Int64)), (.long (0 : Int64))])) _
        refine XS.ladd X11.here hx rfl (hb hby at_179) rfl ?_
        show Steps p.tables e below (T11.setTop (mkF m 180 _ [(.long (0 : Int64))])) _
        refine XS.lstore X11.here hx rfl (hb hby at_180) rfl (l' := #[.val (.long q0), .second, .val (.long q1), .second, .val (.long q2), .second, .val (.long q3), .second, .val (.int p4), .val (.long (q0 &&& (2305843009213693951 : Int64))), .second, .val (.long (q1 &&& (2305843009213693951 : Int64))), .second, .val (.long (q2 &&& (2305843009213693951 : Int64))), .second, .val (.long (q3 &&& (2305843009213693951 : Int64))), .second, .val (.int (0 : Int32)), .val (.int (0 : Int32)), .val (.ref b3), .val (.int (1 : Int32)), .val (.long (0 : Int64)), .second, .unset, .unset, .unset, .unset]) rfl ?_
        show Steps p.tables e below (T11.setTop (mkF m 182 #[.val (.long q0), .second, .val (.long q1), .second, .val (.long q2), .second, .val (.long q3), .second, .val (.int p4), .val (.long (q0 &&& (2305843009213693951 : Int64))), .second, .val (.long (q1 &&& (2305843009213693951 : Int64))), .second, .val (.long (q2 &&& (2305843009213693951 : Int64))), .second, .val (.long (q3 &&& (2305843009213693951 : Int64))), .second, .val (.int (0 : Int32)), .val (.int (0 : Int32)), .val (.ref b3), .val (.int (1 : Int32)), .val (.long (0 : Int64)), .second, .unset, .unset, .unset, .unset] [])) _
        refine XS.iload X11.here hx rfl (hb hby at_182) rfl ?_
        show Steps p.tables e below (T11.setTop (mkF m 184 _ [(.int (0 : Int32))])) _
        refine XS.ifNo X11.here hx rfl (hb hby at_184) rfl ((if0 _ _).trans (teq (by decide : (0 : Int32) = (0 : Int32))).2) ?_
        show Steps p.tables e below (T11.setTop (mkF m 187 _ [])) _
        refine XS.dconst0 X11.here hx rfl (hb hby at_187) rfl ?_
        show Steps p.tables e below (T11.setTop (mkF m 188 _ [(.double FP.dconst0)])) _
        refine XS.goto X11.here hx rfl (pc0 := 188) (pc' := 198) rfl (hb hby at_188) (by decide) (by decide) ?_
        show Steps p.tables e below (T11.setTop (mkF m 198 _ [(.double FP.dconst0)])) _
        refine XS.dstore X11.here hx rfl (hb hby at_198) rfl (l' := #[.val (.long q0), .second, .val (.long q1), .second, .val (.long q2), .second, .val (.long q3), .second, .val (.int p4), .val (.long (q0 &&& (2305843009213693951 : Int64))), .second, .val (.long (q1 &&& (2305843009213693951 : Int64))), .second, .val (.long (q2 &&& (2305843009213693951 : Int64))), .second, .val (.long (q3 &&& (2305843009213693951 : Int64))), .second, .val (.int (0 : Int32)), .val (.int (0 : Int32)), .val (.ref b3), .val (.int (1 : Int32)), .val (.long (0 : Int64)), .second, .val (.double FP.dconst0), .second, .unset, .unset]) rfl ?_
        show Steps p.tables e below (T11.setTop (mkF m 200 #[.val (.long q0), .second, .val (.long q1), .second, .val (.long q2), .second, .val (.long q3), .second, .val (.int p4), .val (.long (q0 &&& (2305843009213693951 : Int64))), .second, .val (.long (q1 &&& (2305843009213693951 : Int64))), .second, .val (.long (q2 &&& (2305843009213693951 : Int64))), .second, .val (.long (q3 &&& (2305843009213693951 : Int64))), .second, .val (.int (0 : Int32)), .val (.int (0 : Int32)), .val (.ref b3), .val (.int (1 : Int32)), .val (.long (0 : Int64)), .second, .val (.double FP.dconst0), .second, .unset, .unset] [])) _
        refine XS.aload X11.here hx rfl (hb hby at_200) rfl rfl ?_
        exact ht
      obtain ⟨cq20, kq20, q20a, q20b, q20c⟩ := isOf hZ (rfl : T11.heap = T11.heap) f17
      obtain ⟨_, _, ⟨T19, L19, k19, n19⟩, -, X19, ⟨Lc19, hQ19, l19, y19, z19⟩, st19⟩ := X11.virtualBack hx (y := (⟨"com/example/kindred_mesh/kindredmesh/peer/SearchTime", "lastMean", "()D"⟩ : MethodName)) (z := (⟨"com/example/kindred_mesh/kindredmesh/peer/SearchTime", "lastMean", "()D"⟩ : MethodName)) hown (mvT hZ (hw _ (List.mem_of_getElem? (i := 26) rfl))) (mvT hZ (hw _ (List.mem_of_getElem? (i := 27) rfl))) (notFace_of_selects (args := #[]) (mvT hZ (hw _ (List.mem_of_getElem? (i := 29) rfl)))) (mvT hZ (hw _ (List.mem_of_getElem? (i := 29) rfl))) (mvT hZ (hw _ (List.mem_of_getElem? (i := 28) rfl))) (by decide) (backOf (W := 0) (rmLm l Z _ hw [] b3 FP.dconst0 T11.heap n0 Z18 f15) hZ (hw _ (List.mem_of_getElem? (i := 30) rfl)) (hw _ (List.mem_of_getElem? (i := 3) rfl)) (by decide) (by decide)) q20a q20c (g := (mkF m 202 #[.val (.long q0), .second, .val (.long q1), .second, .val (.long q2), .second, .val (.long q3), .second, .val (.int p4), .val (.long (q0 &&& (2305843009213693951 : Int64))), .second, .val (.long (q1 &&& (2305843009213693951 : Int64))), .second, .val (.long (q2 &&& (2305843009213693951 : Int64))), .second, .val (.long (q3 &&& (2305843009213693951 : Int64))), .second, .val (.int (0 : Int32)), .val (.int (0 : Int32)), .val (.ref b3), .val (.int (1 : Int32)), .val (.long (0 : Int64)), .second, .val (.double FP.dconst0), .second, .unset, .unset] [(.ref b3)])) rfl (by rw [hml]; rfl) (Steps.refl _) (argsL := []) (rest := []) (lenOf pd_1 rfl) rfl (by show 2 * 0 + _ ≤ _; exact Nat.le_of_eq rfl) (hb hby at_202) (fun _ _ => ⟨rfl, (rfl : T11.heap = T11.heap), (by decide : 1 + 0 ≤ _), (by decide : 3 + 0 ≤ _)⟩)
      dsimp only [Pt.U, Pt.locs, Pt.cells, Pt.slots] at X19 l19 y19 z19 st19 hQ19
      subst l19 y19 z19
      obtain ⟨rfl, Nq19, hs19⟩ := hQ19
      have N21 := Fr.app N16 Nq19
      refine OFin.to (S' := T19.setTop (mkF m 205 #[.val (.long q0), .second, .val (.long q1), .second, .val (.long q2), .second, .val (.long q3), .second, .val (.int p4), .val (.long (q0 &&& (2305843009213693951 : Int64))), .second, .val (.long (q1 &&& (2305843009213693951 : Int64))), .second, .val (.long (q2 &&& (2305843009213693951 : Int64))), .second, .val (.long (q3 &&& (2305843009213693951 : Int64))), .second, .val (.int (0 : Int32)), .val (.int (0 : Int32)), .val (.ref b3), .val (.int (1 : Int32)), .val (.long (0 : Int64)), .second, .val (.double FP.dconst0), .second, .unset, .unset] [(.double FP.dconst0)])) st19 ?_
      refine OFin.of (S' := T19.setTop (mkF m 232 #[.val (.long q0), .second, .val (.long q1), .second, .val (.long q2), .second, .val (.long q3), .second, .val (.int p4), .val (.long (q0 &&& (2305843009213693951 : Int64))), .second, .val (.long (q1 &&& (2305843009213693951 : Int64))), .second, .val (.long (q2 &&& (2305843009213693951 : Int64))), .second, .val (.long (q3 &&& (2305843009213693951 : Int64))), .second, .val (.int (0 : Int32)), .val (.int (0 : Int32)), .val (.ref b3), .val (.int (1 : Int32)), .val (.long (0 : Int64)), .second, .val (.double FP.dconst0), .second, .val (.double FP.dconst0), .second] [(.int (1 : Int32))])) (fun t ht => ?_) ?_
      · refine XS.dstore X19.here hx rfl (hb hby at_205) rfl (l' := #[.val (.long q0), .second, .val (.long q1), .second, .val (.long q2), .second, .val (.long q3), .second, .val (.int p4), .val (.long (q0 &&& (2305843009213693951 : Int64))), .second, .val (.long (q1 &&& (2305843009213693951 : Int64))), .second, .val (.long (q2 &&& (2305843009213693951 : Int64))), .second, .val (.long (q3 &&& (2305843009213693951 : Int64))), .second, .val (.int (0 : Int32)), .val (.int (0 : Int32)), .val (.ref b3), .val (.int (1 : Int32)), .val (.long (0 : Int64)), .second, .val (.double FP.dconst0), .second, .val (.double FP.dconst0), .second]) rfl ?_
        show Steps p.tables e below (T19.setTop (mkF m 207 #[.val (.long q0), .second, .val (.long q1), .second, .val (.long q2), .second, .val (.long q3), .second, .val (.int p4), .val (.long (q0 &&& (2305843009213693951 : Int64))), .second, .val (.long (q1 &&& (2305843009213693951 : Int64))), .second, .val (.long (q2 &&& (2305843009213693951 : Int64))), .second, .val (.long (q3 &&& (2305843009213693951 : Int64))), .second, .val (.int (0 : Int32)), .val (.int (0 : Int32)), .val (.ref b3), .val (.int (1 : Int32)), .val (.long (0 : Int64)), .second, .val (.double FP.dconst0), .second, .val (.double FP.dconst0), .second] [])) _
        refine XS.iload X19.here hx rfl (hb hby at_207) rfl ?_
        show Steps p.tables e below (T19.setTop (mkF m 209 _ [(.int (1 : Int32))])) _
        refine XS.ifNo X19.here hx rfl (hb hby at_209) rfl ((if0 _ _).trans (feq (by decide : ¬ ((1 : Int32) = (0 : Int32)))).1) ?_
        show Steps p.tables e below (T19.setTop (mkF m 212 _ [])) _
        refine XS.dload X19.here hx rfl (hb hby at_212) rfl ?_
        show Steps p.tables e below (T19.setTop (mkF m 214 _ [(.double FP.dconst0)])) _
        refine XS.dload X19.here hx rfl (hb hby at_214) rfl ?_
        show Steps p.tables e below (T19.setTop (mkF m 216 _ [(.double FP.dconst0), (.double FP.dconst0)])) _
        refine XS.dcmpS X19.here hx rfl (hb hby at_216) rfl rfl ?_
        show Steps p.tables e below (T19.setTop (mkF m 217 _ [(.int (cmpValue (FP.dcmp FP.dconst0 FP.dconst0) .l))])) _
        refine XS.ifNo X19.here hx rfl (hb hby at_217) rfl ((if0 _ _).trans (teq (dcmpV_self own_nn0 .l : (cmpValue (FP.dcmp FP.dconst0 FP.dconst0) .l) = (0 : Int32))).2) ?_
        show Steps p.tables e below (T19.setTop (mkF m 220 _ [])) _
        refine XS.dload X19.here hx rfl (hb hby at_220) rfl ?_
        show Steps p.tables e below (T19.setTop (mkF m 222 _ [(.double FP.dconst0)])) _
        refine XS.dconst0 X19.here hx rfl (hb hby at_222) rfl ?_
        show Steps p.tables e below (T19.setTop (mkF m 223 _ [(.double FP.dconst0), (.double FP.dconst0)])) _
        refine XS.dcmpS X19.here hx rfl (hb hby at_223) rfl rfl ?_
        show Steps p.tables e below (T19.setTop (mkF m 224 _ [(.int (cmpValue (FP.dcmp FP.dconst0 FP.dconst0) .l))])) _
        refine XS.ifNo X19.here hx rfl (hb hby at_224) rfl ((if0 _ _).trans (flt (by decide +kernel : ¬ ((cmpValue (FP.dcmp FP.dconst0 FP.dconst0) .l) < (0 : Int32)))).1) ?_
        show Steps p.tables e below (T19.setTop (mkF m 227 _ [])) _
        refine XS.iconst X19.here hx rfl (hb hby at_227) ?_
        show Steps p.tables e below (T19.setTop (mkF m 228 _ [(.int (1 : Int32))])) _
        refine XS.goto X19.here hx rfl (pc0 := 228) (pc' := 232) rfl (hb hby at_228) (by decide) (by decide) ?_
        exact ht
      exact OFin.retB X19 hx hlk (t := .boolean) (by simp) hret (hb hby at_232) (by decide) (by decide) (by rw [hs19]; exact ⟨rfl, N21⟩)
    · refine OFin.of (S' := s₁.setTop (mkF m 50 #[.val (.long q0), .second, .val (.long q1), .second, .val (.long q2), .second, .val (.long q3), .second, .val (.int p4), .val (.long (q0 &&& (2305843009213693951 : Int64))), .second, .val (.long (q1 &&& (2305843009213693951 : Int64))), .second, .val (.long (q2 &&& (2305843009213693951 : Int64))), .second, .val (.long (q3 &&& (2305843009213693951 : Int64))), .second, .val (.int (0 : Int32)), .val (.int (1 : Int32)), .unset, .unset, .unset, .unset, .unset, .unset, .unset, .unset] [])) (fun t ht => ?_) ?_
      · refine XS.ifNo X0.here hx rfl (hb hby at_40) rfl ((if0 _ _).trans (feq (hc2 : ¬ ((p4 &&& (4 : Int32)) = (0 : Int32)))).1) ?_
        show Steps p.tables e below (s₁.setTop (mkF m 43 _ [])) _
        refine XS.iconst X0.here hx rfl (hb hby at_43) ?_
        show Steps p.tables e below (s₁.setTop (mkF m 44 _ [(.int (1 : Int32))])) _
        refine XS.goto X0.here hx rfl (pc0 := 44) (pc' := 48) rfl (hb hby at_44) (by decide) (by decide) ?_
        show Steps p.tables e below (s₁.setTop (mkF m 48 _ [(.int (1 : Int32))])) _
        refine XS.istore X0.here hx rfl (hb hby at_48) rfl (l' := #[.val (.long q0), .second, .val (.long q1), .second, .val (.long q2), .second, .val (.long q3), .second, .val (.int p4), .val (.long (q0 &&& (2305843009213693951 : Int64))), .second, .val (.long (q1 &&& (2305843009213693951 : Int64))), .second, .val (.long (q2 &&& (2305843009213693951 : Int64))), .second, .val (.long (q3 &&& (2305843009213693951 : Int64))), .second, .val (.int (0 : Int32)), .val (.int (1 : Int32)), .unset, .unset, .unset, .unset, .unset, .unset, .unset, .unset]) rfl ?_
        exact ht
      obtain ⟨T22, h22, X22, e22, E22, A22, D22, -, st22⟩ := newO X0 hx hZ hown (hw _ (List.mem_of_getElem? (i := 1) rfl)) (hw _ (List.mem_of_getElem? (i := 2) rfl)) (hw _ (List.mem_of_getElem? (i := 3) rfl)) e0 (g := (mkF m 50 #[.val (.long q0), .second, .val (.long q1), .second, .val (.long q2), .second, .val (.long q3), .second, .val (.int p4), .val (.long (q0 &&& (2305843009213693951 : Int64))), .second, .val (.long (q1 &&& (2305843009213693951 : Int64))), .second, .val (.long (q2 &&& (2305843009213693951 : Int64))), .second, .val (.long (q3 &&& (2305843009213693951 : Int64))), .second, .val (.int (0 : Int32)), .val (.int (1 : Int32)), .unset, .unset, .unset, .unset, .unset, .unset, .unset, .unset] [])) rfl (hb hby at_50) (by decide) (by decide)
      obtain ⟨b22, gq22⟩ : ∃ z, z = h0.size := ⟨_, rfl⟩
      rw [← gq22] at A22 D22 st22
      have g23 : n0 ≤ b22 := (Nat.le_trans Z0 (Nat.le_of_eq gq22.symm))
      have Z24 : n0 ≤ h22.size := (Nat.le_trans Z0 E22.1)
      have f25 : Fld Z h22 b22 "com/example/kindred_mesh/kindredmesh/peer/SearchTime" "served" "J" (.long (0 : Int64)) := D22 (Or.inl (hw _ (List.mem_of_getElem? (i := 16) rfl))) (ty := .long) (by decide)
      have f26 : Fld Z h22 b22 "com/example/kindred_mesh/kindredmesh/peer/SearchTime" "total" "J" (.long (0 : Int64)) := D22 (Or.inl (hw _ (List.mem_of_getElem? (i := 18) rfl))) (ty := .long) (by decide)
      have f27 : Fld Z h22 b22 "com/example/kindred_mesh/kindredmesh/peer/SearchTime" "lastMean" "D" (.double 0) := D22 (Or.inl (hw _ (List.mem_of_getElem? (i := 25) rfl))) (ty := .double) (by decide)
      refine OFin.of (S' := T22.setTop (mkF m 53 #[.val (.long q0), .second, .val (.long q1), .second, .val (.long q2), .second, .val (.long q3), .second, .val (.int p4), .val (.long (q0 &&& (2305843009213693951 : Int64))), .second, .val (.long (q1 &&& (2305843009213693951 : Int64))), .second, .val (.long (q2 &&& (2305843009213693951 : Int64))), .second, .val (.long (q3 &&& (2305843009213693951 : Int64))), .second, .val (.int (0 : Int32)), .val (.int (1 : Int32)), .unset, .unset, .unset, .unset, .unset, .unset, .unset, .unset] [(.ref b22)])) (fun t ht => st22 t ht) ?_
      refine OFin.of (S' := T22.setTop (mkF m 54 #[.val (.long q0), .second, .val (.long q1), .second, .val (.long q2), .second, .val (.long q3), .second, .val (.int p4), .val (.long (q0 &&& (2305843009213693951 : Int64))), .second, .val (.long (q1 &&& (2305843009213693951 : Int64))), .second, .val (.long (q2 &&& (2305843009213693951 : Int64))), .second, .val (.long (q3 &&& (2305843009213693951 : Int64))), .second, .val (.int (0 : Int32)), .val (.int (1 : Int32)), .unset, .unset, .unset, .unset, .unset, .unset, .unset, .unset] [(.ref b22), (.ref b22)])) (fun t ht => ?_) ?_
      · refine XS.dup X22.here hx rfl (hb hby at_53) rfl rfl ?_
        exact ht
      obtain ⟨_, _, ⟨T28, L28, k28, n28⟩, -, X28, ⟨Lc28, hQ28, l28, y28, z28⟩, st28⟩ := X22.specialBack hx (y := (⟨"com/example/kindred_mesh/kindredmesh/peer/SearchTime", "<init>", "()V"⟩ : MethodName)) rfl hown (mvT hZ (hw _ (List.mem_of_getElem? (i := 4) rfl))) (mvT hZ (hw _ (List.mem_of_getElem? (i := 5) rfl))) (mvT hZ (hw _ (List.mem_of_getElem? (i := 6) rfl))) (by decide) (backOf (W := 1) (rmIni l Z _ hw [] b22 h22 n0 Z24 ) hZ (hw _ (List.mem_of_getElem? (i := 6) rfl)) (hw _ (List.mem_of_getElem? (i := 3) rfl)) (by decide) (by decide)) (g := (mkF m 54 #[.val (.long q0), .second, .val (.long q1), .second, .val (.long q2), .second, .val (.long q3), .second, .val (.int p4), .val (.long (q0 &&& (2305843009213693951 : Int64))), .second, .val (.long (q1 &&& (2305843009213693951 : Int64))), .second, .val (.long (q2 &&& (2305843009213693951 : Int64))), .second, .val (.long (q3 &&& (2305843009213693951 : Int64))), .second, .val (.int (0 : Int32)), .val (.int (1 : Int32)), .unset, .unset, .unset, .unset, .unset, .unset, .unset, .unset] [(.ref b22), (.ref b22)])) rfl (by rw [hml]; rfl) (Steps.refl _) (a := b22) (argsL := []) (rest := [(.ref b22)]) (lenOf pd_0 rfl) rfl (by show 2 * 0 + _ ≤ _; exact Nat.le_of_eq rfl) (hb hby at_54) (fun _ _ => ⟨rfl, e22, (by decide : 1 + 0 ≤ _), (by decide : 3 + 0 ≤ _)⟩)
      dsimp only [Pt.U, Pt.locs, Pt.cells, Pt.slots] at X28 l28 y28 z28 st28 hQ28
      subst l28 y28 z28
      obtain ⟨rfl, Nq28, hs28⟩ := hQ28
      have N29 := Fr.app N0 Nq28
      refine OFin.to (S' := T28.setTop (mkF m 57 #[.val (.long q0), .second, .val (.long q1), .second, .val (.long q2), .second, .val (.long q3), .second, .val (.int p4), .val (.long (q0 &&& (2305843009213693951 : Int64))), .second, .val (.long (q1 &&& (2305843009213693951 : Int64))), .second, .val (.long (q2 &&& (2305843009213693951 : Int64))), .second, .val (.long (q3 &&& (2305843009213693951 : Int64))), .second, .val (.int (0 : Int32)), .val (.int (1 : Int32)), .unset, .unset, .unset, .unset, .unset, .unset, .unset, .unset] [(.ref b22)])) st28 ?_
      refine OFin.of (S' := T28.setTop (mkF m 71 #[.val (.long q0), .second, .val (.long q1), .second, .val (.long q2), .second, .val (.long q3), .second, .val (.int p4), .val (.long (q0 &&& (2305843009213693951 : Int64))), .second, .val (.long (q1 &&& (2305843009213693951 : Int64))), .second, .val (.long (q2 &&& (2305843009213693951 : Int64))), .second, .val (.long (q3 &&& (2305843009213693951 : Int64))), .second, .val (.int (0 : Int32)), .val (.int (1 : Int32)), .val (.ref b22), .val (.int (1 : Int32)), .unset, .unset, .unset, .unset, .unset, .unset] [(.long (q3 &&& (2305843009213693951 : Int64))), (.ref b22)])) (fun t ht => ?_) ?_
      · refine XS.astore X28.here hx rfl (hb hby at_57) rfl rfl (l' := #[.val (.long q0), .second, .val (.long q1), .second, .val (.long q2), .second, .val (.long q3), .second, .val (.int p4), .val (.long (q0 &&& (2305843009213693951 : Int64))), .second, .val (.long (q1 &&& (2305843009213693951 : Int64))), .second, .val (.long (q2 &&& (2305843009213693951 : Int64))), .second, .val (.long (q3 &&& (2305843009213693951 : Int64))), .second, .val (.int (0 : Int32)), .val (.int (1 : Int32)), .val (.ref b22), .unset, .unset, .unset, .unset, .unset, .unset, .unset]) rfl ?_
        show Steps p.tables e below (T28.setTop (mkF m 59 #[.val (.long q0), .second, .val (.long q1), .second, .val (.long q2), .second, .val (.long q3), .second, .val (.int p4), .val (.long (q0 &&& (2305843009213693951 : Int64))), .second, .val (.long (q1 &&& (2305843009213693951 : Int64))), .second, .val (.long (q2 &&& (2305843009213693951 : Int64))), .second, .val (.long (q3 &&& (2305843009213693951 : Int64))), .second, .val (.int (0 : Int32)), .val (.int (1 : Int32)), .val (.ref b22), .unset, .unset, .unset, .unset, .unset, .unset, .unset] [])) _
        refine XS.iconst X28.here hx rfl (hb hby at_59) ?_
        show Steps p.tables e below (T28.setTop (mkF m 60 _ [(.int (1 : Int32))])) _
        refine XS.istore X28.here hx rfl (hb hby at_60) rfl (l' := #[.val (.long q0), .second, .val (.long q1), .second, .val (.long q2), .second, .val (.long q3), .second, .val (.int p4), .val (.long (q0 &&& (2305843009213693951 : Int64))), .second, .val (.long (q1 &&& (2305843009213693951 : Int64))), .second, .val (.long (q2 &&& (2305843009213693951 : Int64))), .second, .val (.long (q3 &&& (2305843009213693951 : Int64))), .second, .val (.int (0 : Int32)), .val (.int (1 : Int32)), .val (.ref b22), .val (.int (1 : Int32)), .unset, .unset, .unset, .unset, .unset, .unset]) rfl ?_
        show Steps p.tables e below (T28.setTop (mkF m 62 #[.val (.long q0), .second, .val (.long q1), .second, .val (.long q2), .second, .val (.long q3), .second, .val (.int p4), .val (.long (q0 &&& (2305843009213693951 : Int64))), .second, .val (.long (q1 &&& (2305843009213693951 : Int64))), .second, .val (.long (q2 &&& (2305843009213693951 : Int64))), .second, .val (.long (q3 &&& (2305843009213693951 : Int64))), .second, .val (.int (0 : Int32)), .val (.int (1 : Int32)), .val (.ref b22), .val (.int (1 : Int32)), .unset, .unset, .unset, .unset, .unset, .unset] [])) _
        refine XS.iload X28.here hx rfl (hb hby at_62) rfl ?_
        show Steps p.tables e below (T28.setTop (mkF m 64 _ [(.int (1 : Int32))])) _
        refine XS.ifNo X28.here hx rfl (hb hby at_64) rfl ((if0 _ _).trans (feq (by decide : ¬ ((1 : Int32) = (0 : Int32)))).1) ?_
        show Steps p.tables e below (T28.setTop (mkF m 67 _ [])) _
        refine XS.aload X28.here hx rfl (hb hby at_67) rfl rfl ?_
        show Steps p.tables e below (T28.setTop (mkF m 69 _ [(.ref b22)])) _
        refine XS.lload X28.here hx rfl (hb hby at_69) rfl ?_
        exact ht
      obtain ⟨cq31, kq31, q31a, q31b, q31c⟩ := isOf hZ hs28 A22
      obtain ⟨_, _, ⟨T30, L30, k30, n30⟩, -, X30, ⟨Lc30, hQ30, l30, y30, z30⟩, st30⟩ := X28.virtualBack hx (y := (⟨"com/example/kindred_mesh/kindredmesh/peer/SearchTime", "served", "(J)V"⟩ : MethodName)) (z := (⟨"com/example/kindred_mesh/kindredmesh/peer/SearchTime", "served", "(J)V"⟩ : MethodName)) hown (mvT hZ (hw _ (List.mem_of_getElem? (i := 10) rfl))) (mvT hZ (hw _ (List.mem_of_getElem? (i := 11) rfl))) (notFace_of_selects (args := #[]) (mvT hZ (hw _ (List.mem_of_getElem? (i := 13) rfl)))) (mvT hZ (hw _ (List.mem_of_getElem? (i := 13) rfl))) (mvT hZ (hw _ (List.mem_of_getElem? (i := 12) rfl))) (by decide) (backOf (W := 0) (rmSv l Z _ hw [] b22 (q3 &&& (2305843009213693951 : Int64)) (0 : Int64) (0 : Int64) 0 h22 n0 Z24 A22 f25 f26 f27 g23) hZ (hw _ (List.mem_of_getElem? (i := 14) rfl)) (hw _ (List.mem_of_getElem? (i := 3) rfl)) (by decide) (by decide)) q31a q31c (g := (mkF m 71 #[.val (.long q0), .second, .val (.long q1), .second, .val (.long q2), .second, .val (.long q3), .second, .val (.int p4), .val (.long (q0 &&& (2305843009213693951 : Int64))), .second, .val (.long (q1 &&& (2305843009213693951 : Int64))), .second, .val (.long (q2 &&& (2305843009213693951 : Int64))), .second, .val (.long (q3 &&& (2305843009213693951 : Int64))), .second, .val (.int (0 : Int32)), .val (.int (1 : Int32)), .val (.ref b22), .val (.int (1 : Int32)), .unset, .unset, .unset, .unset, .unset, .unset] [(.long (q3 &&& (2305843009213693951 : Int64))), (.ref b22)])) rfl (by rw [hml]; rfl) (Steps.refl _) (argsL := [(.long (q3 &&& (2305843009213693951 : Int64)))]) (rest := []) (lenOf pd_2 rfl) rfl (by show 2 * 0 + _ ≤ _; exact Nat.le_of_eq rfl) (hb hby at_71) (fun _ _ => ⟨rfl, hs28, (by decide : 1 + 0 ≤ _), (by decide : 3 + 0 ≤ _)⟩)
      dsimp only [Pt.U, Pt.locs, Pt.cells, Pt.slots] at X30 l30 y30 z30 st30 hQ30
      subst l30 y30 z30
      obtain ⟨rfl, Nq30, Kq30, f32, f33, f34⟩ := hQ30
      have N35 := Fr.app N29 Nq30
      have f36 := (A22.keep Kq30)
      have Z37 : n0 ≤ T30.heap.size := (Nat.le_trans Z24 Kq30.1)
      refine OFin.to (S' := T30.setTop (mkF m 74 #[.val (.long q0), .second, .val (.long q1), .second, .val (.long q2), .second, .val (.long q3), .second, .val (.int p4), .val (.long (q0 &&& (2305843009213693951 : Int64))), .second, .val (.long (q1 &&& (2305843009213693951 : Int64))), .second, .val (.long (q2 &&& (2305843009213693951 : Int64))), .second, .val (.long (q3 &&& (2305843009213693951 : Int64))), .second, .val (.int (0 : Int32)), .val (.int (1 : Int32)), .val (.ref b22), .val (.int (1 : Int32)), .unset, .unset, .unset, .unset, .unset, .unset] [])) st30 ?_
      refine OFin.of (S' := T30.setTop (mkF m 76 #[.val (.long q0), .second, .val (.long q1), .second, .val (.long q2), .second, .val (.long q3), .second, .val (.int p4), .val (.long (q0 &&& (2305843009213693951 : Int64))), .second, .val (.long (q1 &&& (2305843009213693951 : Int64))), .second, .val (.long (q2 &&& (2305843009213693951 : Int64))), .second, .val (.long (q3 &&& (2305843009213693951 : Int64))), .second, .val (.int (0 : Int32)), .val (.int (1 : Int32)), .val (.ref b22), .val (.int (1 : Int32)), .unset, .unset, .unset, .unset, .unset, .unset] [(.ref b22)])) (fun t ht => ?_) ?_
      · refine XS.aload X30.here hx rfl (hb hby at_74) rfl rfl ?_
        exact ht
      obtain ⟨cq39, kq39, q39a, q39b, q39c⟩ := isOf hZ (rfl : T30.heap = T30.heap) f36
      obtain ⟨_, _, ⟨T38, L38, k38, n38⟩, -, X38, ⟨Lc38, hQ38, l38, y38, z38⟩, st38⟩ := X30.virtualBack hx (y := (⟨"com/example/kindred_mesh/kindredmesh/peer/SearchTime", "newPeriod", "()V"⟩ : MethodName)) (z := (⟨"com/example/kindred_mesh/kindredmesh/peer/SearchTime", "newPeriod", "()V"⟩ : MethodName)) hown (mvT hZ (hw _ (List.mem_of_getElem? (i := 19) rfl))) (mvT hZ (hw _ (List.mem_of_getElem? (i := 20) rfl))) (notFace_of_selects (args := #[]) (mvT hZ (hw _ (List.mem_of_getElem? (i := 22) rfl)))) (mvT hZ (hw _ (List.mem_of_getElem? (i := 22) rfl))) (mvT hZ (hw _ (List.mem_of_getElem? (i := 21) rfl))) (by decide) (backOf (W := 0) (rmNp1 l Z _ hw [] b22 (1 : Int64) ((0 : Int64) + (q3 &&& (2305843009213693951 : Int64))) 0 T30.heap n0 Z37 f36 f32 f33 f34 g23 (by decide) (own_nn _ (by decide))) hZ (hw _ (List.mem_of_getElem? (i := 23) rfl)) (hw _ (List.mem_of_getElem? (i := 3) rfl)) (by decide) (by decide)) q39a q39c (g := (mkF m 76 #[.val (.long q0), .second, .val (.long q1), .second, .val (.long q2), .second, .val (.long q3), .second, .val (.int p4), .val (.long (q0 &&& (2305843009213693951 : Int64))), .second, .val (.long (q1 &&& (2305843009213693951 : Int64))), .second, .val (.long (q2 &&& (2305843009213693951 : Int64))), .second, .val (.long (q3 &&& (2305843009213693951 : Int64))), .second, .val (.int (0 : Int32)), .val (.int (1 : Int32)), .val (.ref b22), .val (.int (1 : Int32)), .unset, .unset, .unset, .unset, .unset, .unset] [(.ref b22)])) rfl (by rw [hml]; rfl) (Steps.refl _) (argsL := []) (rest := []) (lenOf pd_0 rfl) rfl (by show 2 * 0 + _ ≤ _; exact Nat.le_of_eq rfl) (hb hby at_76) (fun _ _ => ⟨rfl, (rfl : T30.heap = T30.heap), (by decide : 1 + 0 ≤ _), (by decide : 3 + 0 ≤ _)⟩)
      dsimp only [Pt.U, Pt.locs, Pt.cells, Pt.slots] at X38 l38 y38 z38 st38 hQ38
      subst l38 y38 z38
      obtain ⟨rfl, Nq38, Kq38, f40, f41, f42⟩ := hQ38
      have N43 := Fr.app N35 Nq38
      have f44 := (f36.keep Kq38)
      have Z45 : n0 ≤ T38.heap.size := (Nat.le_trans Z37 Kq38.1)
      refine OFin.to (S' := T38.setTop (mkF m 79 #[.val (.long q0), .second, .val (.long q1), .second, .val (.long q2), .second, .val (.long q3), .second, .val (.int p4), .val (.long (q0 &&& (2305843009213693951 : Int64))), .second, .val (.long (q1 &&& (2305843009213693951 : Int64))), .second, .val (.long (q2 &&& (2305843009213693951 : Int64))), .second, .val (.long (q3 &&& (2305843009213693951 : Int64))), .second, .val (.int (0 : Int32)), .val (.int (1 : Int32)), .val (.ref b22), .val (.int (1 : Int32)), .unset, .unset, .unset, .unset, .unset, .unset] [])) st38 ?_
      refine OFin.of (S' := T38.setTop (mkF m 81 #[.val (.long q0), .second, .val (.long q1), .second, .val (.long q2), .second, .val (.long q3), .second, .val (.int p4), .val (.long (q0 &&& (2305843009213693951 : Int64))), .second, .val (.long (q1 &&& (2305843009213693951 : Int64))), .second, .val (.long (q2 &&& (2305843009213693951 : Int64))), .second, .val (.long (q3 &&& (2305843009213693951 : Int64))), .second, .val (.int (0 : Int32)), .val (.int (1 : Int32)), .val (.ref b22), .val (.int (1 : Int32)), .unset, .unset, .unset, .unset, .unset, .unset] [(.ref b22)])) (fun t ht => ?_) ?_
      · refine XS.aload X38.here hx rfl (hb hby at_79) rfl rfl ?_
        exact ht
      obtain ⟨cq47, kq47, q47a, q47b, q47c⟩ := isOf hZ (rfl : T38.heap = T38.heap) f44
      obtain ⟨_, _, ⟨T46, L46, k46, n46⟩, -, X46, ⟨Lc46, hQ46, l46, y46, z46⟩, st46⟩ := X38.virtualBack hx (y := (⟨"com/example/kindred_mesh/kindredmesh/peer/SearchTime", "lastMean", "()D"⟩ : MethodName)) (z := (⟨"com/example/kindred_mesh/kindredmesh/peer/SearchTime", "lastMean", "()D"⟩ : MethodName)) hown (mvT hZ (hw _ (List.mem_of_getElem? (i := 26) rfl))) (mvT hZ (hw _ (List.mem_of_getElem? (i := 27) rfl))) (notFace_of_selects (args := #[]) (mvT hZ (hw _ (List.mem_of_getElem? (i := 29) rfl)))) (mvT hZ (hw _ (List.mem_of_getElem? (i := 29) rfl))) (mvT hZ (hw _ (List.mem_of_getElem? (i := 28) rfl))) (by decide) (backOf (W := 0) (rmLm l Z _ hw [] b22 (FP.ddiv (FP.l2d ((0 : Int64) + (q3 &&& (2305843009213693951 : Int64)))) (FP.l2d (1 : Int64))) T38.heap n0 Z45 f42) hZ (hw _ (List.mem_of_getElem? (i := 30) rfl)) (hw _ (List.mem_of_getElem? (i := 3) rfl)) (by decide) (by decide)) q47a q47c (g := (mkF m 81 #[.val (.long q0), .second, .val (.long q1), .second, .val (.long q2), .second, .val (.long q3), .second, .val (.int p4), .val (.long (q0 &&& (2305843009213693951 : Int64))), .second, .val (.long (q1 &&& (2305843009213693951 : Int64))), .second, .val (.long (q2 &&& (2305843009213693951 : Int64))), .second, .val (.long (q3 &&& (2305843009213693951 : Int64))), .second, .val (.int (0 : Int32)), .val (.int (1 : Int32)), .val (.ref b22), .val (.int (1 : Int32)), .unset, .unset, .unset, .unset, .unset, .unset] [(.ref b22)])) rfl (by rw [hml]; rfl) (Steps.refl _) (argsL := []) (rest := []) (lenOf pd_1 rfl) rfl (by show 2 * 0 + _ ≤ _; exact Nat.le_of_eq rfl) (hb hby at_81) (fun _ _ => ⟨rfl, (rfl : T38.heap = T38.heap), (by decide : 1 + 0 ≤ _), (by decide : 3 + 0 ≤ _)⟩)
      dsimp only [Pt.U, Pt.locs, Pt.cells, Pt.slots] at X46 l46 y46 z46 st46 hQ46
      subst l46 y46 z46
      obtain ⟨rfl, Nq46, hs46⟩ := hQ46
      have N48 := Fr.app N43 Nq46
      refine OFin.to (S' := T46.setTop (mkF m 84 #[.val (.long q0), .second, .val (.long q1), .second, .val (.long q2), .second, .val (.long q3), .second, .val (.int p4), .val (.long (q0 &&& (2305843009213693951 : Int64))), .second, .val (.long (q1 &&& (2305843009213693951 : Int64))), .second, .val (.long (q2 &&& (2305843009213693951 : Int64))), .second, .val (.long (q3 &&& (2305843009213693951 : Int64))), .second, .val (.int (0 : Int32)), .val (.int (1 : Int32)), .val (.ref b22), .val (.int (1 : Int32)), .unset, .unset, .unset, .unset, .unset, .unset] [(.double (FP.ddiv (FP.l2d ((0 : Int64) + (q3 &&& (2305843009213693951 : Int64)))) (FP.l2d (1 : Int64))))])) st46 ?_
      refine OFin.of (S' := T46.setTop (mkF m 139 #[.val (.long q0), .second, .val (.long q1), .second, .val (.long q2), .second, .val (.long q3), .second, .val (.int p4), .val (.long (q0 &&& (2305843009213693951 : Int64))), .second, .val (.long (q1 &&& (2305843009213693951 : Int64))), .second, .val (.long (q2 &&& (2305843009213693951 : Int64))), .second, .val (.long (q3 &&& (2305843009213693951 : Int64))), .second, .val (.int (0 : Int32)), .val (.int (1 : Int32)), .val (.ref b22), .val (.int (1 : Int32)), .unset, .unset, .unset, .unset, .unset, .unset] [(.ref b22)])) (fun t ht => ?_) ?_
      · refine XS.lload X46.here hx rfl (hb hby at_84) rfl ?_
        show Steps p.tables e below (T46.setTop (mkF m 86 _ [(.long (q3 &&& (2305843009213693951 : Int64))), (.double (FP.ddiv (FP.l2d ((0 : Int64) + (q3 &&& (2305843009213693951 : Int64)))) (FP.l2d (1 : Int64))))])) _
        refine XS.l2dS X46.here hx rfl (hb hby at_86) rfl rfl ?_
        show Steps p.tables e below (T46.setTop (mkF m 87 _ [(.double (FP.l2d (q3 &&& (2305843009213693951 : Int64)))), (.double (FP.ddiv (FP.l2d ((0 : Int64) + (q3 &&& (2305843009213693951 : Int64)))) (FP.l2d (1 : Int64))))])) _
        refine XS.dcmpS X46.here hx rfl (hb hby at_87) rfl rfl ?_
        show Steps p.tables e below (T46.setTop (mkF m 88 _ [(.int (cmpValue (FP.dcmp (FP.ddiv (FP.l2d ((0 : Int64) + (q3 &&& (2305843009213693951 : Int64)))) (FP.l2d (1 : Int64))) (FP.l2d (q3 &&& (2305843009213693951 : Int64)))) .l))])) _
        refine XS.ifNo X46.here hx rfl (hb hby at_88) rfl ((if0 _ _).trans (teq (dcmpV_eq (own_div1 _) (own_nn _ (by decide)) .l : (cmpValue (FP.dcmp (FP.ddiv (FP.l2d ((0 : Int64) + (q3 &&& (2305843009213693951 : Int64)))) (FP.l2d (1 : Int64))) (FP.l2d (q3 &&& (2305843009213693951 : Int64)))) .l) = (0 : Int32))).2) ?_
        show Steps p.tables e below (T46.setTop (mkF m 91 _ [])) _
        refine XS.iconst X46.here hx rfl (hb hby at_91) ?_
        show Steps p.tables e below (T46.setTop (mkF m 92 _ [(.int (1 : Int32))])) _
        refine XS.goto X46.here hx rfl (pc0 := 92) (pc' := 96) rfl (hb hby at_92) (by decide) (by decide) ?_
        show Steps p.tables e below (T46.setTop (mkF m 96 _ [(.int (1 : Int32))])) _
        refine XS.istore X46.here hx rfl (hb hby at_96) rfl (l' := #[.val (.long q0), .second, .val (.long q1), .second, .val (.long q2), .second, .val (.long q3), .second, .val (.int p4), .val (.long (q0 &&& (2305843009213693951 : Int64))), .second, .val (.long (q1 &&& (2305843009213693951 : Int64))), .second, .val (.long (q2 &&& (2305843009213693951 : Int64))), .second, .val (.long (q3 &&& (2305843009213693951 : Int64))), .second, .val (.int (0 : Int32)), .val (.int (1 : Int32)), .val (.ref b22), .val (.int (1 : Int32)), .unset, .unset, .unset, .unset, .unset, .unset]) rfl ?_
        show Steps p.tables e below (T46.setTop (mkF m 98 _ [])) _
        refine XS.iload X46.here hx rfl (hb hby at_98) rfl ?_
        show Steps p.tables e below (T46.setTop (mkF m 100 _ [(.int (0 : Int32))])) _
        refine XS.iconst X46.here hx rfl (hb hby at_100) ?_
        show Steps p.tables e below (T46.setTop (mkF m 101 _ [(.int (1 : Int32)), (.int (0 : Int32))])) _
        refine XS.icmpYes X46.here hx rfl (pc0 := 101) (pc' := 111) rfl (hb hby at_101) rfl (tlt (by decide : (0 : Int32) < (1 : Int32))).1 (by decide) (by decide) ?_
        show Steps p.tables e below (T46.setTop (mkF m 111 _ [])) _
        refine XS.iload X46.here hx rfl (hb hby at_111) rfl ?_
        show Steps p.tables e below (T46.setTop (mkF m 113 _ [(.int (0 : Int32))])) _
        refine XS.iconst X46.here hx rfl (hb hby at_113) ?_
        show Steps p.tables e below (T46.setTop (mkF m 114 _ [(.int (2 : Int32)), (.int (0 : Int32))])) _
        refine XS.icmpYes X46.here hx rfl (pc0 := 114) (pc' := 124) rfl (hb hby at_114) rfl (tlt (by decide : (0 : Int32) < (2 : Int32))).1 (by decide) (by decide) ?_
        show Steps p.tables e below (T46.setTop (mkF m 124 _ [])) _
        refine XS.iload X46.here hx rfl (hb hby at_124) rfl ?_
        show Steps p.tables e below (T46.setTop (mkF m 126 _ [(.int (0 : Int32))])) _
        refine XS.iconst X46.here hx rfl (hb hby at_126) ?_
        show Steps p.tables e below (T46.setTop (mkF m 127 _ [(.int (3 : Int32)), (.int (0 : Int32))])) _
        refine XS.icmpYes X46.here hx rfl (pc0 := 127) (pc' := 137) rfl (hb hby at_127) rfl (tlt (by decide : (0 : Int32) < (3 : Int32))).1 (by decide) (by decide) ?_
        show Steps p.tables e below (T46.setTop (mkF m 137 _ [])) _
        refine XS.aload X46.here hx rfl (hb hby at_137) rfl rfl ?_
        exact ht
      obtain ⟨cq50, kq50, q50a, q50b, q50c⟩ := isOf hZ hs46 f44
      obtain ⟨_, _, ⟨T49, L49, k49, n49⟩, -, X49, ⟨Lc49, hQ49, l49, y49, z49⟩, st49⟩ := X46.virtualBack hx (y := (⟨"com/example/kindred_mesh/kindredmesh/peer/SearchTime", "newPeriod", "()V"⟩ : MethodName)) (z := (⟨"com/example/kindred_mesh/kindredmesh/peer/SearchTime", "newPeriod", "()V"⟩ : MethodName)) hown (mvT hZ (hw _ (List.mem_of_getElem? (i := 19) rfl))) (mvT hZ (hw _ (List.mem_of_getElem? (i := 20) rfl))) (notFace_of_selects (args := #[]) (mvT hZ (hw _ (List.mem_of_getElem? (i := 22) rfl)))) (mvT hZ (hw _ (List.mem_of_getElem? (i := 22) rfl))) (mvT hZ (hw _ (List.mem_of_getElem? (i := 21) rfl))) (by decide) (backOf (W := 0) (rmNp0 l Z _ hw [] b22 (0 : Int64) (0 : Int64) (FP.ddiv (FP.l2d ((0 : Int64) + (q3 &&& (2305843009213693951 : Int64)))) (FP.l2d (1 : Int64))) T38.heap n0 Z45 f44 f40 f41 f42 g23 (by decide)) hZ (hw _ (List.mem_of_getElem? (i := 23) rfl)) (hw _ (List.mem_of_getElem? (i := 3) rfl)) (by decide) (by decide)) q50a q50c (g := (mkF m 139 #[.val (.long q0), .second, .val (.long q1), .second, .val (.long q2), .second, .val (.long q3), .second, .val (.int p4), .val (.long (q0 &&& (2305843009213693951 : Int64))), .second, .val (.long (q1 &&& (2305843009213693951 : Int64))), .second, .val (.long (q2 &&& (2305843009213693951 : Int64))), .second, .val (.long (q3 &&& (2305843009213693951 : Int64))), .second, .val (.int (0 : Int32)), .val (.int (1 : Int32)), .val (.ref b22), .val (.int (1 : Int32)), .unset, .unset, .unset, .unset, .unset, .unset] [(.ref b22)])) rfl (by rw [hml]; rfl) (Steps.refl _) (argsL := []) (rest := []) (lenOf pd_0 rfl) rfl (by show 2 * 0 + _ ≤ _; exact Nat.le_of_eq rfl) (hb hby at_139) (fun _ _ => ⟨rfl, hs46, (by decide : 1 + 0 ≤ _), (by decide : 3 + 0 ≤ _)⟩)
      dsimp only [Pt.U, Pt.locs, Pt.cells, Pt.slots] at X49 l49 y49 z49 st49 hQ49
      subst l49 y49 z49
      obtain ⟨rfl, Nq49, Kq49, f51, f52, f53⟩ := hQ49
      have N54 := Fr.app N48 Nq49
      have f55 := (f44.keep Kq49)
      have Z56 : n0 ≤ T49.heap.size := (Nat.le_trans Z45 Kq49.1)
      refine OFin.to (S' := T49.setTop (mkF m 142 #[.val (.long q0), .second, .val (.long q1), .second, .val (.long q2), .second, .val (.long q3), .second, .val (.int p4), .val (.long (q0 &&& (2305843009213693951 : Int64))), .second, .val (.long (q1 &&& (2305843009213693951 : Int64))), .second, .val (.long (q2 &&& (2305843009213693951 : Int64))), .second, .val (.long (q3 &&& (2305843009213693951 : Int64))), .second, .val (.int (0 : Int32)), .val (.int (1 : Int32)), .val (.ref b22), .val (.int (1 : Int32)), .unset, .unset, .unset, .unset, .unset, .unset] [])) st49 ?_
      refine OFin.of (S' := T49.setTop (mkF m 202 #[.val (.long q0), .second, .val (.long q1), .second, .val (.long q2), .second, .val (.long q3), .second, .val (.int p4), .val (.long (q0 &&& (2305843009213693951 : Int64))), .second, .val (.long (q1 &&& (2305843009213693951 : Int64))), .second, .val (.long (q2 &&& (2305843009213693951 : Int64))), .second, .val (.long (q3 &&& (2305843009213693951 : Int64))), .second, .val (.int (0 : Int32)), .val (.int (1 : Int32)), .val (.ref b22), .val (.int (1 : Int32)), .val (.long (0 : Int64)), .second, .val (.double FP.dconst0), .second, .unset, .unset] [(.ref b22)])) (fun t ht => ?_) ?_
      · refine XS.iload X49.here hx rfl (hb hby at_142) rfl ?_
        show Steps p.tables e below (T49.setTop (mkF m 144 _ [(.int (0 : Int32))])) _
        refine XS.iconst X49.here hx rfl (hb hby at_144) ?_
        show Steps p.tables e below (T49.setTop (mkF m 145 _ [(.int (1 : Int32)), (.int (0 : Int32))])) _
        refine XS.icmpYes X49.here hx rfl (pc0 := 145) (pc' := 153) rfl (hb hby at_145) rfl (tlt (by decide : (0 : Int32) < (1 : Int32))).1 (by decide) (by decide) ?_
        show Steps p.tables e below (T49.setTop (mkF m 153 _ [])) _
        refine XS.lconst X49.here hx rfl (hb hby at_153) ?_
        show Steps p.tables e below (T49.setTop (mkF m 154 _ [(.long (0 : Int64))])) _
        refine XS.iload X49.here hx rfl (hb hby at_154) rfl ?_
        show Steps p.tables e below (T49.setTop (mkF m 156 _ [(.int (0 : Int32)), (.long (0 : Int64))])) _
        refine XS.iconst X49.here hx rfl (hb hby at_156) ?_
        show Steps p.tables e below (T49.setTop (mkF m 157 _ [(.int (2 : Int32)), (.int (0 : Int32)), (.long (0 : Int64))])) _
        refine XS.icmpYes X49.here hx rfl (pc0 := 157) (pc' := 165) rfl (hb hby at_157) rfl (tlt (by decide : (0 : Int32) < (2 : Int32))).1 (by decide) (by decide) ?_
        show Steps p.tables e below (T49.setTop (mkF m 165 _ [(.long (0 : Int64))])) _
        refine XS.lconst X49.here hx rfl (hb hby at_165) ?_
        show Steps p.tables e below (T49.setTop (mkF m 166 _ [(.long (0 : Int64)), (.long (0 : Int64))])) _
        refine XS.ladd X49.here hx rfl (hb hby at_166) rfl ?_
        show Steps p.tables e below (T49.setTop (mkF m 167 _ [(.long (0 : Int64))])) _
        refine XS.iload X49.here hx rfl (hb hby at_167) rfl ?_
        show Steps p.tables e below (T49.setTop (mkF m 169 _ [(.int (0 : Int32)), (.long (0 : Int64))])) _
        refine XS.iconst X49.here hx rfl (hb hby at_169) ?_
        show Steps p.tables e below (T49.setTop (mkF m 170 _ [(.int (3 : Int32)), (.int (0 : Int32)), (.long (0 : Int64))])) _
        refine XS.icmpYes X49.here hx rfl (pc0 := 170) (pc' := 178) rfl (hb hby at_170) rfl (tlt (by decide : (0 : Int32) < (3 : Int32))).1 (by decide) (by decide) ?_
        show Steps p.tables e below (T49.setTop (mkF m 178 _ [(.long (0 : Int64))])) _
        refine XS.lconst X49.here hx rfl (hb hby at_178) ?_
        show Steps p.tables e below (T49.setTop (mkF m 179 _ [(.long (0 : Int64)), (.long (0 : Int64))])) _
        refine XS.ladd X49.here hx rfl (hb hby at_179) rfl ?_
        show Steps p.tables e below (T49.setTop (mkF m 180 _ [(.long (0 : Int64))])) _
        refine XS.lstore X49.here hx rfl (hb hby at_180) rfl (l' := #[.val (.long q0), .second, .val (.long q1), .second, .val (.long q2), .second, .val (.long q3), .second, .val (.int p4), .val (.long (q0 &&& (2305843009213693951 : Int64))), .second, .val (.long (q1 &&& (2305843009213693951 : Int64))), .second, .val (.long (q2 &&& (2305843009213693951 : Int64))), .second, .val (.long (q3 &&& (2305843009213693951 : Int64))), .second, .val (.int (0 : Int32)), .val (.int (1 : Int32)), .val (.ref b22), .val (.int (1 : Int32)), .val (.long (0 : Int64)), .second, .unset, .unset, .unset, .unset]) rfl ?_
        show Steps p.tables e below (T49.setTop (mkF m 182 #[.val (.long q0), .second, .val (.long q1), .second, .val (.long q2), .second, .val (.long q3), .second, .val (.int p4), .val (.long (q0 &&& (2305843009213693951 : Int64))), .second, .val (.long (q1 &&& (2305843009213693951 : Int64))), .second, .val (.long (q2 &&& (2305843009213693951 : Int64))), .second, .val (.long (q3 &&& (2305843009213693951 : Int64))), .second, .val (.int (0 : Int32)), .val (.int (1 : Int32)), .val (.ref b22), .val (.int (1 : Int32)), .val (.long (0 : Int64)), .second, .unset, .unset, .unset, .unset] [])) _
        refine XS.iload X49.here hx rfl (hb hby at_182) rfl ?_
        show Steps p.tables e below (T49.setTop (mkF m 184 _ [(.int (0 : Int32))])) _
        refine XS.ifNo X49.here hx rfl (hb hby at_184) rfl ((if0 _ _).trans (teq (by decide : (0 : Int32) = (0 : Int32))).2) ?_
        show Steps p.tables e below (T49.setTop (mkF m 187 _ [])) _
        refine XS.dconst0 X49.here hx rfl (hb hby at_187) rfl ?_
        show Steps p.tables e below (T49.setTop (mkF m 188 _ [(.double FP.dconst0)])) _
        refine XS.goto X49.here hx rfl (pc0 := 188) (pc' := 198) rfl (hb hby at_188) (by decide) (by decide) ?_
        show Steps p.tables e below (T49.setTop (mkF m 198 _ [(.double FP.dconst0)])) _
        refine XS.dstore X49.here hx rfl (hb hby at_198) rfl (l' := #[.val (.long q0), .second, .val (.long q1), .second, .val (.long q2), .second, .val (.long q3), .second, .val (.int p4), .val (.long (q0 &&& (2305843009213693951 : Int64))), .second, .val (.long (q1 &&& (2305843009213693951 : Int64))), .second, .val (.long (q2 &&& (2305843009213693951 : Int64))), .second, .val (.long (q3 &&& (2305843009213693951 : Int64))), .second, .val (.int (0 : Int32)), .val (.int (1 : Int32)), .val (.ref b22), .val (.int (1 : Int32)), .val (.long (0 : Int64)), .second, .val (.double FP.dconst0), .second, .unset, .unset]) rfl ?_
        show Steps p.tables e below (T49.setTop (mkF m 200 #[.val (.long q0), .second, .val (.long q1), .second, .val (.long q2), .second, .val (.long q3), .second, .val (.int p4), .val (.long (q0 &&& (2305843009213693951 : Int64))), .second, .val (.long (q1 &&& (2305843009213693951 : Int64))), .second, .val (.long (q2 &&& (2305843009213693951 : Int64))), .second, .val (.long (q3 &&& (2305843009213693951 : Int64))), .second, .val (.int (0 : Int32)), .val (.int (1 : Int32)), .val (.ref b22), .val (.int (1 : Int32)), .val (.long (0 : Int64)), .second, .val (.double FP.dconst0), .second, .unset, .unset] [])) _
        refine XS.aload X49.here hx rfl (hb hby at_200) rfl rfl ?_
        exact ht
      obtain ⟨cq58, kq58, q58a, q58b, q58c⟩ := isOf hZ (rfl : T49.heap = T49.heap) f55
      obtain ⟨_, _, ⟨T57, L57, k57, n57⟩, -, X57, ⟨Lc57, hQ57, l57, y57, z57⟩, st57⟩ := X49.virtualBack hx (y := (⟨"com/example/kindred_mesh/kindredmesh/peer/SearchTime", "lastMean", "()D"⟩ : MethodName)) (z := (⟨"com/example/kindred_mesh/kindredmesh/peer/SearchTime", "lastMean", "()D"⟩ : MethodName)) hown (mvT hZ (hw _ (List.mem_of_getElem? (i := 26) rfl))) (mvT hZ (hw _ (List.mem_of_getElem? (i := 27) rfl))) (notFace_of_selects (args := #[]) (mvT hZ (hw _ (List.mem_of_getElem? (i := 29) rfl)))) (mvT hZ (hw _ (List.mem_of_getElem? (i := 29) rfl))) (mvT hZ (hw _ (List.mem_of_getElem? (i := 28) rfl))) (by decide) (backOf (W := 0) (rmLm l Z _ hw [] b22 FP.dconst0 T49.heap n0 Z56 f53) hZ (hw _ (List.mem_of_getElem? (i := 30) rfl)) (hw _ (List.mem_of_getElem? (i := 3) rfl)) (by decide) (by decide)) q58a q58c (g := (mkF m 202 #[.val (.long q0), .second, .val (.long q1), .second, .val (.long q2), .second, .val (.long q3), .second, .val (.int p4), .val (.long (q0 &&& (2305843009213693951 : Int64))), .second, .val (.long (q1 &&& (2305843009213693951 : Int64))), .second, .val (.long (q2 &&& (2305843009213693951 : Int64))), .second, .val (.long (q3 &&& (2305843009213693951 : Int64))), .second, .val (.int (0 : Int32)), .val (.int (1 : Int32)), .val (.ref b22), .val (.int (1 : Int32)), .val (.long (0 : Int64)), .second, .val (.double FP.dconst0), .second, .unset, .unset] [(.ref b22)])) rfl (by rw [hml]; rfl) (Steps.refl _) (argsL := []) (rest := []) (lenOf pd_1 rfl) rfl (by show 2 * 0 + _ ≤ _; exact Nat.le_of_eq rfl) (hb hby at_202) (fun _ _ => ⟨rfl, (rfl : T49.heap = T49.heap), (by decide : 1 + 0 ≤ _), (by decide : 3 + 0 ≤ _)⟩)
      dsimp only [Pt.U, Pt.locs, Pt.cells, Pt.slots] at X57 l57 y57 z57 st57 hQ57
      subst l57 y57 z57
      obtain ⟨rfl, Nq57, hs57⟩ := hQ57
      have N59 := Fr.app N54 Nq57
      refine OFin.to (S' := T57.setTop (mkF m 205 #[.val (.long q0), .second, .val (.long q1), .second, .val (.long q2), .second, .val (.long q3), .second, .val (.int p4), .val (.long (q0 &&& (2305843009213693951 : Int64))), .second, .val (.long (q1 &&& (2305843009213693951 : Int64))), .second, .val (.long (q2 &&& (2305843009213693951 : Int64))), .second, .val (.long (q3 &&& (2305843009213693951 : Int64))), .second, .val (.int (0 : Int32)), .val (.int (1 : Int32)), .val (.ref b22), .val (.int (1 : Int32)), .val (.long (0 : Int64)), .second, .val (.double FP.dconst0), .second, .unset, .unset] [(.double FP.dconst0)])) st57 ?_
      refine OFin.of (S' := T57.setTop (mkF m 232 #[.val (.long q0), .second, .val (.long q1), .second, .val (.long q2), .second, .val (.long q3), .second, .val (.int p4), .val (.long (q0 &&& (2305843009213693951 : Int64))), .second, .val (.long (q1 &&& (2305843009213693951 : Int64))), .second, .val (.long (q2 &&& (2305843009213693951 : Int64))), .second, .val (.long (q3 &&& (2305843009213693951 : Int64))), .second, .val (.int (0 : Int32)), .val (.int (1 : Int32)), .val (.ref b22), .val (.int (1 : Int32)), .val (.long (0 : Int64)), .second, .val (.double FP.dconst0), .second, .val (.double FP.dconst0), .second] [(.int (1 : Int32))])) (fun t ht => ?_) ?_
      · refine XS.dstore X57.here hx rfl (hb hby at_205) rfl (l' := #[.val (.long q0), .second, .val (.long q1), .second, .val (.long q2), .second, .val (.long q3), .second, .val (.int p4), .val (.long (q0 &&& (2305843009213693951 : Int64))), .second, .val (.long (q1 &&& (2305843009213693951 : Int64))), .second, .val (.long (q2 &&& (2305843009213693951 : Int64))), .second, .val (.long (q3 &&& (2305843009213693951 : Int64))), .second, .val (.int (0 : Int32)), .val (.int (1 : Int32)), .val (.ref b22), .val (.int (1 : Int32)), .val (.long (0 : Int64)), .second, .val (.double FP.dconst0), .second, .val (.double FP.dconst0), .second]) rfl ?_
        show Steps p.tables e below (T57.setTop (mkF m 207 #[.val (.long q0), .second, .val (.long q1), .second, .val (.long q2), .second, .val (.long q3), .second, .val (.int p4), .val (.long (q0 &&& (2305843009213693951 : Int64))), .second, .val (.long (q1 &&& (2305843009213693951 : Int64))), .second, .val (.long (q2 &&& (2305843009213693951 : Int64))), .second, .val (.long (q3 &&& (2305843009213693951 : Int64))), .second, .val (.int (0 : Int32)), .val (.int (1 : Int32)), .val (.ref b22), .val (.int (1 : Int32)), .val (.long (0 : Int64)), .second, .val (.double FP.dconst0), .second, .val (.double FP.dconst0), .second] [])) _
        refine XS.iload X57.here hx rfl (hb hby at_207) rfl ?_
        show Steps p.tables e below (T57.setTop (mkF m 209 _ [(.int (1 : Int32))])) _
        refine XS.ifNo X57.here hx rfl (hb hby at_209) rfl ((if0 _ _).trans (feq (by decide : ¬ ((1 : Int32) = (0 : Int32)))).1) ?_
        show Steps p.tables e below (T57.setTop (mkF m 212 _ [])) _
        refine XS.dload X57.here hx rfl (hb hby at_212) rfl ?_
        show Steps p.tables e below (T57.setTop (mkF m 214 _ [(.double FP.dconst0)])) _
        refine XS.dload X57.here hx rfl (hb hby at_214) rfl ?_
        show Steps p.tables e below (T57.setTop (mkF m 216 _ [(.double FP.dconst0), (.double FP.dconst0)])) _
        refine XS.dcmpS X57.here hx rfl (hb hby at_216) rfl rfl ?_
        show Steps p.tables e below (T57.setTop (mkF m 217 _ [(.int (cmpValue (FP.dcmp FP.dconst0 FP.dconst0) .l))])) _
        refine XS.ifNo X57.here hx rfl (hb hby at_217) rfl ((if0 _ _).trans (teq (dcmpV_self own_nn0 .l : (cmpValue (FP.dcmp FP.dconst0 FP.dconst0) .l) = (0 : Int32))).2) ?_
        show Steps p.tables e below (T57.setTop (mkF m 220 _ [])) _
        refine XS.dload X57.here hx rfl (hb hby at_220) rfl ?_
        show Steps p.tables e below (T57.setTop (mkF m 222 _ [(.double FP.dconst0)])) _
        refine XS.dconst0 X57.here hx rfl (hb hby at_222) rfl ?_
        show Steps p.tables e below (T57.setTop (mkF m 223 _ [(.double FP.dconst0), (.double FP.dconst0)])) _
        refine XS.dcmpS X57.here hx rfl (hb hby at_223) rfl rfl ?_
        show Steps p.tables e below (T57.setTop (mkF m 224 _ [(.int (cmpValue (FP.dcmp FP.dconst0 FP.dconst0) .l))])) _
        refine XS.ifNo X57.here hx rfl (hb hby at_224) rfl ((if0 _ _).trans (flt (by decide +kernel : ¬ ((cmpValue (FP.dcmp FP.dconst0 FP.dconst0) .l) < (0 : Int32)))).1) ?_
        show Steps p.tables e below (T57.setTop (mkF m 227 _ [])) _
        refine XS.iconst X57.here hx rfl (hb hby at_227) ?_
        show Steps p.tables e below (T57.setTop (mkF m 228 _ [(.int (1 : Int32))])) _
        refine XS.goto X57.here hx rfl (pc0 := 228) (pc' := 232) rfl (hb hby at_228) (by decide) (by decide) ?_
        exact ht
      exact OFin.retB X57 hx hlk (t := .boolean) (by simp) hret (hb hby at_232) (by decide) (by decide) (by rw [hs57]; exact ⟨rfl, N59⟩)
  · rw [hq1]
    refine OFin.of (S' := s₁.setTop (mkF m 40 #[.val (.long q0), .second, .val (.long q1), .second, .val (.long q2), .second, .val (.long q3), .second, .val (.int p4), .val (.long (q0 &&& (2305843009213693951 : Int64))), .second, .val (.long (q1 &&& (2305843009213693951 : Int64))), .second, .val (.long (q2 &&& (2305843009213693951 : Int64))), .second, .val (.long (q3 &&& (2305843009213693951 : Int64))), .second, .val (.int (1 : Int32)), .unset, .unset, .unset, .unset, .unset, .unset, .unset, .unset, .unset] [(.int (p4 &&& (4 : Int32)))])) (fun t ht => ?_) ?_
    · refine XS.istore X0.here hx rfl (hb hby at_34) rfl (l' := #[.val (.long q0), .second, .val (.long q1), .second, .val (.long q2), .second, .val (.long q3), .second, .val (.int p4), .val (.long (q0 &&& (2305843009213693951 : Int64))), .second, .val (.long (q1 &&& (2305843009213693951 : Int64))), .second, .val (.long (q2 &&& (2305843009213693951 : Int64))), .second, .val (.long (q3 &&& (2305843009213693951 : Int64))), .second, .val (.int (1 : Int32)), .unset, .unset, .unset, .unset, .unset, .unset, .unset, .unset, .unset]) rfl ?_
      show Steps p.tables e below (s₁.setTop (mkF m 36 #[.val (.long q0), .second, .val (.long q1), .second, .val (.long q2), .second, .val (.long q3), .second, .val (.int p4), .val (.long (q0 &&& (2305843009213693951 : Int64))), .second, .val (.long (q1 &&& (2305843009213693951 : Int64))), .second, .val (.long (q2 &&& (2305843009213693951 : Int64))), .second, .val (.long (q3 &&& (2305843009213693951 : Int64))), .second, .val (.int (1 : Int32)), .unset, .unset, .unset, .unset, .unset, .unset, .unset, .unset, .unset] [])) _
      refine XS.iload X0.here hx rfl (hb hby at_36) rfl ?_
      show Steps p.tables e below (s₁.setTop (mkF m 38 _ [(.int p4)])) _
      refine XS.iconst X0.here hx rfl (hb hby at_38) ?_
      show Steps p.tables e below (s₁.setTop (mkF m 39 _ [(.int (4 : Int32)), (.int p4)])) _
      refine XS.iand X0.here hx rfl (hb hby at_39) rfl ?_
      exact ht
    by_cases hc60 : (p4 &&& (4 : Int32)) = (0 : Int32)
    · refine OFin.of (S' := s₁.setTop (mkF m 50 #[.val (.long q0), .second, .val (.long q1), .second, .val (.long q2), .second, .val (.long q3), .second, .val (.int p4), .val (.long (q0 &&& (2305843009213693951 : Int64))), .second, .val (.long (q1 &&& (2305843009213693951 : Int64))), .second, .val (.long (q2 &&& (2305843009213693951 : Int64))), .second, .val (.long (q3 &&& (2305843009213693951 : Int64))), .second, .val (.int (1 : Int32)), .val (.int (0 : Int32)), .unset, .unset, .unset, .unset, .unset, .unset, .unset, .unset] [])) (fun t ht => ?_) ?_
      · refine XS.ifYes X0.here hx rfl (pc0 := 40) (pc' := 47) rfl (hb hby at_40) rfl ((if0 _ _).trans (teq (hc60 : (p4 &&& (4 : Int32)) = (0 : Int32))).1) (by decide) (by decide) ?_
        show Steps p.tables e below (s₁.setTop (mkF m 47 _ [])) _
        refine XS.iconst X0.here hx rfl (hb hby at_47) ?_
        show Steps p.tables e below (s₁.setTop (mkF m 48 _ [(.int (0 : Int32))])) _
        refine XS.istore X0.here hx rfl (hb hby at_48) rfl (l' := #[.val (.long q0), .second, .val (.long q1), .second, .val (.long q2), .second, .val (.long q3), .second, .val (.int p4), .val (.long (q0 &&& (2305843009213693951 : Int64))), .second, .val (.long (q1 &&& (2305843009213693951 : Int64))), .second, .val (.long (q2 &&& (2305843009213693951 : Int64))), .second, .val (.long (q3 &&& (2305843009213693951 : Int64))), .second, .val (.int (1 : Int32)), .val (.int (0 : Int32)), .unset, .unset, .unset, .unset, .unset, .unset, .unset, .unset]) rfl ?_
        exact ht
      obtain ⟨T61, h61, X61, e61, E61, A61, D61, -, st61⟩ := newO X0 hx hZ hown (hw _ (List.mem_of_getElem? (i := 1) rfl)) (hw _ (List.mem_of_getElem? (i := 2) rfl)) (hw _ (List.mem_of_getElem? (i := 3) rfl)) e0 (g := (mkF m 50 #[.val (.long q0), .second, .val (.long q1), .second, .val (.long q2), .second, .val (.long q3), .second, .val (.int p4), .val (.long (q0 &&& (2305843009213693951 : Int64))), .second, .val (.long (q1 &&& (2305843009213693951 : Int64))), .second, .val (.long (q2 &&& (2305843009213693951 : Int64))), .second, .val (.long (q3 &&& (2305843009213693951 : Int64))), .second, .val (.int (1 : Int32)), .val (.int (0 : Int32)), .unset, .unset, .unset, .unset, .unset, .unset, .unset, .unset] [])) rfl (hb hby at_50) (by decide) (by decide)
      obtain ⟨b61, gq61⟩ : ∃ z, z = h0.size := ⟨_, rfl⟩
      rw [← gq61] at A61 D61 st61
      have g62 : n0 ≤ b61 := (Nat.le_trans Z0 (Nat.le_of_eq gq61.symm))
      have Z63 : n0 ≤ h61.size := (Nat.le_trans Z0 E61.1)
      have f64 : Fld Z h61 b61 "com/example/kindred_mesh/kindredmesh/peer/SearchTime" "served" "J" (.long (0 : Int64)) := D61 (Or.inl (hw _ (List.mem_of_getElem? (i := 16) rfl))) (ty := .long) (by decide)
      have f65 : Fld Z h61 b61 "com/example/kindred_mesh/kindredmesh/peer/SearchTime" "total" "J" (.long (0 : Int64)) := D61 (Or.inl (hw _ (List.mem_of_getElem? (i := 18) rfl))) (ty := .long) (by decide)
      have f66 : Fld Z h61 b61 "com/example/kindred_mesh/kindredmesh/peer/SearchTime" "lastMean" "D" (.double 0) := D61 (Or.inl (hw _ (List.mem_of_getElem? (i := 25) rfl))) (ty := .double) (by decide)
      refine OFin.of (S' := T61.setTop (mkF m 53 #[.val (.long q0), .second, .val (.long q1), .second, .val (.long q2), .second, .val (.long q3), .second, .val (.int p4), .val (.long (q0 &&& (2305843009213693951 : Int64))), .second, .val (.long (q1 &&& (2305843009213693951 : Int64))), .second, .val (.long (q2 &&& (2305843009213693951 : Int64))), .second, .val (.long (q3 &&& (2305843009213693951 : Int64))), .second, .val (.int (1 : Int32)), .val (.int (0 : Int32)), .unset, .unset, .unset, .unset, .unset, .unset, .unset, .unset] [(.ref b61)])) (fun t ht => st61 t ht) ?_
      refine OFin.of (S' := T61.setTop (mkF m 54 #[.val (.long q0), .second, .val (.long q1), .second, .val (.long q2), .second, .val (.long q3), .second, .val (.int p4), .val (.long (q0 &&& (2305843009213693951 : Int64))), .second, .val (.long (q1 &&& (2305843009213693951 : Int64))), .second, .val (.long (q2 &&& (2305843009213693951 : Int64))), .second, .val (.long (q3 &&& (2305843009213693951 : Int64))), .second, .val (.int (1 : Int32)), .val (.int (0 : Int32)), .unset, .unset, .unset, .unset, .unset, .unset, .unset, .unset] [(.ref b61), (.ref b61)])) (fun t ht => ?_) ?_
      · refine XS.dup X61.here hx rfl (hb hby at_53) rfl rfl ?_
        exact ht
      obtain ⟨_, _, ⟨T67, L67, k67, n67⟩, -, X67, ⟨Lc67, hQ67, l67, y67, z67⟩, st67⟩ := X61.specialBack hx (y := (⟨"com/example/kindred_mesh/kindredmesh/peer/SearchTime", "<init>", "()V"⟩ : MethodName)) rfl hown (mvT hZ (hw _ (List.mem_of_getElem? (i := 4) rfl))) (mvT hZ (hw _ (List.mem_of_getElem? (i := 5) rfl))) (mvT hZ (hw _ (List.mem_of_getElem? (i := 6) rfl))) (by decide) (backOf (W := 1) (rmIni l Z _ hw [] b61 h61 n0 Z63 ) hZ (hw _ (List.mem_of_getElem? (i := 6) rfl)) (hw _ (List.mem_of_getElem? (i := 3) rfl)) (by decide) (by decide)) (g := (mkF m 54 #[.val (.long q0), .second, .val (.long q1), .second, .val (.long q2), .second, .val (.long q3), .second, .val (.int p4), .val (.long (q0 &&& (2305843009213693951 : Int64))), .second, .val (.long (q1 &&& (2305843009213693951 : Int64))), .second, .val (.long (q2 &&& (2305843009213693951 : Int64))), .second, .val (.long (q3 &&& (2305843009213693951 : Int64))), .second, .val (.int (1 : Int32)), .val (.int (0 : Int32)), .unset, .unset, .unset, .unset, .unset, .unset, .unset, .unset] [(.ref b61), (.ref b61)])) rfl (by rw [hml]; rfl) (Steps.refl _) (a := b61) (argsL := []) (rest := [(.ref b61)]) (lenOf pd_0 rfl) rfl (by show 2 * 0 + _ ≤ _; exact Nat.le_of_eq rfl) (hb hby at_54) (fun _ _ => ⟨rfl, e61, (by decide : 1 + 0 ≤ _), (by decide : 3 + 0 ≤ _)⟩)
      dsimp only [Pt.U, Pt.locs, Pt.cells, Pt.slots] at X67 l67 y67 z67 st67 hQ67
      subst l67 y67 z67
      obtain ⟨rfl, Nq67, hs67⟩ := hQ67
      have N68 := Fr.app N0 Nq67
      refine OFin.to (S' := T67.setTop (mkF m 57 #[.val (.long q0), .second, .val (.long q1), .second, .val (.long q2), .second, .val (.long q3), .second, .val (.int p4), .val (.long (q0 &&& (2305843009213693951 : Int64))), .second, .val (.long (q1 &&& (2305843009213693951 : Int64))), .second, .val (.long (q2 &&& (2305843009213693951 : Int64))), .second, .val (.long (q3 &&& (2305843009213693951 : Int64))), .second, .val (.int (1 : Int32)), .val (.int (0 : Int32)), .unset, .unset, .unset, .unset, .unset, .unset, .unset, .unset] [(.ref b61)])) st67 ?_
      refine OFin.of (S' := T67.setTop (mkF m 108 #[.val (.long q0), .second, .val (.long q1), .second, .val (.long q2), .second, .val (.long q3), .second, .val (.int p4), .val (.long (q0 &&& (2305843009213693951 : Int64))), .second, .val (.long (q1 &&& (2305843009213693951 : Int64))), .second, .val (.long (q2 &&& (2305843009213693951 : Int64))), .second, .val (.long (q3 &&& (2305843009213693951 : Int64))), .second, .val (.int (1 : Int32)), .val (.int (0 : Int32)), .val (.ref b61), .val (.int (1 : Int32)), .unset, .unset, .unset, .unset, .unset, .unset] [(.long (q0 &&& (2305843009213693951 : Int64))), (.ref b61)])) (fun t ht => ?_) ?_
      · refine XS.astore X67.here hx rfl (hb hby at_57) rfl rfl (l' := #[.val (.long q0), .second, .val (.long q1), .second, .val (.long q2), .second, .val (.long q3), .second, .val (.int p4), .val (.long (q0 &&& (2305843009213693951 : Int64))), .second, .val (.long (q1 &&& (2305843009213693951 : Int64))), .second, .val (.long (q2 &&& (2305843009213693951 : Int64))), .second, .val (.long (q3 &&& (2305843009213693951 : Int64))), .second, .val (.int (1 : Int32)), .val (.int (0 : Int32)), .val (.ref b61), .unset, .unset, .unset, .unset, .unset, .unset, .unset]) rfl ?_
        show Steps p.tables e below (T67.setTop (mkF m 59 #[.val (.long q0), .second, .val (.long q1), .second, .val (.long q2), .second, .val (.long q3), .second, .val (.int p4), .val (.long (q0 &&& (2305843009213693951 : Int64))), .second, .val (.long (q1 &&& (2305843009213693951 : Int64))), .second, .val (.long (q2 &&& (2305843009213693951 : Int64))), .second, .val (.long (q3 &&& (2305843009213693951 : Int64))), .second, .val (.int (1 : Int32)), .val (.int (0 : Int32)), .val (.ref b61), .unset, .unset, .unset, .unset, .unset, .unset, .unset] [])) _
        refine XS.iconst X67.here hx rfl (hb hby at_59) ?_
        show Steps p.tables e below (T67.setTop (mkF m 60 _ [(.int (1 : Int32))])) _
        refine XS.istore X67.here hx rfl (hb hby at_60) rfl (l' := #[.val (.long q0), .second, .val (.long q1), .second, .val (.long q2), .second, .val (.long q3), .second, .val (.int p4), .val (.long (q0 &&& (2305843009213693951 : Int64))), .second, .val (.long (q1 &&& (2305843009213693951 : Int64))), .second, .val (.long (q2 &&& (2305843009213693951 : Int64))), .second, .val (.long (q3 &&& (2305843009213693951 : Int64))), .second, .val (.int (1 : Int32)), .val (.int (0 : Int32)), .val (.ref b61), .val (.int (1 : Int32)), .unset, .unset, .unset, .unset, .unset, .unset]) rfl ?_
        show Steps p.tables e below (T67.setTop (mkF m 62 #[.val (.long q0), .second, .val (.long q1), .second, .val (.long q2), .second, .val (.long q3), .second, .val (.int p4), .val (.long (q0 &&& (2305843009213693951 : Int64))), .second, .val (.long (q1 &&& (2305843009213693951 : Int64))), .second, .val (.long (q2 &&& (2305843009213693951 : Int64))), .second, .val (.long (q3 &&& (2305843009213693951 : Int64))), .second, .val (.int (1 : Int32)), .val (.int (0 : Int32)), .val (.ref b61), .val (.int (1 : Int32)), .unset, .unset, .unset, .unset, .unset, .unset] [])) _
        refine XS.iload X67.here hx rfl (hb hby at_62) rfl ?_
        show Steps p.tables e below (T67.setTop (mkF m 64 _ [(.int (0 : Int32))])) _
        refine XS.ifYes X67.here hx rfl (pc0 := 64) (pc' := 98) rfl (hb hby at_64) rfl ((if0 _ _).trans (teq (by decide : (0 : Int32) = (0 : Int32))).1) (by decide) (by decide) ?_
        show Steps p.tables e below (T67.setTop (mkF m 98 _ [])) _
        refine XS.iload X67.here hx rfl (hb hby at_98) rfl ?_
        show Steps p.tables e below (T67.setTop (mkF m 100 _ [(.int (1 : Int32))])) _
        refine XS.iconst X67.here hx rfl (hb hby at_100) ?_
        show Steps p.tables e below (T67.setTop (mkF m 101 _ [(.int (1 : Int32)), (.int (1 : Int32))])) _
        refine XS.icmpNo X67.here hx rfl (hb hby at_101) rfl (flt (by decide : ¬ ((1 : Int32) < (1 : Int32)))).1 ?_
        show Steps p.tables e below (T67.setTop (mkF m 104 _ [])) _
        refine XS.aload X67.here hx rfl (hb hby at_104) rfl rfl ?_
        show Steps p.tables e below (T67.setTop (mkF m 106 _ [(.ref b61)])) _
        refine XS.lload X67.here hx rfl (hb hby at_106) rfl ?_
        exact ht
      obtain ⟨cq70, kq70, q70a, q70b, q70c⟩ := isOf hZ hs67 A61
      obtain ⟨_, _, ⟨T69, L69, k69, n69⟩, -, X69, ⟨Lc69, hQ69, l69, y69, z69⟩, st69⟩ := X67.virtualBack hx (y := (⟨"com/example/kindred_mesh/kindredmesh/peer/SearchTime", "served", "(J)V"⟩ : MethodName)) (z := (⟨"com/example/kindred_mesh/kindredmesh/peer/SearchTime", "served", "(J)V"⟩ : MethodName)) hown (mvT hZ (hw _ (List.mem_of_getElem? (i := 10) rfl))) (mvT hZ (hw _ (List.mem_of_getElem? (i := 11) rfl))) (notFace_of_selects (args := #[]) (mvT hZ (hw _ (List.mem_of_getElem? (i := 13) rfl)))) (mvT hZ (hw _ (List.mem_of_getElem? (i := 13) rfl))) (mvT hZ (hw _ (List.mem_of_getElem? (i := 12) rfl))) (by decide) (backOf (W := 0) (rmSv l Z _ hw [] b61 (q0 &&& (2305843009213693951 : Int64)) (0 : Int64) (0 : Int64) 0 h61 n0 Z63 A61 f64 f65 f66 g62) hZ (hw _ (List.mem_of_getElem? (i := 14) rfl)) (hw _ (List.mem_of_getElem? (i := 3) rfl)) (by decide) (by decide)) q70a q70c (g := (mkF m 108 #[.val (.long q0), .second, .val (.long q1), .second, .val (.long q2), .second, .val (.long q3), .second, .val (.int p4), .val (.long (q0 &&& (2305843009213693951 : Int64))), .second, .val (.long (q1 &&& (2305843009213693951 : Int64))), .second, .val (.long (q2 &&& (2305843009213693951 : Int64))), .second, .val (.long (q3 &&& (2305843009213693951 : Int64))), .second, .val (.int (1 : Int32)), .val (.int (0 : Int32)), .val (.ref b61), .val (.int (1 : Int32)), .unset, .unset, .unset, .unset, .unset, .unset] [(.long (q0 &&& (2305843009213693951 : Int64))), (.ref b61)])) rfl (by rw [hml]; rfl) (Steps.refl _) (argsL := [(.long (q0 &&& (2305843009213693951 : Int64)))]) (rest := []) (lenOf pd_2 rfl) rfl (by show 2 * 0 + _ ≤ _; exact Nat.le_of_eq rfl) (hb hby at_108) (fun _ _ => ⟨rfl, hs67, (by decide : 1 + 0 ≤ _), (by decide : 3 + 0 ≤ _)⟩)
      dsimp only [Pt.U, Pt.locs, Pt.cells, Pt.slots] at X69 l69 y69 z69 st69 hQ69
      subst l69 y69 z69
      obtain ⟨rfl, Nq69, Kq69, f71, f72, f73⟩ := hQ69
      have N74 := Fr.app N68 Nq69
      have f75 := (A61.keep Kq69)
      have Z76 : n0 ≤ T69.heap.size := (Nat.le_trans Z63 Kq69.1)
      refine OFin.to (S' := T69.setTop (mkF m 111 #[.val (.long q0), .second, .val (.long q1), .second, .val (.long q2), .second, .val (.long q3), .second, .val (.int p4), .val (.long (q0 &&& (2305843009213693951 : Int64))), .second, .val (.long (q1 &&& (2305843009213693951 : Int64))), .second, .val (.long (q2 &&& (2305843009213693951 : Int64))), .second, .val (.long (q3 &&& (2305843009213693951 : Int64))), .second, .val (.int (1 : Int32)), .val (.int (0 : Int32)), .val (.ref b61), .val (.int (1 : Int32)), .unset, .unset, .unset, .unset, .unset, .unset] [])) st69 ?_
      refine OFin.of (S' := T69.setTop (mkF m 139 #[.val (.long q0), .second, .val (.long q1), .second, .val (.long q2), .second, .val (.long q3), .second, .val (.int p4), .val (.long (q0 &&& (2305843009213693951 : Int64))), .second, .val (.long (q1 &&& (2305843009213693951 : Int64))), .second, .val (.long (q2 &&& (2305843009213693951 : Int64))), .second, .val (.long (q3 &&& (2305843009213693951 : Int64))), .second, .val (.int (1 : Int32)), .val (.int (0 : Int32)), .val (.ref b61), .val (.int (1 : Int32)), .unset, .unset, .unset, .unset, .unset, .unset] [(.ref b61)])) (fun t ht => ?_) ?_
      · refine XS.iload X69.here hx rfl (hb hby at_111) rfl ?_
        show Steps p.tables e below (T69.setTop (mkF m 113 _ [(.int (1 : Int32))])) _
        refine XS.iconst X69.here hx rfl (hb hby at_113) ?_
        show Steps p.tables e below (T69.setTop (mkF m 114 _ [(.int (2 : Int32)), (.int (1 : Int32))])) _
        refine XS.icmpYes X69.here hx rfl (pc0 := 114) (pc' := 124) rfl (hb hby at_114) rfl (tlt (by decide : (1 : Int32) < (2 : Int32))).1 (by decide) (by decide) ?_
        show Steps p.tables e below (T69.setTop (mkF m 124 _ [])) _
        refine XS.iload X69.here hx rfl (hb hby at_124) rfl ?_
        show Steps p.tables e below (T69.setTop (mkF m 126 _ [(.int (1 : Int32))])) _
        refine XS.iconst X69.here hx rfl (hb hby at_126) ?_
        show Steps p.tables e below (T69.setTop (mkF m 127 _ [(.int (3 : Int32)), (.int (1 : Int32))])) _
        refine XS.icmpYes X69.here hx rfl (pc0 := 127) (pc' := 137) rfl (hb hby at_127) rfl (tlt (by decide : (1 : Int32) < (3 : Int32))).1 (by decide) (by decide) ?_
        show Steps p.tables e below (T69.setTop (mkF m 137 _ [])) _
        refine XS.aload X69.here hx rfl (hb hby at_137) rfl rfl ?_
        exact ht
      obtain ⟨cq78, kq78, q78a, q78b, q78c⟩ := isOf hZ (rfl : T69.heap = T69.heap) f75
      obtain ⟨_, _, ⟨T77, L77, k77, n77⟩, -, X77, ⟨Lc77, hQ77, l77, y77, z77⟩, st77⟩ := X69.virtualBack hx (y := (⟨"com/example/kindred_mesh/kindredmesh/peer/SearchTime", "newPeriod", "()V"⟩ : MethodName)) (z := (⟨"com/example/kindred_mesh/kindredmesh/peer/SearchTime", "newPeriod", "()V"⟩ : MethodName)) hown (mvT hZ (hw _ (List.mem_of_getElem? (i := 19) rfl))) (mvT hZ (hw _ (List.mem_of_getElem? (i := 20) rfl))) (notFace_of_selects (args := #[]) (mvT hZ (hw _ (List.mem_of_getElem? (i := 22) rfl)))) (mvT hZ (hw _ (List.mem_of_getElem? (i := 22) rfl))) (mvT hZ (hw _ (List.mem_of_getElem? (i := 21) rfl))) (by decide) (backOf (W := 0) (rmNp1 l Z _ hw [] b61 (1 : Int64) ((0 : Int64) + (q0 &&& (2305843009213693951 : Int64))) 0 T69.heap n0 Z76 f75 f71 f72 f73 g62 (by decide) (own_nn _ (by decide))) hZ (hw _ (List.mem_of_getElem? (i := 23) rfl)) (hw _ (List.mem_of_getElem? (i := 3) rfl)) (by decide) (by decide)) q78a q78c (g := (mkF m 139 #[.val (.long q0), .second, .val (.long q1), .second, .val (.long q2), .second, .val (.long q3), .second, .val (.int p4), .val (.long (q0 &&& (2305843009213693951 : Int64))), .second, .val (.long (q1 &&& (2305843009213693951 : Int64))), .second, .val (.long (q2 &&& (2305843009213693951 : Int64))), .second, .val (.long (q3 &&& (2305843009213693951 : Int64))), .second, .val (.int (1 : Int32)), .val (.int (0 : Int32)), .val (.ref b61), .val (.int (1 : Int32)), .unset, .unset, .unset, .unset, .unset, .unset] [(.ref b61)])) rfl (by rw [hml]; rfl) (Steps.refl _) (argsL := []) (rest := []) (lenOf pd_0 rfl) rfl (by show 2 * 0 + _ ≤ _; exact Nat.le_of_eq rfl) (hb hby at_139) (fun _ _ => ⟨rfl, (rfl : T69.heap = T69.heap), (by decide : 1 + 0 ≤ _), (by decide : 3 + 0 ≤ _)⟩)
      dsimp only [Pt.U, Pt.locs, Pt.cells, Pt.slots] at X77 l77 y77 z77 st77 hQ77
      subst l77 y77 z77
      obtain ⟨rfl, Nq77, Kq77, f79, f80, f81⟩ := hQ77
      have N82 := Fr.app N74 Nq77
      have f83 := (f75.keep Kq77)
      have Z84 : n0 ≤ T77.heap.size := (Nat.le_trans Z76 Kq77.1)
      refine OFin.to (S' := T77.setTop (mkF m 142 #[.val (.long q0), .second, .val (.long q1), .second, .val (.long q2), .second, .val (.long q3), .second, .val (.int p4), .val (.long (q0 &&& (2305843009213693951 : Int64))), .second, .val (.long (q1 &&& (2305843009213693951 : Int64))), .second, .val (.long (q2 &&& (2305843009213693951 : Int64))), .second, .val (.long (q3 &&& (2305843009213693951 : Int64))), .second, .val (.int (1 : Int32)), .val (.int (0 : Int32)), .val (.ref b61), .val (.int (1 : Int32)), .unset, .unset, .unset, .unset, .unset, .unset] [])) st77 ?_
      refine OFin.of (S' := T77.setTop (mkF m 202 #[.val (.long q0), .second, .val (.long q1), .second, .val (.long q2), .second, .val (.long q3), .second, .val (.int p4), .val (.long (q0 &&& (2305843009213693951 : Int64))), .second, .val (.long (q1 &&& (2305843009213693951 : Int64))), .second, .val (.long (q2 &&& (2305843009213693951 : Int64))), .second, .val (.long (q3 &&& (2305843009213693951 : Int64))), .second, .val (.int (1 : Int32)), .val (.int (0 : Int32)), .val (.ref b61), .val (.int (1 : Int32)), .val (.long (((q0 &&& (2305843009213693951 : Int64)) + (0 : Int64)) + (0 : Int64))), .second, .val (.double (FP.ddiv (FP.l2d (((q0 &&& (2305843009213693951 : Int64)) + (0 : Int64)) + (0 : Int64))) (FP.i2d (1 : Int32)))), .second, .unset, .unset] [(.ref b61)])) (fun t ht => ?_) ?_
      · refine XS.iload X77.here hx rfl (hb hby at_142) rfl ?_
        show Steps p.tables e below (T77.setTop (mkF m 144 _ [(.int (1 : Int32))])) _
        refine XS.iconst X77.here hx rfl (hb hby at_144) ?_
        show Steps p.tables e below (T77.setTop (mkF m 145 _ [(.int (1 : Int32)), (.int (1 : Int32))])) _
        refine XS.icmpNo X77.here hx rfl (hb hby at_145) rfl (flt (by decide : ¬ ((1 : Int32) < (1 : Int32)))).1 ?_
        show Steps p.tables e below (T77.setTop (mkF m 148 _ [])) _
        refine XS.lload X77.here hx rfl (hb hby at_148) rfl ?_
        show Steps p.tables e below (T77.setTop (mkF m 150 _ [(.long (q0 &&& (2305843009213693951 : Int64)))])) _
        refine XS.goto X77.here hx rfl (pc0 := 150) (pc' := 154) rfl (hb hby at_150) (by decide) (by decide) ?_
        show Steps p.tables e below (T77.setTop (mkF m 154 _ [(.long (q0 &&& (2305843009213693951 : Int64)))])) _
        refine XS.iload X77.here hx rfl (hb hby at_154) rfl ?_
        show Steps p.tables e below (T77.setTop (mkF m 156 _ [(.int (1 : Int32)), (.long (q0 &&& (2305843009213693951 : Int64)))])) _
        refine XS.iconst X77.here hx rfl (hb hby at_156) ?_
        show Steps p.tables e below (T77.setTop (mkF m 157 _ [(.int (2 : Int32)), (.int (1 : Int32)), (.long (q0 &&& (2305843009213693951 : Int64)))])) _
        refine XS.icmpYes X77.here hx rfl (pc0 := 157) (pc' := 165) rfl (hb hby at_157) rfl (tlt (by decide : (1 : Int32) < (2 : Int32))).1 (by decide) (by decide) ?_
        show Steps p.tables e below (T77.setTop (mkF m 165 _ [(.long (q0 &&& (2305843009213693951 : Int64)))])) _
        refine XS.lconst X77.here hx rfl (hb hby at_165) ?_
        show Steps p.tables e below (T77.setTop (mkF m 166 _ [(.long (0 : Int64)), (.long (q0 &&& (2305843009213693951 : Int64)))])) _
        refine XS.ladd X77.here hx rfl (hb hby at_166) rfl ?_
        show Steps p.tables e below (T77.setTop (mkF m 167 _ [(.long ((q0 &&& (2305843009213693951 : Int64)) + (0 : Int64)))])) _
        refine XS.iload X77.here hx rfl (hb hby at_167) rfl ?_
        show Steps p.tables e below (T77.setTop (mkF m 169 _ [(.int (1 : Int32)), (.long ((q0 &&& (2305843009213693951 : Int64)) + (0 : Int64)))])) _
        refine XS.iconst X77.here hx rfl (hb hby at_169) ?_
        show Steps p.tables e below (T77.setTop (mkF m 170 _ [(.int (3 : Int32)), (.int (1 : Int32)), (.long ((q0 &&& (2305843009213693951 : Int64)) + (0 : Int64)))])) _
        refine XS.icmpYes X77.here hx rfl (pc0 := 170) (pc' := 178) rfl (hb hby at_170) rfl (tlt (by decide : (1 : Int32) < (3 : Int32))).1 (by decide) (by decide) ?_
        show Steps p.tables e below (T77.setTop (mkF m 178 _ [(.long ((q0 &&& (2305843009213693951 : Int64)) + (0 : Int64)))])) _
        refine XS.lconst X77.here hx rfl (hb hby at_178) ?_
        show Steps p.tables e below (T77.setTop (mkF m 179 _ [(.long (0 : Int64)), (.long ((q0 &&& (2305843009213693951 : Int64)) + (0 : Int64)))])) _
        refine XS.ladd X77.here hx rfl (hb hby at_179) rfl ?_
        show Steps p.tables e below (T77.setTop (mkF m 180 _ [(.long (((q0 &&& (2305843009213693951 : Int64)) + (0 : Int64)) + (0 : Int64)))])) _
        refine XS.lstore X77.here hx rfl (hb hby at_180) rfl (l' := #[.val (.long q0), .second, .val (.long q1), .second, .val (.long q2), .second, .val (.long q3), .second, .val (.int p4), .val (.long (q0 &&& (2305843009213693951 : Int64))), .second, .val (.long (q1 &&& (2305843009213693951 : Int64))), .second, .val (.long (q2 &&& (2305843009213693951 : Int64))), .second, .val (.long (q3 &&& (2305843009213693951 : Int64))), .second, .val (.int (1 : Int32)), .val (.int (0 : Int32)), .val (.ref b61), .val (.int (1 : Int32)), .val (.long (((q0 &&& (2305843009213693951 : Int64)) + (0 : Int64)) + (0 : Int64))), .second, .unset, .unset, .unset, .unset]) rfl ?_
        show Steps p.tables e below (T77.setTop (mkF m 182 #[.val (.long q0), .second, .val (.long q1), .second, .val (.long q2), .second, .val (.long q3), .second, .val (.int p4), .val (.long (q0 &&& (2305843009213693951 : Int64))), .second, .val (.long (q1 &&& (2305843009213693951 : Int64))), .second, .val (.long (q2 &&& (2305843009213693951 : Int64))), .second, .val (.long (q3 &&& (2305843009213693951 : Int64))), .second, .val (.int (1 : Int32)), .val (.int (0 : Int32)), .val (.ref b61), .val (.int (1 : Int32)), .val (.long (((q0 &&& (2305843009213693951 : Int64)) + (0 : Int64)) + (0 : Int64))), .second, .unset, .unset, .unset, .unset] [])) _
        refine XS.iload X77.here hx rfl (hb hby at_182) rfl ?_
        show Steps p.tables e below (T77.setTop (mkF m 184 _ [(.int (1 : Int32))])) _
        refine XS.ifYes X77.here hx rfl (pc0 := 184) (pc' := 191) rfl (hb hby at_184) rfl ((if0 _ _).trans (feq (by decide : ¬ ((1 : Int32) = (0 : Int32)))).2) (by decide) (by decide) ?_
        show Steps p.tables e below (T77.setTop (mkF m 191 _ [])) _
        refine XS.lload X77.here hx rfl (hb hby at_191) rfl ?_
        show Steps p.tables e below (T77.setTop (mkF m 193 _ [(.long (((q0 &&& (2305843009213693951 : Int64)) + (0 : Int64)) + (0 : Int64)))])) _
        refine XS.l2dS X77.here hx rfl (hb hby at_193) rfl rfl ?_
        show Steps p.tables e below (T77.setTop (mkF m 194 _ [(.double (FP.l2d (((q0 &&& (2305843009213693951 : Int64)) + (0 : Int64)) + (0 : Int64))))])) _
        refine XS.iload X77.here hx rfl (hb hby at_194) rfl ?_
        show Steps p.tables e below (T77.setTop (mkF m 196 _ [(.int (1 : Int32)), (.double (FP.l2d (((q0 &&& (2305843009213693951 : Int64)) + (0 : Int64)) + (0 : Int64))))])) _
        refine XS.i2dS X77.here hx rfl (hb hby at_196) rfl rfl ?_
        show Steps p.tables e below (T77.setTop (mkF m 197 _ [(.double (FP.i2d (1 : Int32))), (.double (FP.l2d (((q0 &&& (2305843009213693951 : Int64)) + (0 : Int64)) + (0 : Int64))))])) _
        refine XS.ddivS X77.here hx rfl (hb hby at_197) rfl (own_nni _ (by decide)) rfl ?_
        show Steps p.tables e below (T77.setTop (mkF m 198 _ [(.double (FP.ddiv (FP.l2d (((q0 &&& (2305843009213693951 : Int64)) + (0 : Int64)) + (0 : Int64))) (FP.i2d (1 : Int32))))])) _
        refine XS.dstore X77.here hx rfl (hb hby at_198) rfl (l' := #[.val (.long q0), .second, .val (.long q1), .second, .val (.long q2), .second, .val (.long q3), .second, .val (.int p4), .val (.long (q0 &&& (2305843009213693951 : Int64))), .second, .val (.long (q1 &&& (2305843009213693951 : Int64))), .second, .val (.long (q2 &&& (2305843009213693951 : Int64))), .second, .val (.long (q3 &&& (2305843009213693951 : Int64))), .second, .val (.int (1 : Int32)), .val (.int (0 : Int32)), .val (.ref b61), .val (.int (1 : Int32)), .val (.long (((q0 &&& (2305843009213693951 : Int64)) + (0 : Int64)) + (0 : Int64))), .second, .val (.double (FP.ddiv (FP.l2d (((q0 &&& (2305843009213693951 : Int64)) + (0 : Int64)) + (0 : Int64))) (FP.i2d (1 : Int32)))), .second, .unset, .unset]) rfl ?_
        show Steps p.tables e below (T77.setTop (mkF m 200 #[.val (.long q0), .second, .val (.long q1), .second, .val (.long q2), .second, .val (.long q3), .second, .val (.int p4), .val (.long (q0 &&& (2305843009213693951 : Int64))), .second, .val (.long (q1 &&& (2305843009213693951 : Int64))), .second, .val (.long (q2 &&& (2305843009213693951 : Int64))), .second, .val (.long (q3 &&& (2305843009213693951 : Int64))), .second, .val (.int (1 : Int32)), .val (.int (0 : Int32)), .val (.ref b61), .val (.int (1 : Int32)), .val (.long (((q0 &&& (2305843009213693951 : Int64)) + (0 : Int64)) + (0 : Int64))), .second, .val (.double (FP.ddiv (FP.l2d (((q0 &&& (2305843009213693951 : Int64)) + (0 : Int64)) + (0 : Int64))) (FP.i2d (1 : Int32)))), .second, .unset, .unset] [])) _
        refine XS.aload X77.here hx rfl (hb hby at_200) rfl rfl ?_
        exact ht
      obtain ⟨cq86, kq86, q86a, q86b, q86c⟩ := isOf hZ (rfl : T77.heap = T77.heap) f83
      obtain ⟨_, _, ⟨T85, L85, k85, n85⟩, -, X85, ⟨Lc85, hQ85, l85, y85, z85⟩, st85⟩ := X77.virtualBack hx (y := (⟨"com/example/kindred_mesh/kindredmesh/peer/SearchTime", "lastMean", "()D"⟩ : MethodName)) (z := (⟨"com/example/kindred_mesh/kindredmesh/peer/SearchTime", "lastMean", "()D"⟩ : MethodName)) hown (mvT hZ (hw _ (List.mem_of_getElem? (i := 26) rfl))) (mvT hZ (hw _ (List.mem_of_getElem? (i := 27) rfl))) (notFace_of_selects (args := #[]) (mvT hZ (hw _ (List.mem_of_getElem? (i := 29) rfl)))) (mvT hZ (hw _ (List.mem_of_getElem? (i := 29) rfl))) (mvT hZ (hw _ (List.mem_of_getElem? (i := 28) rfl))) (by decide) (backOf (W := 0) (rmLm l Z _ hw [] b61 (FP.ddiv (FP.l2d ((0 : Int64) + (q0 &&& (2305843009213693951 : Int64)))) (FP.l2d (1 : Int64))) T77.heap n0 Z84 f81) hZ (hw _ (List.mem_of_getElem? (i := 30) rfl)) (hw _ (List.mem_of_getElem? (i := 3) rfl)) (by decide) (by decide)) q86a q86c (g := (mkF m 202 #[.val (.long q0), .second, .val (.long q1), .second, .val (.long q2), .second, .val (.long q3), .second, .val (.int p4), .val (.long (q0 &&& (2305843009213693951 : Int64))), .second, .val (.long (q1 &&& (2305843009213693951 : Int64))), .second, .val (.long (q2 &&& (2305843009213693951 : Int64))), .second, .val (.long (q3 &&& (2305843009213693951 : Int64))), .second, .val (.int (1 : Int32)), .val (.int (0 : Int32)), .val (.ref b61), .val (.int (1 : Int32)), .val (.long (((q0 &&& (2305843009213693951 : Int64)) + (0 : Int64)) + (0 : Int64))), .second, .val (.double (FP.ddiv (FP.l2d (((q0 &&& (2305843009213693951 : Int64)) + (0 : Int64)) + (0 : Int64))) (FP.i2d (1 : Int32)))), .second, .unset, .unset] [(.ref b61)])) rfl (by rw [hml]; rfl) (Steps.refl _) (argsL := []) (rest := []) (lenOf pd_1 rfl) rfl (by show 2 * 0 + _ ≤ _; exact Nat.le_of_eq rfl) (hb hby at_202) (fun _ _ => ⟨rfl, (rfl : T77.heap = T77.heap), (by decide : 1 + 0 ≤ _), (by decide : 3 + 0 ≤ _)⟩)
      dsimp only [Pt.U, Pt.locs, Pt.cells, Pt.slots] at X85 l85 y85 z85 st85 hQ85
      subst l85 y85 z85
      obtain ⟨rfl, Nq85, hs85⟩ := hQ85
      have N87 := Fr.app N82 Nq85
      refine OFin.to (S' := T85.setTop (mkF m 205 #[.val (.long q0), .second, .val (.long q1), .second, .val (.long q2), .second, .val (.long q3), .second, .val (.int p4), .val (.long (q0 &&& (2305843009213693951 : Int64))), .second, .val (.long (q1 &&& (2305843009213693951 : Int64))), .second, .val (.long (q2 &&& (2305843009213693951 : Int64))), .second, .val (.long (q3 &&& (2305843009213693951 : Int64))), .second, .val (.int (1 : Int32)), .val (.int (0 : Int32)), .val (.ref b61), .val (.int (1 : Int32)), .val (.long (((q0 &&& (2305843009213693951 : Int64)) + (0 : Int64)) + (0 : Int64))), .second, .val (.double (FP.ddiv (FP.l2d (((q0 &&& (2305843009213693951 : Int64)) + (0 : Int64)) + (0 : Int64))) (FP.i2d (1 : Int32)))), .second, .unset, .unset] [(.double (FP.ddiv (FP.l2d ((0 : Int64) + (q0 &&& (2305843009213693951 : Int64)))) (FP.l2d (1 : Int64))))])) st85 ?_
      refine OFin.of (S' := T85.setTop (mkF m 232 #[.val (.long q0), .second, .val (.long q1), .second, .val (.long q2), .second, .val (.long q3), .second, .val (.int p4), .val (.long (q0 &&& (2305843009213693951 : Int64))), .second, .val (.long (q1 &&& (2305843009213693951 : Int64))), .second, .val (.long (q2 &&& (2305843009213693951 : Int64))), .second, .val (.long (q3 &&& (2305843009213693951 : Int64))), .second, .val (.int (1 : Int32)), .val (.int (0 : Int32)), .val (.ref b61), .val (.int (1 : Int32)), .val (.long (((q0 &&& (2305843009213693951 : Int64)) + (0 : Int64)) + (0 : Int64))), .second, .val (.double (FP.ddiv (FP.l2d (((q0 &&& (2305843009213693951 : Int64)) + (0 : Int64)) + (0 : Int64))) (FP.i2d (1 : Int32)))), .second, .val (.double (FP.ddiv (FP.l2d ((0 : Int64) + (q0 &&& (2305843009213693951 : Int64)))) (FP.l2d (1 : Int64)))), .second] [(.int (1 : Int32))])) (fun t ht => ?_) ?_
      · refine XS.dstore X85.here hx rfl (hb hby at_205) rfl (l' := #[.val (.long q0), .second, .val (.long q1), .second, .val (.long q2), .second, .val (.long q3), .second, .val (.int p4), .val (.long (q0 &&& (2305843009213693951 : Int64))), .second, .val (.long (q1 &&& (2305843009213693951 : Int64))), .second, .val (.long (q2 &&& (2305843009213693951 : Int64))), .second, .val (.long (q3 &&& (2305843009213693951 : Int64))), .second, .val (.int (1 : Int32)), .val (.int (0 : Int32)), .val (.ref b61), .val (.int (1 : Int32)), .val (.long (((q0 &&& (2305843009213693951 : Int64)) + (0 : Int64)) + (0 : Int64))), .second, .val (.double (FP.ddiv (FP.l2d (((q0 &&& (2305843009213693951 : Int64)) + (0 : Int64)) + (0 : Int64))) (FP.i2d (1 : Int32)))), .second, .val (.double (FP.ddiv (FP.l2d ((0 : Int64) + (q0 &&& (2305843009213693951 : Int64)))) (FP.l2d (1 : Int64)))), .second]) rfl ?_
        show Steps p.tables e below (T85.setTop (mkF m 207 #[.val (.long q0), .second, .val (.long q1), .second, .val (.long q2), .second, .val (.long q3), .second, .val (.int p4), .val (.long (q0 &&& (2305843009213693951 : Int64))), .second, .val (.long (q1 &&& (2305843009213693951 : Int64))), .second, .val (.long (q2 &&& (2305843009213693951 : Int64))), .second, .val (.long (q3 &&& (2305843009213693951 : Int64))), .second, .val (.int (1 : Int32)), .val (.int (0 : Int32)), .val (.ref b61), .val (.int (1 : Int32)), .val (.long (((q0 &&& (2305843009213693951 : Int64)) + (0 : Int64)) + (0 : Int64))), .second, .val (.double (FP.ddiv (FP.l2d (((q0 &&& (2305843009213693951 : Int64)) + (0 : Int64)) + (0 : Int64))) (FP.i2d (1 : Int32)))), .second, .val (.double (FP.ddiv (FP.l2d ((0 : Int64) + (q0 &&& (2305843009213693951 : Int64)))) (FP.l2d (1 : Int64)))), .second] [])) _
        refine XS.iload X85.here hx rfl (hb hby at_207) rfl ?_
        show Steps p.tables e below (T85.setTop (mkF m 209 _ [(.int (1 : Int32))])) _
        refine XS.ifNo X85.here hx rfl (hb hby at_209) rfl ((if0 _ _).trans (feq (by decide : ¬ ((1 : Int32) = (0 : Int32)))).1) ?_
        show Steps p.tables e below (T85.setTop (mkF m 212 _ [])) _
        refine XS.dload X85.here hx rfl (hb hby at_212) rfl ?_
        show Steps p.tables e below (T85.setTop (mkF m 214 _ [(.double (FP.ddiv (FP.l2d ((0 : Int64) + (q0 &&& (2305843009213693951 : Int64)))) (FP.l2d (1 : Int64))))])) _
        refine XS.dload X85.here hx rfl (hb hby at_214) rfl ?_
        show Steps p.tables e below (T85.setTop (mkF m 216 _ [(.double (FP.ddiv (FP.l2d (((q0 &&& (2305843009213693951 : Int64)) + (0 : Int64)) + (0 : Int64))) (FP.i2d (1 : Int32)))), (.double (FP.ddiv (FP.l2d ((0 : Int64) + (q0 &&& (2305843009213693951 : Int64)))) (FP.l2d (1 : Int64))))])) _
        refine XS.dcmpS X85.here hx rfl (hb hby at_216) rfl rfl ?_
        show Steps p.tables e below (T85.setTop (mkF m 217 _ [(.int (cmpValue (FP.dcmp (FP.ddiv (FP.l2d ((0 : Int64) + (q0 &&& (2305843009213693951 : Int64)))) (FP.l2d (1 : Int64))) (FP.ddiv (FP.l2d (((q0 &&& (2305843009213693951 : Int64)) + (0 : Int64)) + (0 : Int64))) (FP.i2d (1 : Int32)))) .l))])) _
        refine XS.ifNo X85.here hx rfl (hb hby at_217) rfl ((if0 _ _).trans (teq (dcmpV_eq (own_e1 _) (own_nn _ (by decide)) .l : (cmpValue (FP.dcmp (FP.ddiv (FP.l2d ((0 : Int64) + (q0 &&& (2305843009213693951 : Int64)))) (FP.l2d (1 : Int64))) (FP.ddiv (FP.l2d (((q0 &&& (2305843009213693951 : Int64)) + (0 : Int64)) + (0 : Int64))) (FP.i2d (1 : Int32)))) .l) = (0 : Int32))).2) ?_
        show Steps p.tables e below (T85.setTop (mkF m 220 _ [])) _
        refine XS.dload X85.here hx rfl (hb hby at_220) rfl ?_
        show Steps p.tables e below (T85.setTop (mkF m 222 _ [(.double (FP.ddiv (FP.l2d ((0 : Int64) + (q0 &&& (2305843009213693951 : Int64)))) (FP.l2d (1 : Int64))))])) _
        refine XS.dconst0 X85.here hx rfl (hb hby at_222) rfl ?_
        show Steps p.tables e below (T85.setTop (mkF m 223 _ [(.double FP.dconst0), (.double (FP.ddiv (FP.l2d ((0 : Int64) + (q0 &&& (2305843009213693951 : Int64)))) (FP.l2d (1 : Int64))))])) _
        refine XS.dcmpS X85.here hx rfl (hb hby at_223) rfl rfl ?_
        show Steps p.tables e below (T85.setTop (mkF m 224 _ [(.int (cmpValue (FP.dcmp (FP.ddiv (FP.l2d ((0 : Int64) + (q0 &&& (2305843009213693951 : Int64)))) (FP.l2d (1 : Int64))) FP.dconst0) .l))])) _
        refine XS.ifNo X85.here hx rfl (hb hby at_224) rfl ((if0 _ _).trans (flt (own_ge0 (own_p1 _) (by decide) : ¬ ((cmpValue (FP.dcmp (FP.ddiv (FP.l2d ((0 : Int64) + (q0 &&& (2305843009213693951 : Int64)))) (FP.l2d (1 : Int64))) FP.dconst0) .l) < (0 : Int32)))).1) ?_
        show Steps p.tables e below (T85.setTop (mkF m 227 _ [])) _
        refine XS.iconst X85.here hx rfl (hb hby at_227) ?_
        show Steps p.tables e below (T85.setTop (mkF m 228 _ [(.int (1 : Int32))])) _
        refine XS.goto X85.here hx rfl (pc0 := 228) (pc' := 232) rfl (hb hby at_228) (by decide) (by decide) ?_
        exact ht
      exact OFin.retB X85 hx hlk (t := .boolean) (by simp) hret (hb hby at_232) (by decide) (by decide) (by rw [hs85]; exact ⟨rfl, N87⟩)
    · refine OFin.of (S' := s₁.setTop (mkF m 50 #[.val (.long q0), .second, .val (.long q1), .second, .val (.long q2), .second, .val (.long q3), .second, .val (.int p4), .val (.long (q0 &&& (2305843009213693951 : Int64))), .second, .val (.long (q1 &&& (2305843009213693951 : Int64))), .second, .val (.long (q2 &&& (2305843009213693951 : Int64))), .second, .val (.long (q3 &&& (2305843009213693951 : Int64))), .second, .val (.int (1 : Int32)), .val (.int (1 : Int32)), .unset, .unset, .unset, .unset, .unset, .unset, .unset, .unset] [])) (fun t ht => ?_) ?_
      · refine XS.ifNo X0.here hx rfl (hb hby at_40) rfl ((if0 _ _).trans (feq (hc60 : ¬ ((p4 &&& (4 : Int32)) = (0 : Int32)))).1) ?_
        show Steps p.tables e below (s₁.setTop (mkF m 43 _ [])) _
        refine XS.iconst X0.here hx rfl (hb hby at_43) ?_
        show Steps p.tables e below (s₁.setTop (mkF m 44 _ [(.int (1 : Int32))])) _
        refine XS.goto X0.here hx rfl (pc0 := 44) (pc' := 48) rfl (hb hby at_44) (by decide) (by decide) ?_
        show Steps p.tables e below (s₁.setTop (mkF m 48 _ [(.int (1 : Int32))])) _
        refine XS.istore X0.here hx rfl (hb hby at_48) rfl (l' := #[.val (.long q0), .second, .val (.long q1), .second, .val (.long q2), .second, .val (.long q3), .second, .val (.int p4), .val (.long (q0 &&& (2305843009213693951 : Int64))), .second, .val (.long (q1 &&& (2305843009213693951 : Int64))), .second, .val (.long (q2 &&& (2305843009213693951 : Int64))), .second, .val (.long (q3 &&& (2305843009213693951 : Int64))), .second, .val (.int (1 : Int32)), .val (.int (1 : Int32)), .unset, .unset, .unset, .unset, .unset, .unset, .unset, .unset]) rfl ?_
        exact ht
      obtain ⟨T88, h88, X88, e88, E88, A88, D88, -, st88⟩ := newO X0 hx hZ hown (hw _ (List.mem_of_getElem? (i := 1) rfl)) (hw _ (List.mem_of_getElem? (i := 2) rfl)) (hw _ (List.mem_of_getElem? (i := 3) rfl)) e0 (g := (mkF m 50 #[.val (.long q0), .second, .val (.long q1), .second, .val (.long q2), .second, .val (.long q3), .second, .val (.int p4), .val (.long (q0 &&& (2305843009213693951 : Int64))), .second, .val (.long (q1 &&& (2305843009213693951 : Int64))), .second, .val (.long (q2 &&& (2305843009213693951 : Int64))), .second, .val (.long (q3 &&& (2305843009213693951 : Int64))), .second, .val (.int (1 : Int32)), .val (.int (1 : Int32)), .unset, .unset, .unset, .unset, .unset, .unset, .unset, .unset] [])) rfl (hb hby at_50) (by decide) (by decide)
      obtain ⟨b88, gq88⟩ : ∃ z, z = h0.size := ⟨_, rfl⟩
      rw [← gq88] at A88 D88 st88
      have g89 : n0 ≤ b88 := (Nat.le_trans Z0 (Nat.le_of_eq gq88.symm))
      have Z90 : n0 ≤ h88.size := (Nat.le_trans Z0 E88.1)
      have f91 : Fld Z h88 b88 "com/example/kindred_mesh/kindredmesh/peer/SearchTime" "served" "J" (.long (0 : Int64)) := D88 (Or.inl (hw _ (List.mem_of_getElem? (i := 16) rfl))) (ty := .long) (by decide)
      have f92 : Fld Z h88 b88 "com/example/kindred_mesh/kindredmesh/peer/SearchTime" "total" "J" (.long (0 : Int64)) := D88 (Or.inl (hw _ (List.mem_of_getElem? (i := 18) rfl))) (ty := .long) (by decide)
      have f93 : Fld Z h88 b88 "com/example/kindred_mesh/kindredmesh/peer/SearchTime" "lastMean" "D" (.double 0) := D88 (Or.inl (hw _ (List.mem_of_getElem? (i := 25) rfl))) (ty := .double) (by decide)
      refine OFin.of (S' := T88.setTop (mkF m 53 #[.val (.long q0), .second, .val (.long q1), .second, .val (.long q2), .second, .val (.long q3), .second, .val (.int p4), .val (.long (q0 &&& (2305843009213693951 : Int64))), .second, .val (.long (q1 &&& (2305843009213693951 : Int64))), .second, .val (.long (q2 &&& (2305843009213693951 : Int64))), .second, .val (.long (q3 &&& (2305843009213693951 : Int64))), .second, .val (.int (1 : Int32)), .val (.int (1 : Int32)), .unset, .unset, .unset, .unset, .unset, .unset, .unset, .unset] [(.ref b88)])) (fun t ht => st88 t ht) ?_
      refine OFin.of (S' := T88.setTop (mkF m 54 #[.val (.long q0), .second, .val (.long q1), .second, .val (.long q2), .second, .val (.long q3), .second, .val (.int p4), .val (.long (q0 &&& (2305843009213693951 : Int64))), .second, .val (.long (q1 &&& (2305843009213693951 : Int64))), .second, .val (.long (q2 &&& (2305843009213693951 : Int64))), .second, .val (.long (q3 &&& (2305843009213693951 : Int64))), .second, .val (.int (1 : Int32)), .val (.int (1 : Int32)), .unset, .unset, .unset, .unset, .unset, .unset, .unset, .unset] [(.ref b88), (.ref b88)])) (fun t ht => ?_) ?_
      · refine XS.dup X88.here hx rfl (hb hby at_53) rfl rfl ?_
        exact ht
      obtain ⟨_, _, ⟨T94, L94, k94, n94⟩, -, X94, ⟨Lc94, hQ94, l94, y94, z94⟩, st94⟩ := X88.specialBack hx (y := (⟨"com/example/kindred_mesh/kindredmesh/peer/SearchTime", "<init>", "()V"⟩ : MethodName)) rfl hown (mvT hZ (hw _ (List.mem_of_getElem? (i := 4) rfl))) (mvT hZ (hw _ (List.mem_of_getElem? (i := 5) rfl))) (mvT hZ (hw _ (List.mem_of_getElem? (i := 6) rfl))) (by decide) (backOf (W := 1) (rmIni l Z _ hw [] b88 h88 n0 Z90 ) hZ (hw _ (List.mem_of_getElem? (i := 6) rfl)) (hw _ (List.mem_of_getElem? (i := 3) rfl)) (by decide) (by decide)) (g := (mkF m 54 #[.val (.long q0), .second, .val (.long q1), .second, .val (.long q2), .second, .val (.long q3), .second, .val (.int p4), .val (.long (q0 &&& (2305843009213693951 : Int64))), .second, .val (.long (q1 &&& (2305843009213693951 : Int64))), .second, .val (.long (q2 &&& (2305843009213693951 : Int64))), .second, .val (.long (q3 &&& (2305843009213693951 : Int64))), .second, .val (.int (1 : Int32)), .val (.int (1 : Int32)), .unset, .unset, .unset, .unset, .unset, .unset, .unset, .unset] [(.ref b88), (.ref b88)])) rfl (by rw [hml]; rfl) (Steps.refl _) (a := b88) (argsL := []) (rest := [(.ref b88)]) (lenOf pd_0 rfl) rfl (by show 2 * 0 + _ ≤ _; exact Nat.le_of_eq rfl) (hb hby at_54) (fun _ _ => ⟨rfl, e88, (by decide : 1 + 0 ≤ _), (by decide : 3 + 0 ≤ _)⟩)
      dsimp only [Pt.U, Pt.locs, Pt.cells, Pt.slots] at X94 l94 y94 z94 st94 hQ94
      subst l94 y94 z94
      obtain ⟨rfl, Nq94, hs94⟩ := hQ94
      have N95 := Fr.app N0 Nq94
      refine OFin.to (S' := T94.setTop (mkF m 57 #[.val (.long q0), .second, .val (.long q1), .second, .val (.long q2), .second, .val (.long q3), .second, .val (.int p4), .val (.long (q0 &&& (2305843009213693951 : Int64))), .second, .val (.long (q1 &&& (2305843009213693951 : Int64))), .second, .val (.long (q2 &&& (2305843009213693951 : Int64))), .second, .val (.long (q3 &&& (2305843009213693951 : Int64))), .second, .val (.int (1 : Int32)), .val (.int (1 : Int32)), .unset, .unset, .unset, .unset, .unset, .unset, .unset, .unset] [(.ref b88)])) st94 ?_
      refine OFin.of (S' := T94.setTop (mkF m 71 #[.val (.long q0), .second, .val (.long q1), .second, .val (.long q2), .second, .val (.long q3), .second, .val (.int p4), .val (.long (q0 &&& (2305843009213693951 : Int64))), .second, .val (.long (q1 &&& (2305843009213693951 : Int64))), .second, .val (.long (q2 &&& (2305843009213693951 : Int64))), .second, .val (.long (q3 &&& (2305843009213693951 : Int64))), .second, .val (.int (1 : Int32)), .val (.int (1 : Int32)), .val (.ref b88), .val (.int (1 : Int32)), .unset, .unset, .unset, .unset, .unset, .unset] [(.long (q3 &&& (2305843009213693951 : Int64))), (.ref b88)])) (fun t ht => ?_) ?_
      · refine XS.astore X94.here hx rfl (hb hby at_57) rfl rfl (l' := #[.val (.long q0), .second, .val (.long q1), .second, .val (.long q2), .second, .val (.long q3), .second, .val (.int p4), .val (.long (q0 &&& (2305843009213693951 : Int64))), .second, .val (.long (q1 &&& (2305843009213693951 : Int64))), .second, .val (.long (q2 &&& (2305843009213693951 : Int64))), .second, .val (.long (q3 &&& (2305843009213693951 : Int64))), .second, .val (.int (1 : Int32)), .val (.int (1 : Int32)), .val (.ref b88), .unset, .unset, .unset, .unset, .unset, .unset, .unset]) rfl ?_
        show Steps p.tables e below (T94.setTop (mkF m 59 #[.val (.long q0), .second, .val (.long q1), .second, .val (.long q2), .second, .val (.long q3), .second, .val (.int p4), .val (.long (q0 &&& (2305843009213693951 : Int64))), .second, .val (.long (q1 &&& (2305843009213693951 : Int64))), .second, .val (.long (q2 &&& (2305843009213693951 : Int64))), .second, .val (.long (q3 &&& (2305843009213693951 : Int64))), .second, .val (.int (1 : Int32)), .val (.int (1 : Int32)), .val (.ref b88), .unset, .unset, .unset, .unset, .unset, .unset, .unset] [])) _
        refine XS.iconst X94.here hx rfl (hb hby at_59) ?_
        show Steps p.tables e below (T94.setTop (mkF m 60 _ [(.int (1 : Int32))])) _
        refine XS.istore X94.here hx rfl (hb hby at_60) rfl (l' := #[.val (.long q0), .second, .val (.long q1), .second, .val (.long q2), .second, .val (.long q3), .second, .val (.int p4), .val (.long (q0 &&& (2305843009213693951 : Int64))), .second, .val (.long (q1 &&& (2305843009213693951 : Int64))), .second, .val (.long (q2 &&& (2305843009213693951 : Int64))), .second, .val (.long (q3 &&& (2305843009213693951 : Int64))), .second, .val (.int (1 : Int32)), .val (.int (1 : Int32)), .val (.ref b88), .val (.int (1 : Int32)), .unset, .unset, .unset, .unset, .unset, .unset]) rfl ?_
        show Steps p.tables e below (T94.setTop (mkF m 62 #[.val (.long q0), .second, .val (.long q1), .second, .val (.long q2), .second, .val (.long q3), .second, .val (.int p4), .val (.long (q0 &&& (2305843009213693951 : Int64))), .second, .val (.long (q1 &&& (2305843009213693951 : Int64))), .second, .val (.long (q2 &&& (2305843009213693951 : Int64))), .second, .val (.long (q3 &&& (2305843009213693951 : Int64))), .second, .val (.int (1 : Int32)), .val (.int (1 : Int32)), .val (.ref b88), .val (.int (1 : Int32)), .unset, .unset, .unset, .unset, .unset, .unset] [])) _
        refine XS.iload X94.here hx rfl (hb hby at_62) rfl ?_
        show Steps p.tables e below (T94.setTop (mkF m 64 _ [(.int (1 : Int32))])) _
        refine XS.ifNo X94.here hx rfl (hb hby at_64) rfl ((if0 _ _).trans (feq (by decide : ¬ ((1 : Int32) = (0 : Int32)))).1) ?_
        show Steps p.tables e below (T94.setTop (mkF m 67 _ [])) _
        refine XS.aload X94.here hx rfl (hb hby at_67) rfl rfl ?_
        show Steps p.tables e below (T94.setTop (mkF m 69 _ [(.ref b88)])) _
        refine XS.lload X94.here hx rfl (hb hby at_69) rfl ?_
        exact ht
      obtain ⟨cq97, kq97, q97a, q97b, q97c⟩ := isOf hZ hs94 A88
      obtain ⟨_, _, ⟨T96, L96, k96, n96⟩, -, X96, ⟨Lc96, hQ96, l96, y96, z96⟩, st96⟩ := X94.virtualBack hx (y := (⟨"com/example/kindred_mesh/kindredmesh/peer/SearchTime", "served", "(J)V"⟩ : MethodName)) (z := (⟨"com/example/kindred_mesh/kindredmesh/peer/SearchTime", "served", "(J)V"⟩ : MethodName)) hown (mvT hZ (hw _ (List.mem_of_getElem? (i := 10) rfl))) (mvT hZ (hw _ (List.mem_of_getElem? (i := 11) rfl))) (notFace_of_selects (args := #[]) (mvT hZ (hw _ (List.mem_of_getElem? (i := 13) rfl)))) (mvT hZ (hw _ (List.mem_of_getElem? (i := 13) rfl))) (mvT hZ (hw _ (List.mem_of_getElem? (i := 12) rfl))) (by decide) (backOf (W := 0) (rmSv l Z _ hw [] b88 (q3 &&& (2305843009213693951 : Int64)) (0 : Int64) (0 : Int64) 0 h88 n0 Z90 A88 f91 f92 f93 g89) hZ (hw _ (List.mem_of_getElem? (i := 14) rfl)) (hw _ (List.mem_of_getElem? (i := 3) rfl)) (by decide) (by decide)) q97a q97c (g := (mkF m 71 #[.val (.long q0), .second, .val (.long q1), .second, .val (.long q2), .second, .val (.long q3), .second, .val (.int p4), .val (.long (q0 &&& (2305843009213693951 : Int64))), .second, .val (.long (q1 &&& (2305843009213693951 : Int64))), .second, .val (.long (q2 &&& (2305843009213693951 : Int64))), .second, .val (.long (q3 &&& (2305843009213693951 : Int64))), .second, .val (.int (1 : Int32)), .val (.int (1 : Int32)), .val (.ref b88), .val (.int (1 : Int32)), .unset, .unset, .unset, .unset, .unset, .unset] [(.long (q3 &&& (2305843009213693951 : Int64))), (.ref b88)])) rfl (by rw [hml]; rfl) (Steps.refl _) (argsL := [(.long (q3 &&& (2305843009213693951 : Int64)))]) (rest := []) (lenOf pd_2 rfl) rfl (by show 2 * 0 + _ ≤ _; exact Nat.le_of_eq rfl) (hb hby at_71) (fun _ _ => ⟨rfl, hs94, (by decide : 1 + 0 ≤ _), (by decide : 3 + 0 ≤ _)⟩)
      dsimp only [Pt.U, Pt.locs, Pt.cells, Pt.slots] at X96 l96 y96 z96 st96 hQ96
      subst l96 y96 z96
      obtain ⟨rfl, Nq96, Kq96, f98, f99, f100⟩ := hQ96
      have N101 := Fr.app N95 Nq96
      have f102 := (A88.keep Kq96)
      have Z103 : n0 ≤ T96.heap.size := (Nat.le_trans Z90 Kq96.1)
      refine OFin.to (S' := T96.setTop (mkF m 74 #[.val (.long q0), .second, .val (.long q1), .second, .val (.long q2), .second, .val (.long q3), .second, .val (.int p4), .val (.long (q0 &&& (2305843009213693951 : Int64))), .second, .val (.long (q1 &&& (2305843009213693951 : Int64))), .second, .val (.long (q2 &&& (2305843009213693951 : Int64))), .second, .val (.long (q3 &&& (2305843009213693951 : Int64))), .second, .val (.int (1 : Int32)), .val (.int (1 : Int32)), .val (.ref b88), .val (.int (1 : Int32)), .unset, .unset, .unset, .unset, .unset, .unset] [])) st96 ?_
      refine OFin.of (S' := T96.setTop (mkF m 76 #[.val (.long q0), .second, .val (.long q1), .second, .val (.long q2), .second, .val (.long q3), .second, .val (.int p4), .val (.long (q0 &&& (2305843009213693951 : Int64))), .second, .val (.long (q1 &&& (2305843009213693951 : Int64))), .second, .val (.long (q2 &&& (2305843009213693951 : Int64))), .second, .val (.long (q3 &&& (2305843009213693951 : Int64))), .second, .val (.int (1 : Int32)), .val (.int (1 : Int32)), .val (.ref b88), .val (.int (1 : Int32)), .unset, .unset, .unset, .unset, .unset, .unset] [(.ref b88)])) (fun t ht => ?_) ?_
      · refine XS.aload X96.here hx rfl (hb hby at_74) rfl rfl ?_
        exact ht
      obtain ⟨cq105, kq105, q105a, q105b, q105c⟩ := isOf hZ (rfl : T96.heap = T96.heap) f102
      obtain ⟨_, _, ⟨T104, L104, k104, n104⟩, -, X104, ⟨Lc104, hQ104, l104, y104, z104⟩, st104⟩ := X96.virtualBack hx (y := (⟨"com/example/kindred_mesh/kindredmesh/peer/SearchTime", "newPeriod", "()V"⟩ : MethodName)) (z := (⟨"com/example/kindred_mesh/kindredmesh/peer/SearchTime", "newPeriod", "()V"⟩ : MethodName)) hown (mvT hZ (hw _ (List.mem_of_getElem? (i := 19) rfl))) (mvT hZ (hw _ (List.mem_of_getElem? (i := 20) rfl))) (notFace_of_selects (args := #[]) (mvT hZ (hw _ (List.mem_of_getElem? (i := 22) rfl)))) (mvT hZ (hw _ (List.mem_of_getElem? (i := 22) rfl))) (mvT hZ (hw _ (List.mem_of_getElem? (i := 21) rfl))) (by decide) (backOf (W := 0) (rmNp1 l Z _ hw [] b88 (1 : Int64) ((0 : Int64) + (q3 &&& (2305843009213693951 : Int64))) 0 T96.heap n0 Z103 f102 f98 f99 f100 g89 (by decide) (own_nn _ (by decide))) hZ (hw _ (List.mem_of_getElem? (i := 23) rfl)) (hw _ (List.mem_of_getElem? (i := 3) rfl)) (by decide) (by decide)) q105a q105c (g := (mkF m 76 #[.val (.long q0), .second, .val (.long q1), .second, .val (.long q2), .second, .val (.long q3), .second, .val (.int p4), .val (.long (q0 &&& (2305843009213693951 : Int64))), .second, .val (.long (q1 &&& (2305843009213693951 : Int64))), .second, .val (.long (q2 &&& (2305843009213693951 : Int64))), .second, .val (.long (q3 &&& (2305843009213693951 : Int64))), .second, .val (.int (1 : Int32)), .val (.int (1 : Int32)), .val (.ref b88), .val (.int (1 : Int32)), .unset, .unset, .unset, .unset, .unset, .unset] [(.ref b88)])) rfl (by rw [hml]; rfl) (Steps.refl _) (argsL := []) (rest := []) (lenOf pd_0 rfl) rfl (by show 2 * 0 + _ ≤ _; exact Nat.le_of_eq rfl) (hb hby at_76) (fun _ _ => ⟨rfl, (rfl : T96.heap = T96.heap), (by decide : 1 + 0 ≤ _), (by decide : 3 + 0 ≤ _)⟩)
      dsimp only [Pt.U, Pt.locs, Pt.cells, Pt.slots] at X104 l104 y104 z104 st104 hQ104
      subst l104 y104 z104
      obtain ⟨rfl, Nq104, Kq104, f106, f107, f108⟩ := hQ104
      have N109 := Fr.app N101 Nq104
      have f110 := (f102.keep Kq104)
      have Z111 : n0 ≤ T104.heap.size := (Nat.le_trans Z103 Kq104.1)
      refine OFin.to (S' := T104.setTop (mkF m 79 #[.val (.long q0), .second, .val (.long q1), .second, .val (.long q2), .second, .val (.long q3), .second, .val (.int p4), .val (.long (q0 &&& (2305843009213693951 : Int64))), .second, .val (.long (q1 &&& (2305843009213693951 : Int64))), .second, .val (.long (q2 &&& (2305843009213693951 : Int64))), .second, .val (.long (q3 &&& (2305843009213693951 : Int64))), .second, .val (.int (1 : Int32)), .val (.int (1 : Int32)), .val (.ref b88), .val (.int (1 : Int32)), .unset, .unset, .unset, .unset, .unset, .unset] [])) st104 ?_
      refine OFin.of (S' := T104.setTop (mkF m 81 #[.val (.long q0), .second, .val (.long q1), .second, .val (.long q2), .second, .val (.long q3), .second, .val (.int p4), .val (.long (q0 &&& (2305843009213693951 : Int64))), .second, .val (.long (q1 &&& (2305843009213693951 : Int64))), .second, .val (.long (q2 &&& (2305843009213693951 : Int64))), .second, .val (.long (q3 &&& (2305843009213693951 : Int64))), .second, .val (.int (1 : Int32)), .val (.int (1 : Int32)), .val (.ref b88), .val (.int (1 : Int32)), .unset, .unset, .unset, .unset, .unset, .unset] [(.ref b88)])) (fun t ht => ?_) ?_
      · refine XS.aload X104.here hx rfl (hb hby at_79) rfl rfl ?_
        exact ht
      obtain ⟨cq113, kq113, q113a, q113b, q113c⟩ := isOf hZ (rfl : T104.heap = T104.heap) f110
      obtain ⟨_, _, ⟨T112, L112, k112, n112⟩, -, X112, ⟨Lc112, hQ112, l112, y112, z112⟩, st112⟩ := X104.virtualBack hx (y := (⟨"com/example/kindred_mesh/kindredmesh/peer/SearchTime", "lastMean", "()D"⟩ : MethodName)) (z := (⟨"com/example/kindred_mesh/kindredmesh/peer/SearchTime", "lastMean", "()D"⟩ : MethodName)) hown (mvT hZ (hw _ (List.mem_of_getElem? (i := 26) rfl))) (mvT hZ (hw _ (List.mem_of_getElem? (i := 27) rfl))) (notFace_of_selects (args := #[]) (mvT hZ (hw _ (List.mem_of_getElem? (i := 29) rfl)))) (mvT hZ (hw _ (List.mem_of_getElem? (i := 29) rfl))) (mvT hZ (hw _ (List.mem_of_getElem? (i := 28) rfl))) (by decide) (backOf (W := 0) (rmLm l Z _ hw [] b88 (FP.ddiv (FP.l2d ((0 : Int64) + (q3 &&& (2305843009213693951 : Int64)))) (FP.l2d (1 : Int64))) T104.heap n0 Z111 f108) hZ (hw _ (List.mem_of_getElem? (i := 30) rfl)) (hw _ (List.mem_of_getElem? (i := 3) rfl)) (by decide) (by decide)) q113a q113c (g := (mkF m 81 #[.val (.long q0), .second, .val (.long q1), .second, .val (.long q2), .second, .val (.long q3), .second, .val (.int p4), .val (.long (q0 &&& (2305843009213693951 : Int64))), .second, .val (.long (q1 &&& (2305843009213693951 : Int64))), .second, .val (.long (q2 &&& (2305843009213693951 : Int64))), .second, .val (.long (q3 &&& (2305843009213693951 : Int64))), .second, .val (.int (1 : Int32)), .val (.int (1 : Int32)), .val (.ref b88), .val (.int (1 : Int32)), .unset, .unset, .unset, .unset, .unset, .unset] [(.ref b88)])) rfl (by rw [hml]; rfl) (Steps.refl _) (argsL := []) (rest := []) (lenOf pd_1 rfl) rfl (by show 2 * 0 + _ ≤ _; exact Nat.le_of_eq rfl) (hb hby at_81) (fun _ _ => ⟨rfl, (rfl : T104.heap = T104.heap), (by decide : 1 + 0 ≤ _), (by decide : 3 + 0 ≤ _)⟩)
      dsimp only [Pt.U, Pt.locs, Pt.cells, Pt.slots] at X112 l112 y112 z112 st112 hQ112
      subst l112 y112 z112
      obtain ⟨rfl, Nq112, hs112⟩ := hQ112
      have N114 := Fr.app N109 Nq112
      refine OFin.to (S' := T112.setTop (mkF m 84 #[.val (.long q0), .second, .val (.long q1), .second, .val (.long q2), .second, .val (.long q3), .second, .val (.int p4), .val (.long (q0 &&& (2305843009213693951 : Int64))), .second, .val (.long (q1 &&& (2305843009213693951 : Int64))), .second, .val (.long (q2 &&& (2305843009213693951 : Int64))), .second, .val (.long (q3 &&& (2305843009213693951 : Int64))), .second, .val (.int (1 : Int32)), .val (.int (1 : Int32)), .val (.ref b88), .val (.int (1 : Int32)), .unset, .unset, .unset, .unset, .unset, .unset] [(.double (FP.ddiv (FP.l2d ((0 : Int64) + (q3 &&& (2305843009213693951 : Int64)))) (FP.l2d (1 : Int64))))])) st112 ?_
      refine OFin.of (S' := T112.setTop (mkF m 108 #[.val (.long q0), .second, .val (.long q1), .second, .val (.long q2), .second, .val (.long q3), .second, .val (.int p4), .val (.long (q0 &&& (2305843009213693951 : Int64))), .second, .val (.long (q1 &&& (2305843009213693951 : Int64))), .second, .val (.long (q2 &&& (2305843009213693951 : Int64))), .second, .val (.long (q3 &&& (2305843009213693951 : Int64))), .second, .val (.int (1 : Int32)), .val (.int (1 : Int32)), .val (.ref b88), .val (.int (1 : Int32)), .unset, .unset, .unset, .unset, .unset, .unset] [(.long (q0 &&& (2305843009213693951 : Int64))), (.ref b88)])) (fun t ht => ?_) ?_
      · refine XS.lload X112.here hx rfl (hb hby at_84) rfl ?_
        show Steps p.tables e below (T112.setTop (mkF m 86 _ [(.long (q3 &&& (2305843009213693951 : Int64))), (.double (FP.ddiv (FP.l2d ((0 : Int64) + (q3 &&& (2305843009213693951 : Int64)))) (FP.l2d (1 : Int64))))])) _
        refine XS.l2dS X112.here hx rfl (hb hby at_86) rfl rfl ?_
        show Steps p.tables e below (T112.setTop (mkF m 87 _ [(.double (FP.l2d (q3 &&& (2305843009213693951 : Int64)))), (.double (FP.ddiv (FP.l2d ((0 : Int64) + (q3 &&& (2305843009213693951 : Int64)))) (FP.l2d (1 : Int64))))])) _
        refine XS.dcmpS X112.here hx rfl (hb hby at_87) rfl rfl ?_
        show Steps p.tables e below (T112.setTop (mkF m 88 _ [(.int (cmpValue (FP.dcmp (FP.ddiv (FP.l2d ((0 : Int64) + (q3 &&& (2305843009213693951 : Int64)))) (FP.l2d (1 : Int64))) (FP.l2d (q3 &&& (2305843009213693951 : Int64)))) .l))])) _
        refine XS.ifNo X112.here hx rfl (hb hby at_88) rfl ((if0 _ _).trans (teq (dcmpV_eq (own_div1 _) (own_nn _ (by decide)) .l : (cmpValue (FP.dcmp (FP.ddiv (FP.l2d ((0 : Int64) + (q3 &&& (2305843009213693951 : Int64)))) (FP.l2d (1 : Int64))) (FP.l2d (q3 &&& (2305843009213693951 : Int64)))) .l) = (0 : Int32))).2) ?_
        show Steps p.tables e below (T112.setTop (mkF m 91 _ [])) _
        refine XS.iconst X112.here hx rfl (hb hby at_91) ?_
        show Steps p.tables e below (T112.setTop (mkF m 92 _ [(.int (1 : Int32))])) _
        refine XS.goto X112.here hx rfl (pc0 := 92) (pc' := 96) rfl (hb hby at_92) (by decide) (by decide) ?_
        show Steps p.tables e below (T112.setTop (mkF m 96 _ [(.int (1 : Int32))])) _
        refine XS.istore X112.here hx rfl (hb hby at_96) rfl (l' := #[.val (.long q0), .second, .val (.long q1), .second, .val (.long q2), .second, .val (.long q3), .second, .val (.int p4), .val (.long (q0 &&& (2305843009213693951 : Int64))), .second, .val (.long (q1 &&& (2305843009213693951 : Int64))), .second, .val (.long (q2 &&& (2305843009213693951 : Int64))), .second, .val (.long (q3 &&& (2305843009213693951 : Int64))), .second, .val (.int (1 : Int32)), .val (.int (1 : Int32)), .val (.ref b88), .val (.int (1 : Int32)), .unset, .unset, .unset, .unset, .unset, .unset]) rfl ?_
        show Steps p.tables e below (T112.setTop (mkF m 98 _ [])) _
        refine XS.iload X112.here hx rfl (hb hby at_98) rfl ?_
        show Steps p.tables e below (T112.setTop (mkF m 100 _ [(.int (1 : Int32))])) _
        refine XS.iconst X112.here hx rfl (hb hby at_100) ?_
        show Steps p.tables e below (T112.setTop (mkF m 101 _ [(.int (1 : Int32)), (.int (1 : Int32))])) _
        refine XS.icmpNo X112.here hx rfl (hb hby at_101) rfl (flt (by decide : ¬ ((1 : Int32) < (1 : Int32)))).1 ?_
        show Steps p.tables e below (T112.setTop (mkF m 104 _ [])) _
        refine XS.aload X112.here hx rfl (hb hby at_104) rfl rfl ?_
        show Steps p.tables e below (T112.setTop (mkF m 106 _ [(.ref b88)])) _
        refine XS.lload X112.here hx rfl (hb hby at_106) rfl ?_
        exact ht
      obtain ⟨cq116, kq116, q116a, q116b, q116c⟩ := isOf hZ hs112 f110
      obtain ⟨_, _, ⟨T115, L115, k115, n115⟩, -, X115, ⟨Lc115, hQ115, l115, y115, z115⟩, st115⟩ := X112.virtualBack hx (y := (⟨"com/example/kindred_mesh/kindredmesh/peer/SearchTime", "served", "(J)V"⟩ : MethodName)) (z := (⟨"com/example/kindred_mesh/kindredmesh/peer/SearchTime", "served", "(J)V"⟩ : MethodName)) hown (mvT hZ (hw _ (List.mem_of_getElem? (i := 10) rfl))) (mvT hZ (hw _ (List.mem_of_getElem? (i := 11) rfl))) (notFace_of_selects (args := #[]) (mvT hZ (hw _ (List.mem_of_getElem? (i := 13) rfl)))) (mvT hZ (hw _ (List.mem_of_getElem? (i := 13) rfl))) (mvT hZ (hw _ (List.mem_of_getElem? (i := 12) rfl))) (by decide) (backOf (W := 0) (rmSv l Z _ hw [] b88 (q0 &&& (2305843009213693951 : Int64)) (0 : Int64) (0 : Int64) (FP.ddiv (FP.l2d ((0 : Int64) + (q3 &&& (2305843009213693951 : Int64)))) (FP.l2d (1 : Int64))) T104.heap n0 Z111 f110 f106 f107 f108 g89) hZ (hw _ (List.mem_of_getElem? (i := 14) rfl)) (hw _ (List.mem_of_getElem? (i := 3) rfl)) (by decide) (by decide)) q116a q116c (g := (mkF m 108 #[.val (.long q0), .second, .val (.long q1), .second, .val (.long q2), .second, .val (.long q3), .second, .val (.int p4), .val (.long (q0 &&& (2305843009213693951 : Int64))), .second, .val (.long (q1 &&& (2305843009213693951 : Int64))), .second, .val (.long (q2 &&& (2305843009213693951 : Int64))), .second, .val (.long (q3 &&& (2305843009213693951 : Int64))), .second, .val (.int (1 : Int32)), .val (.int (1 : Int32)), .val (.ref b88), .val (.int (1 : Int32)), .unset, .unset, .unset, .unset, .unset, .unset] [(.long (q0 &&& (2305843009213693951 : Int64))), (.ref b88)])) rfl (by rw [hml]; rfl) (Steps.refl _) (argsL := [(.long (q0 &&& (2305843009213693951 : Int64)))]) (rest := []) (lenOf pd_2 rfl) rfl (by show 2 * 0 + _ ≤ _; exact Nat.le_of_eq rfl) (hb hby at_108) (fun _ _ => ⟨rfl, hs112, (by decide : 1 + 0 ≤ _), (by decide : 3 + 0 ≤ _)⟩)
      dsimp only [Pt.U, Pt.locs, Pt.cells, Pt.slots] at X115 l115 y115 z115 st115 hQ115
      subst l115 y115 z115
      obtain ⟨rfl, Nq115, Kq115, f117, f118, f119⟩ := hQ115
      have N120 := Fr.app N114 Nq115
      have f121 := (f110.keep Kq115)
      have Z122 : n0 ≤ T115.heap.size := (Nat.le_trans Z111 Kq115.1)
      refine OFin.to (S' := T115.setTop (mkF m 111 #[.val (.long q0), .second, .val (.long q1), .second, .val (.long q2), .second, .val (.long q3), .second, .val (.int p4), .val (.long (q0 &&& (2305843009213693951 : Int64))), .second, .val (.long (q1 &&& (2305843009213693951 : Int64))), .second, .val (.long (q2 &&& (2305843009213693951 : Int64))), .second, .val (.long (q3 &&& (2305843009213693951 : Int64))), .second, .val (.int (1 : Int32)), .val (.int (1 : Int32)), .val (.ref b88), .val (.int (1 : Int32)), .unset, .unset, .unset, .unset, .unset, .unset] [])) st115 ?_
      refine OFin.of (S' := T115.setTop (mkF m 139 #[.val (.long q0), .second, .val (.long q1), .second, .val (.long q2), .second, .val (.long q3), .second, .val (.int p4), .val (.long (q0 &&& (2305843009213693951 : Int64))), .second, .val (.long (q1 &&& (2305843009213693951 : Int64))), .second, .val (.long (q2 &&& (2305843009213693951 : Int64))), .second, .val (.long (q3 &&& (2305843009213693951 : Int64))), .second, .val (.int (1 : Int32)), .val (.int (1 : Int32)), .val (.ref b88), .val (.int (1 : Int32)), .unset, .unset, .unset, .unset, .unset, .unset] [(.ref b88)])) (fun t ht => ?_) ?_
      · refine XS.iload X115.here hx rfl (hb hby at_111) rfl ?_
        show Steps p.tables e below (T115.setTop (mkF m 113 _ [(.int (1 : Int32))])) _
        refine XS.iconst X115.here hx rfl (hb hby at_113) ?_
        show Steps p.tables e below (T115.setTop (mkF m 114 _ [(.int (2 : Int32)), (.int (1 : Int32))])) _
        refine XS.icmpYes X115.here hx rfl (pc0 := 114) (pc' := 124) rfl (hb hby at_114) rfl (tlt (by decide : (1 : Int32) < (2 : Int32))).1 (by decide) (by decide) ?_
        show Steps p.tables e below (T115.setTop (mkF m 124 _ [])) _
        refine XS.iload X115.here hx rfl (hb hby at_124) rfl ?_
        show Steps p.tables e below (T115.setTop (mkF m 126 _ [(.int (1 : Int32))])) _
        refine XS.iconst X115.here hx rfl (hb hby at_126) ?_
        show Steps p.tables e below (T115.setTop (mkF m 127 _ [(.int (3 : Int32)), (.int (1 : Int32))])) _
        refine XS.icmpYes X115.here hx rfl (pc0 := 127) (pc' := 137) rfl (hb hby at_127) rfl (tlt (by decide : (1 : Int32) < (3 : Int32))).1 (by decide) (by decide) ?_
        show Steps p.tables e below (T115.setTop (mkF m 137 _ [])) _
        refine XS.aload X115.here hx rfl (hb hby at_137) rfl rfl ?_
        exact ht
      obtain ⟨cq124, kq124, q124a, q124b, q124c⟩ := isOf hZ (rfl : T115.heap = T115.heap) f121
      obtain ⟨_, _, ⟨T123, L123, k123, n123⟩, -, X123, ⟨Lc123, hQ123, l123, y123, z123⟩, st123⟩ := X115.virtualBack hx (y := (⟨"com/example/kindred_mesh/kindredmesh/peer/SearchTime", "newPeriod", "()V"⟩ : MethodName)) (z := (⟨"com/example/kindred_mesh/kindredmesh/peer/SearchTime", "newPeriod", "()V"⟩ : MethodName)) hown (mvT hZ (hw _ (List.mem_of_getElem? (i := 19) rfl))) (mvT hZ (hw _ (List.mem_of_getElem? (i := 20) rfl))) (notFace_of_selects (args := #[]) (mvT hZ (hw _ (List.mem_of_getElem? (i := 22) rfl)))) (mvT hZ (hw _ (List.mem_of_getElem? (i := 22) rfl))) (mvT hZ (hw _ (List.mem_of_getElem? (i := 21) rfl))) (by decide) (backOf (W := 0) (rmNp1 l Z _ hw [] b88 (1 : Int64) ((0 : Int64) + (q0 &&& (2305843009213693951 : Int64))) (FP.ddiv (FP.l2d ((0 : Int64) + (q3 &&& (2305843009213693951 : Int64)))) (FP.l2d (1 : Int64))) T115.heap n0 Z122 f121 f117 f118 f119 g89 (by decide) (own_nn _ (by decide))) hZ (hw _ (List.mem_of_getElem? (i := 23) rfl)) (hw _ (List.mem_of_getElem? (i := 3) rfl)) (by decide) (by decide)) q124a q124c (g := (mkF m 139 #[.val (.long q0), .second, .val (.long q1), .second, .val (.long q2), .second, .val (.long q3), .second, .val (.int p4), .val (.long (q0 &&& (2305843009213693951 : Int64))), .second, .val (.long (q1 &&& (2305843009213693951 : Int64))), .second, .val (.long (q2 &&& (2305843009213693951 : Int64))), .second, .val (.long (q3 &&& (2305843009213693951 : Int64))), .second, .val (.int (1 : Int32)), .val (.int (1 : Int32)), .val (.ref b88), .val (.int (1 : Int32)), .unset, .unset, .unset, .unset, .unset, .unset] [(.ref b88)])) rfl (by rw [hml]; rfl) (Steps.refl _) (argsL := []) (rest := []) (lenOf pd_0 rfl) rfl (by show 2 * 0 + _ ≤ _; exact Nat.le_of_eq rfl) (hb hby at_139) (fun _ _ => ⟨rfl, (rfl : T115.heap = T115.heap), (by decide : 1 + 0 ≤ _), (by decide : 3 + 0 ≤ _)⟩)
      dsimp only [Pt.U, Pt.locs, Pt.cells, Pt.slots] at X123 l123 y123 z123 st123 hQ123
      subst l123 y123 z123
      obtain ⟨rfl, Nq123, Kq123, f125, f126, f127⟩ := hQ123
      have N128 := Fr.app N120 Nq123
      have f129 := (f121.keep Kq123)
      have Z130 : n0 ≤ T123.heap.size := (Nat.le_trans Z122 Kq123.1)
      refine OFin.to (S' := T123.setTop (mkF m 142 #[.val (.long q0), .second, .val (.long q1), .second, .val (.long q2), .second, .val (.long q3), .second, .val (.int p4), .val (.long (q0 &&& (2305843009213693951 : Int64))), .second, .val (.long (q1 &&& (2305843009213693951 : Int64))), .second, .val (.long (q2 &&& (2305843009213693951 : Int64))), .second, .val (.long (q3 &&& (2305843009213693951 : Int64))), .second, .val (.int (1 : Int32)), .val (.int (1 : Int32)), .val (.ref b88), .val (.int (1 : Int32)), .unset, .unset, .unset, .unset, .unset, .unset] [])) st123 ?_
      refine OFin.of (S' := T123.setTop (mkF m 202 #[.val (.long q0), .second, .val (.long q1), .second, .val (.long q2), .second, .val (.long q3), .second, .val (.int p4), .val (.long (q0 &&& (2305843009213693951 : Int64))), .second, .val (.long (q1 &&& (2305843009213693951 : Int64))), .second, .val (.long (q2 &&& (2305843009213693951 : Int64))), .second, .val (.long (q3 &&& (2305843009213693951 : Int64))), .second, .val (.int (1 : Int32)), .val (.int (1 : Int32)), .val (.ref b88), .val (.int (1 : Int32)), .val (.long (((q0 &&& (2305843009213693951 : Int64)) + (0 : Int64)) + (0 : Int64))), .second, .val (.double (FP.ddiv (FP.l2d (((q0 &&& (2305843009213693951 : Int64)) + (0 : Int64)) + (0 : Int64))) (FP.i2d (1 : Int32)))), .second, .unset, .unset] [(.ref b88)])) (fun t ht => ?_) ?_
      · refine XS.iload X123.here hx rfl (hb hby at_142) rfl ?_
        show Steps p.tables e below (T123.setTop (mkF m 144 _ [(.int (1 : Int32))])) _
        refine XS.iconst X123.here hx rfl (hb hby at_144) ?_
        show Steps p.tables e below (T123.setTop (mkF m 145 _ [(.int (1 : Int32)), (.int (1 : Int32))])) _
        refine XS.icmpNo X123.here hx rfl (hb hby at_145) rfl (flt (by decide : ¬ ((1 : Int32) < (1 : Int32)))).1 ?_
        show Steps p.tables e below (T123.setTop (mkF m 148 _ [])) _
        refine XS.lload X123.here hx rfl (hb hby at_148) rfl ?_
        show Steps p.tables e below (T123.setTop (mkF m 150 _ [(.long (q0 &&& (2305843009213693951 : Int64)))])) _
        refine XS.goto X123.here hx rfl (pc0 := 150) (pc' := 154) rfl (hb hby at_150) (by decide) (by decide) ?_
        show Steps p.tables e below (T123.setTop (mkF m 154 _ [(.long (q0 &&& (2305843009213693951 : Int64)))])) _
        refine XS.iload X123.here hx rfl (hb hby at_154) rfl ?_
        show Steps p.tables e below (T123.setTop (mkF m 156 _ [(.int (1 : Int32)), (.long (q0 &&& (2305843009213693951 : Int64)))])) _
        refine XS.iconst X123.here hx rfl (hb hby at_156) ?_
        show Steps p.tables e below (T123.setTop (mkF m 157 _ [(.int (2 : Int32)), (.int (1 : Int32)), (.long (q0 &&& (2305843009213693951 : Int64)))])) _
        refine XS.icmpYes X123.here hx rfl (pc0 := 157) (pc' := 165) rfl (hb hby at_157) rfl (tlt (by decide : (1 : Int32) < (2 : Int32))).1 (by decide) (by decide) ?_
        show Steps p.tables e below (T123.setTop (mkF m 165 _ [(.long (q0 &&& (2305843009213693951 : Int64)))])) _
        refine XS.lconst X123.here hx rfl (hb hby at_165) ?_
        show Steps p.tables e below (T123.setTop (mkF m 166 _ [(.long (0 : Int64)), (.long (q0 &&& (2305843009213693951 : Int64)))])) _
        refine XS.ladd X123.here hx rfl (hb hby at_166) rfl ?_
        show Steps p.tables e below (T123.setTop (mkF m 167 _ [(.long ((q0 &&& (2305843009213693951 : Int64)) + (0 : Int64)))])) _
        refine XS.iload X123.here hx rfl (hb hby at_167) rfl ?_
        show Steps p.tables e below (T123.setTop (mkF m 169 _ [(.int (1 : Int32)), (.long ((q0 &&& (2305843009213693951 : Int64)) + (0 : Int64)))])) _
        refine XS.iconst X123.here hx rfl (hb hby at_169) ?_
        show Steps p.tables e below (T123.setTop (mkF m 170 _ [(.int (3 : Int32)), (.int (1 : Int32)), (.long ((q0 &&& (2305843009213693951 : Int64)) + (0 : Int64)))])) _
        refine XS.icmpYes X123.here hx rfl (pc0 := 170) (pc' := 178) rfl (hb hby at_170) rfl (tlt (by decide : (1 : Int32) < (3 : Int32))).1 (by decide) (by decide) ?_
        show Steps p.tables e below (T123.setTop (mkF m 178 _ [(.long ((q0 &&& (2305843009213693951 : Int64)) + (0 : Int64)))])) _
        refine XS.lconst X123.here hx rfl (hb hby at_178) ?_
        show Steps p.tables e below (T123.setTop (mkF m 179 _ [(.long (0 : Int64)), (.long ((q0 &&& (2305843009213693951 : Int64)) + (0 : Int64)))])) _
        refine XS.ladd X123.here hx rfl (hb hby at_179) rfl ?_
        show Steps p.tables e below (T123.setTop (mkF m 180 _ [(.long (((q0 &&& (2305843009213693951 : Int64)) + (0 : Int64)) + (0 : Int64)))])) _
        refine XS.lstore X123.here hx rfl (hb hby at_180) rfl (l' := #[.val (.long q0), .second, .val (.long q1), .second, .val (.long q2), .second, .val (.long q3), .second, .val (.int p4), .val (.long (q0 &&& (2305843009213693951 : Int64))), .second, .val (.long (q1 &&& (2305843009213693951 : Int64))), .second, .val (.long (q2 &&& (2305843009213693951 : Int64))), .second, .val (.long (q3 &&& (2305843009213693951 : Int64))), .second, .val (.int (1 : Int32)), .val (.int (1 : Int32)), .val (.ref b88), .val (.int (1 : Int32)), .val (.long (((q0 &&& (2305843009213693951 : Int64)) + (0 : Int64)) + (0 : Int64))), .second, .unset, .unset, .unset, .unset]) rfl ?_
        show Steps p.tables e below (T123.setTop (mkF m 182 #[.val (.long q0), .second, .val (.long q1), .second, .val (.long q2), .second, .val (.long q3), .second, .val (.int p4), .val (.long (q0 &&& (2305843009213693951 : Int64))), .second, .val (.long (q1 &&& (2305843009213693951 : Int64))), .second, .val (.long (q2 &&& (2305843009213693951 : Int64))), .second, .val (.long (q3 &&& (2305843009213693951 : Int64))), .second, .val (.int (1 : Int32)), .val (.int (1 : Int32)), .val (.ref b88), .val (.int (1 : Int32)), .val (.long (((q0 &&& (2305843009213693951 : Int64)) + (0 : Int64)) + (0 : Int64))), .second, .unset, .unset, .unset, .unset] [])) _
        refine XS.iload X123.here hx rfl (hb hby at_182) rfl ?_
        show Steps p.tables e below (T123.setTop (mkF m 184 _ [(.int (1 : Int32))])) _
        refine XS.ifYes X123.here hx rfl (pc0 := 184) (pc' := 191) rfl (hb hby at_184) rfl ((if0 _ _).trans (feq (by decide : ¬ ((1 : Int32) = (0 : Int32)))).2) (by decide) (by decide) ?_
        show Steps p.tables e below (T123.setTop (mkF m 191 _ [])) _
        refine XS.lload X123.here hx rfl (hb hby at_191) rfl ?_
        show Steps p.tables e below (T123.setTop (mkF m 193 _ [(.long (((q0 &&& (2305843009213693951 : Int64)) + (0 : Int64)) + (0 : Int64)))])) _
        refine XS.l2dS X123.here hx rfl (hb hby at_193) rfl rfl ?_
        show Steps p.tables e below (T123.setTop (mkF m 194 _ [(.double (FP.l2d (((q0 &&& (2305843009213693951 : Int64)) + (0 : Int64)) + (0 : Int64))))])) _
        refine XS.iload X123.here hx rfl (hb hby at_194) rfl ?_
        show Steps p.tables e below (T123.setTop (mkF m 196 _ [(.int (1 : Int32)), (.double (FP.l2d (((q0 &&& (2305843009213693951 : Int64)) + (0 : Int64)) + (0 : Int64))))])) _
        refine XS.i2dS X123.here hx rfl (hb hby at_196) rfl rfl ?_
        show Steps p.tables e below (T123.setTop (mkF m 197 _ [(.double (FP.i2d (1 : Int32))), (.double (FP.l2d (((q0 &&& (2305843009213693951 : Int64)) + (0 : Int64)) + (0 : Int64))))])) _
        refine XS.ddivS X123.here hx rfl (hb hby at_197) rfl (own_nni _ (by decide)) rfl ?_
        show Steps p.tables e below (T123.setTop (mkF m 198 _ [(.double (FP.ddiv (FP.l2d (((q0 &&& (2305843009213693951 : Int64)) + (0 : Int64)) + (0 : Int64))) (FP.i2d (1 : Int32))))])) _
        refine XS.dstore X123.here hx rfl (hb hby at_198) rfl (l' := #[.val (.long q0), .second, .val (.long q1), .second, .val (.long q2), .second, .val (.long q3), .second, .val (.int p4), .val (.long (q0 &&& (2305843009213693951 : Int64))), .second, .val (.long (q1 &&& (2305843009213693951 : Int64))), .second, .val (.long (q2 &&& (2305843009213693951 : Int64))), .second, .val (.long (q3 &&& (2305843009213693951 : Int64))), .second, .val (.int (1 : Int32)), .val (.int (1 : Int32)), .val (.ref b88), .val (.int (1 : Int32)), .val (.long (((q0 &&& (2305843009213693951 : Int64)) + (0 : Int64)) + (0 : Int64))), .second, .val (.double (FP.ddiv (FP.l2d (((q0 &&& (2305843009213693951 : Int64)) + (0 : Int64)) + (0 : Int64))) (FP.i2d (1 : Int32)))), .second, .unset, .unset]) rfl ?_
        show Steps p.tables e below (T123.setTop (mkF m 200 #[.val (.long q0), .second, .val (.long q1), .second, .val (.long q2), .second, .val (.long q3), .second, .val (.int p4), .val (.long (q0 &&& (2305843009213693951 : Int64))), .second, .val (.long (q1 &&& (2305843009213693951 : Int64))), .second, .val (.long (q2 &&& (2305843009213693951 : Int64))), .second, .val (.long (q3 &&& (2305843009213693951 : Int64))), .second, .val (.int (1 : Int32)), .val (.int (1 : Int32)), .val (.ref b88), .val (.int (1 : Int32)), .val (.long (((q0 &&& (2305843009213693951 : Int64)) + (0 : Int64)) + (0 : Int64))), .second, .val (.double (FP.ddiv (FP.l2d (((q0 &&& (2305843009213693951 : Int64)) + (0 : Int64)) + (0 : Int64))) (FP.i2d (1 : Int32)))), .second, .unset, .unset] [])) _
        refine XS.aload X123.here hx rfl (hb hby at_200) rfl rfl ?_
        exact ht
      obtain ⟨cq132, kq132, q132a, q132b, q132c⟩ := isOf hZ (rfl : T123.heap = T123.heap) f129
      obtain ⟨_, _, ⟨T131, L131, k131, n131⟩, -, X131, ⟨Lc131, hQ131, l131, y131, z131⟩, st131⟩ := X123.virtualBack hx (y := (⟨"com/example/kindred_mesh/kindredmesh/peer/SearchTime", "lastMean", "()D"⟩ : MethodName)) (z := (⟨"com/example/kindred_mesh/kindredmesh/peer/SearchTime", "lastMean", "()D"⟩ : MethodName)) hown (mvT hZ (hw _ (List.mem_of_getElem? (i := 26) rfl))) (mvT hZ (hw _ (List.mem_of_getElem? (i := 27) rfl))) (notFace_of_selects (args := #[]) (mvT hZ (hw _ (List.mem_of_getElem? (i := 29) rfl)))) (mvT hZ (hw _ (List.mem_of_getElem? (i := 29) rfl))) (mvT hZ (hw _ (List.mem_of_getElem? (i := 28) rfl))) (by decide) (backOf (W := 0) (rmLm l Z _ hw [] b88 (FP.ddiv (FP.l2d ((0 : Int64) + (q0 &&& (2305843009213693951 : Int64)))) (FP.l2d (1 : Int64))) T123.heap n0 Z130 f127) hZ (hw _ (List.mem_of_getElem? (i := 30) rfl)) (hw _ (List.mem_of_getElem? (i := 3) rfl)) (by decide) (by decide)) q132a q132c (g := (mkF m 202 #[.val (.long q0), .second, .val (.long q1), .second, .val (.long q2), .second, .val (.long q3), .second, .val (.int p4), .val (.long (q0 &&& (2305843009213693951 : Int64))), .second, .val (.long (q1 &&& (2305843009213693951 : Int64))), .second, .val (.long (q2 &&& (2305843009213693951 : Int64))), .second, .val (.long (q3 &&& (2305843009213693951 : Int64))), .second, .val (.int (1 : Int32)), .val (.int (1 : Int32)), .val (.ref b88), .val (.int (1 : Int32)), .val (.long (((q0 &&& (2305843009213693951 : Int64)) + (0 : Int64)) + (0 : Int64))), .second, .val (.double (FP.ddiv (FP.l2d (((q0 &&& (2305843009213693951 : Int64)) + (0 : Int64)) + (0 : Int64))) (FP.i2d (1 : Int32)))), .second, .unset, .unset] [(.ref b88)])) rfl (by rw [hml]; rfl) (Steps.refl _) (argsL := []) (rest := []) (lenOf pd_1 rfl) rfl (by show 2 * 0 + _ ≤ _; exact Nat.le_of_eq rfl) (hb hby at_202) (fun _ _ => ⟨rfl, (rfl : T123.heap = T123.heap), (by decide : 1 + 0 ≤ _), (by decide : 3 + 0 ≤ _)⟩)
      dsimp only [Pt.U, Pt.locs, Pt.cells, Pt.slots] at X131 l131 y131 z131 st131 hQ131
      subst l131 y131 z131
      obtain ⟨rfl, Nq131, hs131⟩ := hQ131
      have N133 := Fr.app N128 Nq131
      refine OFin.to (S' := T131.setTop (mkF m 205 #[.val (.long q0), .second, .val (.long q1), .second, .val (.long q2), .second, .val (.long q3), .second, .val (.int p4), .val (.long (q0 &&& (2305843009213693951 : Int64))), .second, .val (.long (q1 &&& (2305843009213693951 : Int64))), .second, .val (.long (q2 &&& (2305843009213693951 : Int64))), .second, .val (.long (q3 &&& (2305843009213693951 : Int64))), .second, .val (.int (1 : Int32)), .val (.int (1 : Int32)), .val (.ref b88), .val (.int (1 : Int32)), .val (.long (((q0 &&& (2305843009213693951 : Int64)) + (0 : Int64)) + (0 : Int64))), .second, .val (.double (FP.ddiv (FP.l2d (((q0 &&& (2305843009213693951 : Int64)) + (0 : Int64)) + (0 : Int64))) (FP.i2d (1 : Int32)))), .second, .unset, .unset] [(.double (FP.ddiv (FP.l2d ((0 : Int64) + (q0 &&& (2305843009213693951 : Int64)))) (FP.l2d (1 : Int64))))])) st131 ?_
      refine OFin.of (S' := T131.setTop (mkF m 232 #[.val (.long q0), .second, .val (.long q1), .second, .val (.long q2), .second, .val (.long q3), .second, .val (.int p4), .val (.long (q0 &&& (2305843009213693951 : Int64))), .second, .val (.long (q1 &&& (2305843009213693951 : Int64))), .second, .val (.long (q2 &&& (2305843009213693951 : Int64))), .second, .val (.long (q3 &&& (2305843009213693951 : Int64))), .second, .val (.int (1 : Int32)), .val (.int (1 : Int32)), .val (.ref b88), .val (.int (1 : Int32)), .val (.long (((q0 &&& (2305843009213693951 : Int64)) + (0 : Int64)) + (0 : Int64))), .second, .val (.double (FP.ddiv (FP.l2d (((q0 &&& (2305843009213693951 : Int64)) + (0 : Int64)) + (0 : Int64))) (FP.i2d (1 : Int32)))), .second, .val (.double (FP.ddiv (FP.l2d ((0 : Int64) + (q0 &&& (2305843009213693951 : Int64)))) (FP.l2d (1 : Int64)))), .second] [(.int (1 : Int32))])) (fun t ht => ?_) ?_
      · refine XS.dstore X131.here hx rfl (hb hby at_205) rfl (l' := #[.val (.long q0), .second, .val (.long q1), .second, .val (.long q2), .second, .val (.long q3), .second, .val (.int p4), .val (.long (q0 &&& (2305843009213693951 : Int64))), .second, .val (.long (q1 &&& (2305843009213693951 : Int64))), .second, .val (.long (q2 &&& (2305843009213693951 : Int64))), .second, .val (.long (q3 &&& (2305843009213693951 : Int64))), .second, .val (.int (1 : Int32)), .val (.int (1 : Int32)), .val (.ref b88), .val (.int (1 : Int32)), .val (.long (((q0 &&& (2305843009213693951 : Int64)) + (0 : Int64)) + (0 : Int64))), .second, .val (.double (FP.ddiv (FP.l2d (((q0 &&& (2305843009213693951 : Int64)) + (0 : Int64)) + (0 : Int64))) (FP.i2d (1 : Int32)))), .second, .val (.double (FP.ddiv (FP.l2d ((0 : Int64) + (q0 &&& (2305843009213693951 : Int64)))) (FP.l2d (1 : Int64)))), .second]) rfl ?_
        show Steps p.tables e below (T131.setTop (mkF m 207 #[.val (.long q0), .second, .val (.long q1), .second, .val (.long q2), .second, .val (.long q3), .second, .val (.int p4), .val (.long (q0 &&& (2305843009213693951 : Int64))), .second, .val (.long (q1 &&& (2305843009213693951 : Int64))), .second, .val (.long (q2 &&& (2305843009213693951 : Int64))), .second, .val (.long (q3 &&& (2305843009213693951 : Int64))), .second, .val (.int (1 : Int32)), .val (.int (1 : Int32)), .val (.ref b88), .val (.int (1 : Int32)), .val (.long (((q0 &&& (2305843009213693951 : Int64)) + (0 : Int64)) + (0 : Int64))), .second, .val (.double (FP.ddiv (FP.l2d (((q0 &&& (2305843009213693951 : Int64)) + (0 : Int64)) + (0 : Int64))) (FP.i2d (1 : Int32)))), .second, .val (.double (FP.ddiv (FP.l2d ((0 : Int64) + (q0 &&& (2305843009213693951 : Int64)))) (FP.l2d (1 : Int64)))), .second] [])) _
        refine XS.iload X131.here hx rfl (hb hby at_207) rfl ?_
        show Steps p.tables e below (T131.setTop (mkF m 209 _ [(.int (1 : Int32))])) _
        refine XS.ifNo X131.here hx rfl (hb hby at_209) rfl ((if0 _ _).trans (feq (by decide : ¬ ((1 : Int32) = (0 : Int32)))).1) ?_
        show Steps p.tables e below (T131.setTop (mkF m 212 _ [])) _
        refine XS.dload X131.here hx rfl (hb hby at_212) rfl ?_
        show Steps p.tables e below (T131.setTop (mkF m 214 _ [(.double (FP.ddiv (FP.l2d ((0 : Int64) + (q0 &&& (2305843009213693951 : Int64)))) (FP.l2d (1 : Int64))))])) _
        refine XS.dload X131.here hx rfl (hb hby at_214) rfl ?_
        show Steps p.tables e below (T131.setTop (mkF m 216 _ [(.double (FP.ddiv (FP.l2d (((q0 &&& (2305843009213693951 : Int64)) + (0 : Int64)) + (0 : Int64))) (FP.i2d (1 : Int32)))), (.double (FP.ddiv (FP.l2d ((0 : Int64) + (q0 &&& (2305843009213693951 : Int64)))) (FP.l2d (1 : Int64))))])) _
        refine XS.dcmpS X131.here hx rfl (hb hby at_216) rfl rfl ?_
        show Steps p.tables e below (T131.setTop (mkF m 217 _ [(.int (cmpValue (FP.dcmp (FP.ddiv (FP.l2d ((0 : Int64) + (q0 &&& (2305843009213693951 : Int64)))) (FP.l2d (1 : Int64))) (FP.ddiv (FP.l2d (((q0 &&& (2305843009213693951 : Int64)) + (0 : Int64)) + (0 : Int64))) (FP.i2d (1 : Int32)))) .l))])) _
        refine XS.ifNo X131.here hx rfl (hb hby at_217) rfl ((if0 _ _).trans (teq (dcmpV_eq (own_e1 _) (own_nn _ (by decide)) .l : (cmpValue (FP.dcmp (FP.ddiv (FP.l2d ((0 : Int64) + (q0 &&& (2305843009213693951 : Int64)))) (FP.l2d (1 : Int64))) (FP.ddiv (FP.l2d (((q0 &&& (2305843009213693951 : Int64)) + (0 : Int64)) + (0 : Int64))) (FP.i2d (1 : Int32)))) .l) = (0 : Int32))).2) ?_
        show Steps p.tables e below (T131.setTop (mkF m 220 _ [])) _
        refine XS.dload X131.here hx rfl (hb hby at_220) rfl ?_
        show Steps p.tables e below (T131.setTop (mkF m 222 _ [(.double (FP.ddiv (FP.l2d ((0 : Int64) + (q0 &&& (2305843009213693951 : Int64)))) (FP.l2d (1 : Int64))))])) _
        refine XS.dconst0 X131.here hx rfl (hb hby at_222) rfl ?_
        show Steps p.tables e below (T131.setTop (mkF m 223 _ [(.double FP.dconst0), (.double (FP.ddiv (FP.l2d ((0 : Int64) + (q0 &&& (2305843009213693951 : Int64)))) (FP.l2d (1 : Int64))))])) _
        refine XS.dcmpS X131.here hx rfl (hb hby at_223) rfl rfl ?_
        show Steps p.tables e below (T131.setTop (mkF m 224 _ [(.int (cmpValue (FP.dcmp (FP.ddiv (FP.l2d ((0 : Int64) + (q0 &&& (2305843009213693951 : Int64)))) (FP.l2d (1 : Int64))) FP.dconst0) .l))])) _
        refine XS.ifNo X131.here hx rfl (hb hby at_224) rfl ((if0 _ _).trans (flt (own_ge0 (own_p1 _) (by decide) : ¬ ((cmpValue (FP.dcmp (FP.ddiv (FP.l2d ((0 : Int64) + (q0 &&& (2305843009213693951 : Int64)))) (FP.l2d (1 : Int64))) FP.dconst0) .l) < (0 : Int32)))).1) ?_
        show Steps p.tables e below (T131.setTop (mkF m 227 _ [])) _
        refine XS.iconst X131.here hx rfl (hb hby at_227) ?_
        show Steps p.tables e below (T131.setTop (mkF m 228 _ [(.int (1 : Int32))])) _
        refine XS.goto X131.here hx rfl (pc0 := 228) (pc' := 232) rfl (hb hby at_228) (by decide) (by decide) ?_
        exact ht
      exact OFin.retB X131 hx hlk (t := .boolean) (by simp) hret (hb hby at_232) (by decide) (by decide) (by rw [hs131]; exact ⟨rfl, N133⟩)
  · rw [hq1]
    refine OFin.of (S' := s₁.setTop (mkF m 40 #[.val (.long q0), .second, .val (.long q1), .second, .val (.long q2), .second, .val (.long q3), .second, .val (.int p4), .val (.long (q0 &&& (2305843009213693951 : Int64))), .second, .val (.long (q1 &&& (2305843009213693951 : Int64))), .second, .val (.long (q2 &&& (2305843009213693951 : Int64))), .second, .val (.long (q3 &&& (2305843009213693951 : Int64))), .second, .val (.int (2 : Int32)), .unset, .unset, .unset, .unset, .unset, .unset, .unset, .unset, .unset] [(.int (p4 &&& (4 : Int32)))])) (fun t ht => ?_) ?_
    · refine XS.istore X0.here hx rfl (hb hby at_34) rfl (l' := #[.val (.long q0), .second, .val (.long q1), .second, .val (.long q2), .second, .val (.long q3), .second, .val (.int p4), .val (.long (q0 &&& (2305843009213693951 : Int64))), .second, .val (.long (q1 &&& (2305843009213693951 : Int64))), .second, .val (.long (q2 &&& (2305843009213693951 : Int64))), .second, .val (.long (q3 &&& (2305843009213693951 : Int64))), .second, .val (.int (2 : Int32)), .unset, .unset, .unset, .unset, .unset, .unset, .unset, .unset, .unset]) rfl ?_
      show Steps p.tables e below (s₁.setTop (mkF m 36 #[.val (.long q0), .second, .val (.long q1), .second, .val (.long q2), .second, .val (.long q3), .second, .val (.int p4), .val (.long (q0 &&& (2305843009213693951 : Int64))), .second, .val (.long (q1 &&& (2305843009213693951 : Int64))), .second, .val (.long (q2 &&& (2305843009213693951 : Int64))), .second, .val (.long (q3 &&& (2305843009213693951 : Int64))), .second, .val (.int (2 : Int32)), .unset, .unset, .unset, .unset, .unset, .unset, .unset, .unset, .unset] [])) _
      refine XS.iload X0.here hx rfl (hb hby at_36) rfl ?_
      show Steps p.tables e below (s₁.setTop (mkF m 38 _ [(.int p4)])) _
      refine XS.iconst X0.here hx rfl (hb hby at_38) ?_
      show Steps p.tables e below (s₁.setTop (mkF m 39 _ [(.int (4 : Int32)), (.int p4)])) _
      refine XS.iand X0.here hx rfl (hb hby at_39) rfl ?_
      exact ht
    by_cases hc134 : (p4 &&& (4 : Int32)) = (0 : Int32)
    · refine OFin.of (S' := s₁.setTop (mkF m 50 #[.val (.long q0), .second, .val (.long q1), .second, .val (.long q2), .second, .val (.long q3), .second, .val (.int p4), .val (.long (q0 &&& (2305843009213693951 : Int64))), .second, .val (.long (q1 &&& (2305843009213693951 : Int64))), .second, .val (.long (q2 &&& (2305843009213693951 : Int64))), .second, .val (.long (q3 &&& (2305843009213693951 : Int64))), .second, .val (.int (2 : Int32)), .val (.int (0 : Int32)), .unset, .unset, .unset, .unset, .unset, .unset, .unset, .unset] [])) (fun t ht => ?_) ?_
      · refine XS.ifYes X0.here hx rfl (pc0 := 40) (pc' := 47) rfl (hb hby at_40) rfl ((if0 _ _).trans (teq (hc134 : (p4 &&& (4 : Int32)) = (0 : Int32))).1) (by decide) (by decide) ?_
        show Steps p.tables e below (s₁.setTop (mkF m 47 _ [])) _
        refine XS.iconst X0.here hx rfl (hb hby at_47) ?_
        show Steps p.tables e below (s₁.setTop (mkF m 48 _ [(.int (0 : Int32))])) _
        refine XS.istore X0.here hx rfl (hb hby at_48) rfl (l' := #[.val (.long q0), .second, .val (.long q1), .second, .val (.long q2), .second, .val (.long q3), .second, .val (.int p4), .val (.long (q0 &&& (2305843009213693951 : Int64))), .second, .val (.long (q1 &&& (2305843009213693951 : Int64))), .second, .val (.long (q2 &&& (2305843009213693951 : Int64))), .second, .val (.long (q3 &&& (2305843009213693951 : Int64))), .second, .val (.int (2 : Int32)), .val (.int (0 : Int32)), .unset, .unset, .unset, .unset, .unset, .unset, .unset, .unset]) rfl ?_
        exact ht
      obtain ⟨T135, h135, X135, e135, E135, A135, D135, -, st135⟩ := newO X0 hx hZ hown (hw _ (List.mem_of_getElem? (i := 1) rfl)) (hw _ (List.mem_of_getElem? (i := 2) rfl)) (hw _ (List.mem_of_getElem? (i := 3) rfl)) e0 (g := (mkF m 50 #[.val (.long q0), .second, .val (.long q1), .second, .val (.long q2), .second, .val (.long q3), .second, .val (.int p4), .val (.long (q0 &&& (2305843009213693951 : Int64))), .second, .val (.long (q1 &&& (2305843009213693951 : Int64))), .second, .val (.long (q2 &&& (2305843009213693951 : Int64))), .second, .val (.long (q3 &&& (2305843009213693951 : Int64))), .second, .val (.int (2 : Int32)), .val (.int (0 : Int32)), .unset, .unset, .unset, .unset, .unset, .unset, .unset, .unset] [])) rfl (hb hby at_50) (by decide) (by decide)
      obtain ⟨b135, gq135⟩ : ∃ z, z = h0.size := ⟨_, rfl⟩
      rw [← gq135] at A135 D135 st135
      have g136 : n0 ≤ b135 := (Nat.le_trans Z0 (Nat.le_of_eq gq135.symm))
      have Z137 : n0 ≤ h135.size := (Nat.le_trans Z0 E135.1)
      have f138 : Fld Z h135 b135 "com/example/kindred_mesh/kindredmesh/peer/SearchTime" "served" "J" (.long (0 : Int64)) := D135 (Or.inl (hw _ (List.mem_of_getElem? (i := 16) rfl))) (ty := .long) (by decide)
      have f139 : Fld Z h135 b135 "com/example/kindred_mesh/kindredmesh/peer/SearchTime" "total" "J" (.long (0 : Int64)) := D135 (Or.inl (hw _ (List.mem_of_getElem? (i := 18) rfl))) (ty := .long) (by decide)
      have f140 : Fld Z h135 b135 "com/example/kindred_mesh/kindredmesh/peer/SearchTime" "lastMean" "D" (.double 0) := D135 (Or.inl (hw _ (List.mem_of_getElem? (i := 25) rfl))) (ty := .double) (by decide)
      refine OFin.of (S' := T135.setTop (mkF m 53 #[.val (.long q0), .second, .val (.long q1), .second, .val (.long q2), .second, .val (.long q3), .second, .val (.int p4), .val (.long (q0 &&& (2305843009213693951 : Int64))), .second, .val (.long (q1 &&& (2305843009213693951 : Int64))), .second, .val (.long (q2 &&& (2305843009213693951 : Int64))), .second, .val (.long (q3 &&& (2305843009213693951 : Int64))), .second, .val (.int (2 : Int32)), .val (.int (0 : Int32)), .unset, .unset, .unset, .unset, .unset, .unset, .unset, .unset] [(.ref b135)])) (fun t ht => st135 t ht) ?_
      refine OFin.of (S' := T135.setTop (mkF m 54 #[.val (.long q0), .second, .val (.long q1), .second, .val (.long q2), .second, .val (.long q3), .second, .val (.int p4), .val (.long (q0 &&& (2305843009213693951 : Int64))), .second, .val (.long (q1 &&& (2305843009213693951 : Int64))), .second, .val (.long (q2 &&& (2305843009213693951 : Int64))), .second, .val (.long (q3 &&& (2305843009213693951 : Int64))), .second, .val (.int (2 : Int32)), .val (.int (0 : Int32)), .unset, .unset, .unset, .unset, .unset, .unset, .unset, .unset] [(.ref b135), (.ref b135)])) (fun t ht => ?_) ?_
      · refine XS.dup X135.here hx rfl (hb hby at_53) rfl rfl ?_
        exact ht
      obtain ⟨_, _, ⟨T141, L141, k141, n141⟩, -, X141, ⟨Lc141, hQ141, l141, y141, z141⟩, st141⟩ := X135.specialBack hx (y := (⟨"com/example/kindred_mesh/kindredmesh/peer/SearchTime", "<init>", "()V"⟩ : MethodName)) rfl hown (mvT hZ (hw _ (List.mem_of_getElem? (i := 4) rfl))) (mvT hZ (hw _ (List.mem_of_getElem? (i := 5) rfl))) (mvT hZ (hw _ (List.mem_of_getElem? (i := 6) rfl))) (by decide) (backOf (W := 1) (rmIni l Z _ hw [] b135 h135 n0 Z137 ) hZ (hw _ (List.mem_of_getElem? (i := 6) rfl)) (hw _ (List.mem_of_getElem? (i := 3) rfl)) (by decide) (by decide)) (g := (mkF m 54 #[.val (.long q0), .second, .val (.long q1), .second, .val (.long q2), .second, .val (.long q3), .second, .val (.int p4), .val (.long (q0 &&& (2305843009213693951 : Int64))), .second, .val (.long (q1 &&& (2305843009213693951 : Int64))), .second, .val (.long (q2 &&& (2305843009213693951 : Int64))), .second, .val (.long (q3 &&& (2305843009213693951 : Int64))), .second, .val (.int (2 : Int32)), .val (.int (0 : Int32)), .unset, .unset, .unset, .unset, .unset, .unset, .unset, .unset] [(.ref b135), (.ref b135)])) rfl (by rw [hml]; rfl) (Steps.refl _) (a := b135) (argsL := []) (rest := [(.ref b135)]) (lenOf pd_0 rfl) rfl (by show 2 * 0 + _ ≤ _; exact Nat.le_of_eq rfl) (hb hby at_54) (fun _ _ => ⟨rfl, e135, (by decide : 1 + 0 ≤ _), (by decide : 3 + 0 ≤ _)⟩)
      dsimp only [Pt.U, Pt.locs, Pt.cells, Pt.slots] at X141 l141 y141 z141 st141 hQ141
      subst l141 y141 z141
      obtain ⟨rfl, Nq141, hs141⟩ := hQ141
      have N142 := Fr.app N0 Nq141
      refine OFin.to (S' := T141.setTop (mkF m 57 #[.val (.long q0), .second, .val (.long q1), .second, .val (.long q2), .second, .val (.long q3), .second, .val (.int p4), .val (.long (q0 &&& (2305843009213693951 : Int64))), .second, .val (.long (q1 &&& (2305843009213693951 : Int64))), .second, .val (.long (q2 &&& (2305843009213693951 : Int64))), .second, .val (.long (q3 &&& (2305843009213693951 : Int64))), .second, .val (.int (2 : Int32)), .val (.int (0 : Int32)), .unset, .unset, .unset, .unset, .unset, .unset, .unset, .unset] [(.ref b135)])) st141 ?_
      refine OFin.of (S' := T141.setTop (mkF m 108 #[.val (.long q0), .second, .val (.long q1), .second, .val (.long q2), .second, .val (.long q3), .second, .val (.int p4), .val (.long (q0 &&& (2305843009213693951 : Int64))), .second, .val (.long (q1 &&& (2305843009213693951 : Int64))), .second, .val (.long (q2 &&& (2305843009213693951 : Int64))), .second, .val (.long (q3 &&& (2305843009213693951 : Int64))), .second, .val (.int (2 : Int32)), .val (.int (0 : Int32)), .val (.ref b135), .val (.int (1 : Int32)), .unset, .unset, .unset, .unset, .unset, .unset] [(.long (q0 &&& (2305843009213693951 : Int64))), (.ref b135)])) (fun t ht => ?_) ?_
      · refine XS.astore X141.here hx rfl (hb hby at_57) rfl rfl (l' := #[.val (.long q0), .second, .val (.long q1), .second, .val (.long q2), .second, .val (.long q3), .second, .val (.int p4), .val (.long (q0 &&& (2305843009213693951 : Int64))), .second, .val (.long (q1 &&& (2305843009213693951 : Int64))), .second, .val (.long (q2 &&& (2305843009213693951 : Int64))), .second, .val (.long (q3 &&& (2305843009213693951 : Int64))), .second, .val (.int (2 : Int32)), .val (.int (0 : Int32)), .val (.ref b135), .unset, .unset, .unset, .unset, .unset, .unset, .unset]) rfl ?_
        show Steps p.tables e below (T141.setTop (mkF m 59 #[.val (.long q0), .second, .val (.long q1), .second, .val (.long q2), .second, .val (.long q3), .second, .val (.int p4), .val (.long (q0 &&& (2305843009213693951 : Int64))), .second, .val (.long (q1 &&& (2305843009213693951 : Int64))), .second, .val (.long (q2 &&& (2305843009213693951 : Int64))), .second, .val (.long (q3 &&& (2305843009213693951 : Int64))), .second, .val (.int (2 : Int32)), .val (.int (0 : Int32)), .val (.ref b135), .unset, .unset, .unset, .unset, .unset, .unset, .unset] [])) _
        refine XS.iconst X141.here hx rfl (hb hby at_59) ?_
        show Steps p.tables e below (T141.setTop (mkF m 60 _ [(.int (1 : Int32))])) _
        refine XS.istore X141.here hx rfl (hb hby at_60) rfl (l' := #[.val (.long q0), .second, .val (.long q1), .second, .val (.long q2), .second, .val (.long q3), .second, .val (.int p4), .val (.long (q0 &&& (2305843009213693951 : Int64))), .second, .val (.long (q1 &&& (2305843009213693951 : Int64))), .second, .val (.long (q2 &&& (2305843009213693951 : Int64))), .second, .val (.long (q3 &&& (2305843009213693951 : Int64))), .second, .val (.int (2 : Int32)), .val (.int (0 : Int32)), .val (.ref b135), .val (.int (1 : Int32)), .unset, .unset, .unset, .unset, .unset, .unset]) rfl ?_
        show Steps p.tables e below (T141.setTop (mkF m 62 #[.val (.long q0), .second, .val (.long q1), .second, .val (.long q2), .second, .val (.long q3), .second, .val (.int p4), .val (.long (q0 &&& (2305843009213693951 : Int64))), .second, .val (.long (q1 &&& (2305843009213693951 : Int64))), .second, .val (.long (q2 &&& (2305843009213693951 : Int64))), .second, .val (.long (q3 &&& (2305843009213693951 : Int64))), .second, .val (.int (2 : Int32)), .val (.int (0 : Int32)), .val (.ref b135), .val (.int (1 : Int32)), .unset, .unset, .unset, .unset, .unset, .unset] [])) _
        refine XS.iload X141.here hx rfl (hb hby at_62) rfl ?_
        show Steps p.tables e below (T141.setTop (mkF m 64 _ [(.int (0 : Int32))])) _
        refine XS.ifYes X141.here hx rfl (pc0 := 64) (pc' := 98) rfl (hb hby at_64) rfl ((if0 _ _).trans (teq (by decide : (0 : Int32) = (0 : Int32))).1) (by decide) (by decide) ?_
        show Steps p.tables e below (T141.setTop (mkF m 98 _ [])) _
        refine XS.iload X141.here hx rfl (hb hby at_98) rfl ?_
        show Steps p.tables e below (T141.setTop (mkF m 100 _ [(.int (2 : Int32))])) _
        refine XS.iconst X141.here hx rfl (hb hby at_100) ?_
        show Steps p.tables e below (T141.setTop (mkF m 101 _ [(.int (1 : Int32)), (.int (2 : Int32))])) _
        refine XS.icmpNo X141.here hx rfl (hb hby at_101) rfl (flt (by decide : ¬ ((2 : Int32) < (1 : Int32)))).1 ?_
        show Steps p.tables e below (T141.setTop (mkF m 104 _ [])) _
        refine XS.aload X141.here hx rfl (hb hby at_104) rfl rfl ?_
        show Steps p.tables e below (T141.setTop (mkF m 106 _ [(.ref b135)])) _
        refine XS.lload X141.here hx rfl (hb hby at_106) rfl ?_
        exact ht
      obtain ⟨cq144, kq144, q144a, q144b, q144c⟩ := isOf hZ hs141 A135
      obtain ⟨_, _, ⟨T143, L143, k143, n143⟩, -, X143, ⟨Lc143, hQ143, l143, y143, z143⟩, st143⟩ := X141.virtualBack hx (y := (⟨"com/example/kindred_mesh/kindredmesh/peer/SearchTime", "served", "(J)V"⟩ : MethodName)) (z := (⟨"com/example/kindred_mesh/kindredmesh/peer/SearchTime", "served", "(J)V"⟩ : MethodName)) hown (mvT hZ (hw _ (List.mem_of_getElem? (i := 10) rfl))) (mvT hZ (hw _ (List.mem_of_getElem? (i := 11) rfl))) (notFace_of_selects (args := #[]) (mvT hZ (hw _ (List.mem_of_getElem? (i := 13) rfl)))) (mvT hZ (hw _ (List.mem_of_getElem? (i := 13) rfl))) (mvT hZ (hw _ (List.mem_of_getElem? (i := 12) rfl))) (by decide) (backOf (W := 0) (rmSv l Z _ hw [] b135 (q0 &&& (2305843009213693951 : Int64)) (0 : Int64) (0 : Int64) 0 h135 n0 Z137 A135 f138 f139 f140 g136) hZ (hw _ (List.mem_of_getElem? (i := 14) rfl)) (hw _ (List.mem_of_getElem? (i := 3) rfl)) (by decide) (by decide)) q144a q144c (g := (mkF m 108 #[.val (.long q0), .second, .val (.long q1), .second, .val (.long q2), .second, .val (.long q3), .second, .val (.int p4), .val (.long (q0 &&& (2305843009213693951 : Int64))), .second, .val (.long (q1 &&& (2305843009213693951 : Int64))), .second, .val (.long (q2 &&& (2305843009213693951 : Int64))), .second, .val (.long (q3 &&& (2305843009213693951 : Int64))), .second, .val (.int (2 : Int32)), .val (.int (0 : Int32)), .val (.ref b135), .val (.int (1 : Int32)), .unset, .unset, .unset, .unset, .unset, .unset] [(.long (q0 &&& (2305843009213693951 : Int64))), (.ref b135)])) rfl (by rw [hml]; rfl) (Steps.refl _) (argsL := [(.long (q0 &&& (2305843009213693951 : Int64)))]) (rest := []) (lenOf pd_2 rfl) rfl (by show 2 * 0 + _ ≤ _; exact Nat.le_of_eq rfl) (hb hby at_108) (fun _ _ => ⟨rfl, hs141, (by decide : 1 + 0 ≤ _), (by decide : 3 + 0 ≤ _)⟩)
      dsimp only [Pt.U, Pt.locs, Pt.cells, Pt.slots] at X143 l143 y143 z143 st143 hQ143
      subst l143 y143 z143
      obtain ⟨rfl, Nq143, Kq143, f145, f146, f147⟩ := hQ143
      have N148 := Fr.app N142 Nq143
      have f149 := (A135.keep Kq143)
      have Z150 : n0 ≤ T143.heap.size := (Nat.le_trans Z137 Kq143.1)
      refine OFin.to (S' := T143.setTop (mkF m 111 #[.val (.long q0), .second, .val (.long q1), .second, .val (.long q2), .second, .val (.long q3), .second, .val (.int p4), .val (.long (q0 &&& (2305843009213693951 : Int64))), .second, .val (.long (q1 &&& (2305843009213693951 : Int64))), .second, .val (.long (q2 &&& (2305843009213693951 : Int64))), .second, .val (.long (q3 &&& (2305843009213693951 : Int64))), .second, .val (.int (2 : Int32)), .val (.int (0 : Int32)), .val (.ref b135), .val (.int (1 : Int32)), .unset, .unset, .unset, .unset, .unset, .unset] [])) st143 ?_
      refine OFin.of (S' := T143.setTop (mkF m 121 #[.val (.long q0), .second, .val (.long q1), .second, .val (.long q2), .second, .val (.long q3), .second, .val (.int p4), .val (.long (q0 &&& (2305843009213693951 : Int64))), .second, .val (.long (q1 &&& (2305843009213693951 : Int64))), .second, .val (.long (q2 &&& (2305843009213693951 : Int64))), .second, .val (.long (q3 &&& (2305843009213693951 : Int64))), .second, .val (.int (2 : Int32)), .val (.int (0 : Int32)), .val (.ref b135), .val (.int (1 : Int32)), .unset, .unset, .unset, .unset, .unset, .unset] [(.long (q1 &&& (2305843009213693951 : Int64))), (.ref b135)])) (fun t ht => ?_) ?_
      · refine XS.iload X143.here hx rfl (hb hby at_111) rfl ?_
        show Steps p.tables e below (T143.setTop (mkF m 113 _ [(.int (2 : Int32))])) _
        refine XS.iconst X143.here hx rfl (hb hby at_113) ?_
        show Steps p.tables e below (T143.setTop (mkF m 114 _ [(.int (2 : Int32)), (.int (2 : Int32))])) _
        refine XS.icmpNo X143.here hx rfl (hb hby at_114) rfl (flt (by decide : ¬ ((2 : Int32) < (2 : Int32)))).1 ?_
        show Steps p.tables e below (T143.setTop (mkF m 117 _ [])) _
        refine XS.aload X143.here hx rfl (hb hby at_117) rfl rfl ?_
        show Steps p.tables e below (T143.setTop (mkF m 119 _ [(.ref b135)])) _
        refine XS.lload X143.here hx rfl (hb hby at_119) rfl ?_
        exact ht
      obtain ⟨cq152, kq152, q152a, q152b, q152c⟩ := isOf hZ (rfl : T143.heap = T143.heap) f149
      obtain ⟨_, _, ⟨T151, L151, k151, n151⟩, -, X151, ⟨Lc151, hQ151, l151, y151, z151⟩, st151⟩ := X143.virtualBack hx (y := (⟨"com/example/kindred_mesh/kindredmesh/peer/SearchTime", "served", "(J)V"⟩ : MethodName)) (z := (⟨"com/example/kindred_mesh/kindredmesh/peer/SearchTime", "served", "(J)V"⟩ : MethodName)) hown (mvT hZ (hw _ (List.mem_of_getElem? (i := 10) rfl))) (mvT hZ (hw _ (List.mem_of_getElem? (i := 11) rfl))) (notFace_of_selects (args := #[]) (mvT hZ (hw _ (List.mem_of_getElem? (i := 13) rfl)))) (mvT hZ (hw _ (List.mem_of_getElem? (i := 13) rfl))) (mvT hZ (hw _ (List.mem_of_getElem? (i := 12) rfl))) (by decide) (backOf (W := 0) (rmSv l Z _ hw [] b135 (q1 &&& (2305843009213693951 : Int64)) (1 : Int64) ((0 : Int64) + (q0 &&& (2305843009213693951 : Int64))) 0 T143.heap n0 Z150 f149 f145 f146 f147 g136) hZ (hw _ (List.mem_of_getElem? (i := 14) rfl)) (hw _ (List.mem_of_getElem? (i := 3) rfl)) (by decide) (by decide)) q152a q152c (g := (mkF m 121 #[.val (.long q0), .second, .val (.long q1), .second, .val (.long q2), .second, .val (.long q3), .second, .val (.int p4), .val (.long (q0 &&& (2305843009213693951 : Int64))), .second, .val (.long (q1 &&& (2305843009213693951 : Int64))), .second, .val (.long (q2 &&& (2305843009213693951 : Int64))), .second, .val (.long (q3 &&& (2305843009213693951 : Int64))), .second, .val (.int (2 : Int32)), .val (.int (0 : Int32)), .val (.ref b135), .val (.int (1 : Int32)), .unset, .unset, .unset, .unset, .unset, .unset] [(.long (q1 &&& (2305843009213693951 : Int64))), (.ref b135)])) rfl (by rw [hml]; rfl) (Steps.refl _) (argsL := [(.long (q1 &&& (2305843009213693951 : Int64)))]) (rest := []) (lenOf pd_2 rfl) rfl (by show 2 * 0 + _ ≤ _; exact Nat.le_of_eq rfl) (hb hby at_121) (fun _ _ => ⟨rfl, (rfl : T143.heap = T143.heap), (by decide : 1 + 0 ≤ _), (by decide : 3 + 0 ≤ _)⟩)
      dsimp only [Pt.U, Pt.locs, Pt.cells, Pt.slots] at X151 l151 y151 z151 st151 hQ151
      subst l151 y151 z151
      obtain ⟨rfl, Nq151, Kq151, f153, f154, f155⟩ := hQ151
      have N156 := Fr.app N148 Nq151
      have f157 := (f149.keep Kq151)
      have Z158 : n0 ≤ T151.heap.size := (Nat.le_trans Z150 Kq151.1)
      refine OFin.to (S' := T151.setTop (mkF m 124 #[.val (.long q0), .second, .val (.long q1), .second, .val (.long q2), .second, .val (.long q3), .second, .val (.int p4), .val (.long (q0 &&& (2305843009213693951 : Int64))), .second, .val (.long (q1 &&& (2305843009213693951 : Int64))), .second, .val (.long (q2 &&& (2305843009213693951 : Int64))), .second, .val (.long (q3 &&& (2305843009213693951 : Int64))), .second, .val (.int (2 : Int32)), .val (.int (0 : Int32)), .val (.ref b135), .val (.int (1 : Int32)), .unset, .unset, .unset, .unset, .unset, .unset] [])) st151 ?_
      refine OFin.of (S' := T151.setTop (mkF m 139 #[.val (.long q0), .second, .val (.long q1), .second, .val (.long q2), .second, .val (.long q3), .second, .val (.int p4), .val (.long (q0 &&& (2305843009213693951 : Int64))), .second, .val (.long (q1 &&& (2305843009213693951 : Int64))), .second, .val (.long (q2 &&& (2305843009213693951 : Int64))), .second, .val (.long (q3 &&& (2305843009213693951 : Int64))), .second, .val (.int (2 : Int32)), .val (.int (0 : Int32)), .val (.ref b135), .val (.int (1 : Int32)), .unset, .unset, .unset, .unset, .unset, .unset] [(.ref b135)])) (fun t ht => ?_) ?_
      · refine XS.iload X151.here hx rfl (hb hby at_124) rfl ?_
        show Steps p.tables e below (T151.setTop (mkF m 126 _ [(.int (2 : Int32))])) _
        refine XS.iconst X151.here hx rfl (hb hby at_126) ?_
        show Steps p.tables e below (T151.setTop (mkF m 127 _ [(.int (3 : Int32)), (.int (2 : Int32))])) _
        refine XS.icmpYes X151.here hx rfl (pc0 := 127) (pc' := 137) rfl (hb hby at_127) rfl (tlt (by decide : (2 : Int32) < (3 : Int32))).1 (by decide) (by decide) ?_
        show Steps p.tables e below (T151.setTop (mkF m 137 _ [])) _
        refine XS.aload X151.here hx rfl (hb hby at_137) rfl rfl ?_
        exact ht
      obtain ⟨cq160, kq160, q160a, q160b, q160c⟩ := isOf hZ (rfl : T151.heap = T151.heap) f157
      obtain ⟨_, _, ⟨T159, L159, k159, n159⟩, -, X159, ⟨Lc159, hQ159, l159, y159, z159⟩, st159⟩ := X151.virtualBack hx (y := (⟨"com/example/kindred_mesh/kindredmesh/peer/SearchTime", "newPeriod", "()V"⟩ : MethodName)) (z := (⟨"com/example/kindred_mesh/kindredmesh/peer/SearchTime", "newPeriod", "()V"⟩ : MethodName)) hown (mvT hZ (hw _ (List.mem_of_getElem? (i := 19) rfl))) (mvT hZ (hw _ (List.mem_of_getElem? (i := 20) rfl))) (notFace_of_selects (args := #[]) (mvT hZ (hw _ (List.mem_of_getElem? (i := 22) rfl)))) (mvT hZ (hw _ (List.mem_of_getElem? (i := 22) rfl))) (mvT hZ (hw _ (List.mem_of_getElem? (i := 21) rfl))) (by decide) (backOf (W := 0) (rmNp1 l Z _ hw [] b135 (2 : Int64) (((0 : Int64) + (q0 &&& (2305843009213693951 : Int64))) + (q1 &&& (2305843009213693951 : Int64))) 0 T151.heap n0 Z158 f157 f153 f154 f155 g136 (by decide) (own_nn _ (by decide))) hZ (hw _ (List.mem_of_getElem? (i := 23) rfl)) (hw _ (List.mem_of_getElem? (i := 3) rfl)) (by decide) (by decide)) q160a q160c (g := (mkF m 139 #[.val (.long q0), .second, .val (.long q1), .second, .val (.long q2), .second, .val (.long q3), .second, .val (.int p4), .val (.long (q0 &&& (2305843009213693951 : Int64))), .second, .val (.long (q1 &&& (2305843009213693951 : Int64))), .second, .val (.long (q2 &&& (2305843009213693951 : Int64))), .second, .val (.long (q3 &&& (2305843009213693951 : Int64))), .second, .val (.int (2 : Int32)), .val (.int (0 : Int32)), .val (.ref b135), .val (.int (1 : Int32)), .unset, .unset, .unset, .unset, .unset, .unset] [(.ref b135)])) rfl (by rw [hml]; rfl) (Steps.refl _) (argsL := []) (rest := []) (lenOf pd_0 rfl) rfl (by show 2 * 0 + _ ≤ _; exact Nat.le_of_eq rfl) (hb hby at_139) (fun _ _ => ⟨rfl, (rfl : T151.heap = T151.heap), (by decide : 1 + 0 ≤ _), (by decide : 3 + 0 ≤ _)⟩)
      dsimp only [Pt.U, Pt.locs, Pt.cells, Pt.slots] at X159 l159 y159 z159 st159 hQ159
      subst l159 y159 z159
      obtain ⟨rfl, Nq159, Kq159, f161, f162, f163⟩ := hQ159
      have N164 := Fr.app N156 Nq159
      have f165 := (f157.keep Kq159)
      have Z166 : n0 ≤ T159.heap.size := (Nat.le_trans Z158 Kq159.1)
      refine OFin.to (S' := T159.setTop (mkF m 142 #[.val (.long q0), .second, .val (.long q1), .second, .val (.long q2), .second, .val (.long q3), .second, .val (.int p4), .val (.long (q0 &&& (2305843009213693951 : Int64))), .second, .val (.long (q1 &&& (2305843009213693951 : Int64))), .second, .val (.long (q2 &&& (2305843009213693951 : Int64))), .second, .val (.long (q3 &&& (2305843009213693951 : Int64))), .second, .val (.int (2 : Int32)), .val (.int (0 : Int32)), .val (.ref b135), .val (.int (1 : Int32)), .unset, .unset, .unset, .unset, .unset, .unset] [])) st159 ?_
      refine OFin.of (S' := T159.setTop (mkF m 202 #[.val (.long q0), .second, .val (.long q1), .second, .val (.long q2), .second, .val (.long q3), .second, .val (.int p4), .val (.long (q0 &&& (2305843009213693951 : Int64))), .second, .val (.long (q1 &&& (2305843009213693951 : Int64))), .second, .val (.long (q2 &&& (2305843009213693951 : Int64))), .second, .val (.long (q3 &&& (2305843009213693951 : Int64))), .second, .val (.int (2 : Int32)), .val (.int (0 : Int32)), .val (.ref b135), .val (.int (1 : Int32)), .val (.long (((q0 &&& (2305843009213693951 : Int64)) + (q1 &&& (2305843009213693951 : Int64))) + (0 : Int64))), .second, .val (.double (FP.ddiv (FP.l2d (((q0 &&& (2305843009213693951 : Int64)) + (q1 &&& (2305843009213693951 : Int64))) + (0 : Int64))) (FP.i2d (2 : Int32)))), .second, .unset, .unset] [(.ref b135)])) (fun t ht => ?_) ?_
      · refine XS.iload X159.here hx rfl (hb hby at_142) rfl ?_
        show Steps p.tables e below (T159.setTop (mkF m 144 _ [(.int (2 : Int32))])) _
        refine XS.iconst X159.here hx rfl (hb hby at_144) ?_
        show Steps p.tables e below (T159.setTop (mkF m 145 _ [(.int (1 : Int32)), (.int (2 : Int32))])) _
        refine XS.icmpNo X159.here hx rfl (hb hby at_145) rfl (flt (by decide : ¬ ((2 : Int32) < (1 : Int32)))).1 ?_
        show Steps p.tables e below (T159.setTop (mkF m 148 _ [])) _
        refine XS.lload X159.here hx rfl (hb hby at_148) rfl ?_
        show Steps p.tables e below (T159.setTop (mkF m 150 _ [(.long (q0 &&& (2305843009213693951 : Int64)))])) _
        refine XS.goto X159.here hx rfl (pc0 := 150) (pc' := 154) rfl (hb hby at_150) (by decide) (by decide) ?_
        show Steps p.tables e below (T159.setTop (mkF m 154 _ [(.long (q0 &&& (2305843009213693951 : Int64)))])) _
        refine XS.iload X159.here hx rfl (hb hby at_154) rfl ?_
        show Steps p.tables e below (T159.setTop (mkF m 156 _ [(.int (2 : Int32)), (.long (q0 &&& (2305843009213693951 : Int64)))])) _
        refine XS.iconst X159.here hx rfl (hb hby at_156) ?_
        show Steps p.tables e below (T159.setTop (mkF m 157 _ [(.int (2 : Int32)), (.int (2 : Int32)), (.long (q0 &&& (2305843009213693951 : Int64)))])) _
        refine XS.icmpNo X159.here hx rfl (hb hby at_157) rfl (flt (by decide : ¬ ((2 : Int32) < (2 : Int32)))).1 ?_
        show Steps p.tables e below (T159.setTop (mkF m 160 _ [(.long (q0 &&& (2305843009213693951 : Int64)))])) _
        refine XS.lload X159.here hx rfl (hb hby at_160) rfl ?_
        show Steps p.tables e below (T159.setTop (mkF m 162 _ [(.long (q1 &&& (2305843009213693951 : Int64))), (.long (q0 &&& (2305843009213693951 : Int64)))])) _
        refine XS.goto X159.here hx rfl (pc0 := 162) (pc' := 166) rfl (hb hby at_162) (by decide) (by decide) ?_
        show Steps p.tables e below (T159.setTop (mkF m 166 _ [(.long (q1 &&& (2305843009213693951 : Int64))), (.long (q0 &&& (2305843009213693951 : Int64)))])) _
        refine XS.ladd X159.here hx rfl (hb hby at_166) rfl ?_
        show Steps p.tables e below (T159.setTop (mkF m 167 _ [(.long ((q0 &&& (2305843009213693951 : Int64)) + (q1 &&& (2305843009213693951 : Int64))))])) _
        refine XS.iload X159.here hx rfl (hb hby at_167) rfl ?_
        show Steps p.tables e below (T159.setTop (mkF m 169 _ [(.int (2 : Int32)), (.long ((q0 &&& (2305843009213693951 : Int64)) + (q1 &&& (2305843009213693951 : Int64))))])) _
        refine XS.iconst X159.here hx rfl (hb hby at_169) ?_
        show Steps p.tables e below (T159.setTop (mkF m 170 _ [(.int (3 : Int32)), (.int (2 : Int32)), (.long ((q0 &&& (2305843009213693951 : Int64)) + (q1 &&& (2305843009213693951 : Int64))))])) _
        refine XS.icmpYes X159.here hx rfl (pc0 := 170) (pc' := 178) rfl (hb hby at_170) rfl (tlt (by decide : (2 : Int32) < (3 : Int32))).1 (by decide) (by decide) ?_
        show Steps p.tables e below (T159.setTop (mkF m 178 _ [(.long ((q0 &&& (2305843009213693951 : Int64)) + (q1 &&& (2305843009213693951 : Int64))))])) _
        refine XS.lconst X159.here hx rfl (hb hby at_178) ?_
        show Steps p.tables e below (T159.setTop (mkF m 179 _ [(.long (0 : Int64)), (.long ((q0 &&& (2305843009213693951 : Int64)) + (q1 &&& (2305843009213693951 : Int64))))])) _
        refine XS.ladd X159.here hx rfl (hb hby at_179) rfl ?_
        show Steps p.tables e below (T159.setTop (mkF m 180 _ [(.long (((q0 &&& (2305843009213693951 : Int64)) + (q1 &&& (2305843009213693951 : Int64))) + (0 : Int64)))])) _
        refine XS.lstore X159.here hx rfl (hb hby at_180) rfl (l' := #[.val (.long q0), .second, .val (.long q1), .second, .val (.long q2), .second, .val (.long q3), .second, .val (.int p4), .val (.long (q0 &&& (2305843009213693951 : Int64))), .second, .val (.long (q1 &&& (2305843009213693951 : Int64))), .second, .val (.long (q2 &&& (2305843009213693951 : Int64))), .second, .val (.long (q3 &&& (2305843009213693951 : Int64))), .second, .val (.int (2 : Int32)), .val (.int (0 : Int32)), .val (.ref b135), .val (.int (1 : Int32)), .val (.long (((q0 &&& (2305843009213693951 : Int64)) + (q1 &&& (2305843009213693951 : Int64))) + (0 : Int64))), .second, .unset, .unset, .unset, .unset]) rfl ?_
        show Steps p.tables e below (T159.setTop (mkF m 182 #[.val (.long q0), .second, .val (.long q1), .second, .val (.long q2), .second, .val (.long q3), .second, .val (.int p4), .val (.long (q0 &&& (2305843009213693951 : Int64))), .second, .val (.long (q1 &&& (2305843009213693951 : Int64))), .second, .val (.long (q2 &&& (2305843009213693951 : Int64))), .second, .val (.long (q3 &&& (2305843009213693951 : Int64))), .second, .val (.int (2 : Int32)), .val (.int (0 : Int32)), .val (.ref b135), .val (.int (1 : Int32)), .val (.long (((q0 &&& (2305843009213693951 : Int64)) + (q1 &&& (2305843009213693951 : Int64))) + (0 : Int64))), .second, .unset, .unset, .unset, .unset] [])) _
        refine XS.iload X159.here hx rfl (hb hby at_182) rfl ?_
        show Steps p.tables e below (T159.setTop (mkF m 184 _ [(.int (2 : Int32))])) _
        refine XS.ifYes X159.here hx rfl (pc0 := 184) (pc' := 191) rfl (hb hby at_184) rfl ((if0 _ _).trans (feq (by decide : ¬ ((2 : Int32) = (0 : Int32)))).2) (by decide) (by decide) ?_
        show Steps p.tables e below (T159.setTop (mkF m 191 _ [])) _
        refine XS.lload X159.here hx rfl (hb hby at_191) rfl ?_
        show Steps p.tables e below (T159.setTop (mkF m 193 _ [(.long (((q0 &&& (2305843009213693951 : Int64)) + (q1 &&& (2305843009213693951 : Int64))) + (0 : Int64)))])) _
        refine XS.l2dS X159.here hx rfl (hb hby at_193) rfl rfl ?_
        show Steps p.tables e below (T159.setTop (mkF m 194 _ [(.double (FP.l2d (((q0 &&& (2305843009213693951 : Int64)) + (q1 &&& (2305843009213693951 : Int64))) + (0 : Int64))))])) _
        refine XS.iload X159.here hx rfl (hb hby at_194) rfl ?_
        show Steps p.tables e below (T159.setTop (mkF m 196 _ [(.int (2 : Int32)), (.double (FP.l2d (((q0 &&& (2305843009213693951 : Int64)) + (q1 &&& (2305843009213693951 : Int64))) + (0 : Int64))))])) _
        refine XS.i2dS X159.here hx rfl (hb hby at_196) rfl rfl ?_
        show Steps p.tables e below (T159.setTop (mkF m 197 _ [(.double (FP.i2d (2 : Int32))), (.double (FP.l2d (((q0 &&& (2305843009213693951 : Int64)) + (q1 &&& (2305843009213693951 : Int64))) + (0 : Int64))))])) _
        refine XS.ddivS X159.here hx rfl (hb hby at_197) rfl (own_nni _ (by decide)) rfl ?_
        show Steps p.tables e below (T159.setTop (mkF m 198 _ [(.double (FP.ddiv (FP.l2d (((q0 &&& (2305843009213693951 : Int64)) + (q1 &&& (2305843009213693951 : Int64))) + (0 : Int64))) (FP.i2d (2 : Int32))))])) _
        refine XS.dstore X159.here hx rfl (hb hby at_198) rfl (l' := #[.val (.long q0), .second, .val (.long q1), .second, .val (.long q2), .second, .val (.long q3), .second, .val (.int p4), .val (.long (q0 &&& (2305843009213693951 : Int64))), .second, .val (.long (q1 &&& (2305843009213693951 : Int64))), .second, .val (.long (q2 &&& (2305843009213693951 : Int64))), .second, .val (.long (q3 &&& (2305843009213693951 : Int64))), .second, .val (.int (2 : Int32)), .val (.int (0 : Int32)), .val (.ref b135), .val (.int (1 : Int32)), .val (.long (((q0 &&& (2305843009213693951 : Int64)) + (q1 &&& (2305843009213693951 : Int64))) + (0 : Int64))), .second, .val (.double (FP.ddiv (FP.l2d (((q0 &&& (2305843009213693951 : Int64)) + (q1 &&& (2305843009213693951 : Int64))) + (0 : Int64))) (FP.i2d (2 : Int32)))), .second, .unset, .unset]) rfl ?_
        show Steps p.tables e below (T159.setTop (mkF m 200 #[.val (.long q0), .second, .val (.long q1), .second, .val (.long q2), .second, .val (.long q3), .second, .val (.int p4), .val (.long (q0 &&& (2305843009213693951 : Int64))), .second, .val (.long (q1 &&& (2305843009213693951 : Int64))), .second, .val (.long (q2 &&& (2305843009213693951 : Int64))), .second, .val (.long (q3 &&& (2305843009213693951 : Int64))), .second, .val (.int (2 : Int32)), .val (.int (0 : Int32)), .val (.ref b135), .val (.int (1 : Int32)), .val (.long (((q0 &&& (2305843009213693951 : Int64)) + (q1 &&& (2305843009213693951 : Int64))) + (0 : Int64))), .second, .val (.double (FP.ddiv (FP.l2d (((q0 &&& (2305843009213693951 : Int64)) + (q1 &&& (2305843009213693951 : Int64))) + (0 : Int64))) (FP.i2d (2 : Int32)))), .second, .unset, .unset] [])) _
        refine XS.aload X159.here hx rfl (hb hby at_200) rfl rfl ?_
        exact ht
      obtain ⟨cq168, kq168, q168a, q168b, q168c⟩ := isOf hZ (rfl : T159.heap = T159.heap) f165
      obtain ⟨_, _, ⟨T167, L167, k167, n167⟩, -, X167, ⟨Lc167, hQ167, l167, y167, z167⟩, st167⟩ := X159.virtualBack hx (y := (⟨"com/example/kindred_mesh/kindredmesh/peer/SearchTime", "lastMean", "()D"⟩ : MethodName)) (z := (⟨"com/example/kindred_mesh/kindredmesh/peer/SearchTime", "lastMean", "()D"⟩ : MethodName)) hown (mvT hZ (hw _ (List.mem_of_getElem? (i := 26) rfl))) (mvT hZ (hw _ (List.mem_of_getElem? (i := 27) rfl))) (notFace_of_selects (args := #[]) (mvT hZ (hw _ (List.mem_of_getElem? (i := 29) rfl)))) (mvT hZ (hw _ (List.mem_of_getElem? (i := 29) rfl))) (mvT hZ (hw _ (List.mem_of_getElem? (i := 28) rfl))) (by decide) (backOf (W := 0) (rmLm l Z _ hw [] b135 (FP.ddiv (FP.l2d (((0 : Int64) + (q0 &&& (2305843009213693951 : Int64))) + (q1 &&& (2305843009213693951 : Int64)))) (FP.l2d (2 : Int64))) T159.heap n0 Z166 f163) hZ (hw _ (List.mem_of_getElem? (i := 30) rfl)) (hw _ (List.mem_of_getElem? (i := 3) rfl)) (by decide) (by decide)) q168a q168c (g := (mkF m 202 #[.val (.long q0), .second, .val (.long q1), .second, .val (.long q2), .second, .val (.long q3), .second, .val (.int p4), .val (.long (q0 &&& (2305843009213693951 : Int64))), .second, .val (.long (q1 &&& (2305843009213693951 : Int64))), .second, .val (.long (q2 &&& (2305843009213693951 : Int64))), .second, .val (.long (q3 &&& (2305843009213693951 : Int64))), .second, .val (.int (2 : Int32)), .val (.int (0 : Int32)), .val (.ref b135), .val (.int (1 : Int32)), .val (.long (((q0 &&& (2305843009213693951 : Int64)) + (q1 &&& (2305843009213693951 : Int64))) + (0 : Int64))), .second, .val (.double (FP.ddiv (FP.l2d (((q0 &&& (2305843009213693951 : Int64)) + (q1 &&& (2305843009213693951 : Int64))) + (0 : Int64))) (FP.i2d (2 : Int32)))), .second, .unset, .unset] [(.ref b135)])) rfl (by rw [hml]; rfl) (Steps.refl _) (argsL := []) (rest := []) (lenOf pd_1 rfl) rfl (by show 2 * 0 + _ ≤ _; exact Nat.le_of_eq rfl) (hb hby at_202) (fun _ _ => ⟨rfl, (rfl : T159.heap = T159.heap), (by decide : 1 + 0 ≤ _), (by decide : 3 + 0 ≤ _)⟩)
      dsimp only [Pt.U, Pt.locs, Pt.cells, Pt.slots] at X167 l167 y167 z167 st167 hQ167
      subst l167 y167 z167
      obtain ⟨rfl, Nq167, hs167⟩ := hQ167
      have N169 := Fr.app N164 Nq167
      refine OFin.to (S' := T167.setTop (mkF m 205 #[.val (.long q0), .second, .val (.long q1), .second, .val (.long q2), .second, .val (.long q3), .second, .val (.int p4), .val (.long (q0 &&& (2305843009213693951 : Int64))), .second, .val (.long (q1 &&& (2305843009213693951 : Int64))), .second, .val (.long (q2 &&& (2305843009213693951 : Int64))), .second, .val (.long (q3 &&& (2305843009213693951 : Int64))), .second, .val (.int (2 : Int32)), .val (.int (0 : Int32)), .val (.ref b135), .val (.int (1 : Int32)), .val (.long (((q0 &&& (2305843009213693951 : Int64)) + (q1 &&& (2305843009213693951 : Int64))) + (0 : Int64))), .second, .val (.double (FP.ddiv (FP.l2d (((q0 &&& (2305843009213693951 : Int64)) + (q1 &&& (2305843009213693951 : Int64))) + (0 : Int64))) (FP.i2d (2 : Int32)))), .second, .unset, .unset] [(.double (FP.ddiv (FP.l2d (((0 : Int64) + (q0 &&& (2305843009213693951 : Int64))) + (q1 &&& (2305843009213693951 : Int64)))) (FP.l2d (2 : Int64))))])) st167 ?_
      refine OFin.of (S' := T167.setTop (mkF m 232 #[.val (.long q0), .second, .val (.long q1), .second, .val (.long q2), .second, .val (.long q3), .second, .val (.int p4), .val (.long (q0 &&& (2305843009213693951 : Int64))), .second, .val (.long (q1 &&& (2305843009213693951 : Int64))), .second, .val (.long (q2 &&& (2305843009213693951 : Int64))), .second, .val (.long (q3 &&& (2305843009213693951 : Int64))), .second, .val (.int (2 : Int32)), .val (.int (0 : Int32)), .val (.ref b135), .val (.int (1 : Int32)), .val (.long (((q0 &&& (2305843009213693951 : Int64)) + (q1 &&& (2305843009213693951 : Int64))) + (0 : Int64))), .second, .val (.double (FP.ddiv (FP.l2d (((q0 &&& (2305843009213693951 : Int64)) + (q1 &&& (2305843009213693951 : Int64))) + (0 : Int64))) (FP.i2d (2 : Int32)))), .second, .val (.double (FP.ddiv (FP.l2d (((0 : Int64) + (q0 &&& (2305843009213693951 : Int64))) + (q1 &&& (2305843009213693951 : Int64)))) (FP.l2d (2 : Int64)))), .second] [(.int (1 : Int32))])) (fun t ht => ?_) ?_
      · refine XS.dstore X167.here hx rfl (hb hby at_205) rfl (l' := #[.val (.long q0), .second, .val (.long q1), .second, .val (.long q2), .second, .val (.long q3), .second, .val (.int p4), .val (.long (q0 &&& (2305843009213693951 : Int64))), .second, .val (.long (q1 &&& (2305843009213693951 : Int64))), .second, .val (.long (q2 &&& (2305843009213693951 : Int64))), .second, .val (.long (q3 &&& (2305843009213693951 : Int64))), .second, .val (.int (2 : Int32)), .val (.int (0 : Int32)), .val (.ref b135), .val (.int (1 : Int32)), .val (.long (((q0 &&& (2305843009213693951 : Int64)) + (q1 &&& (2305843009213693951 : Int64))) + (0 : Int64))), .second, .val (.double (FP.ddiv (FP.l2d (((q0 &&& (2305843009213693951 : Int64)) + (q1 &&& (2305843009213693951 : Int64))) + (0 : Int64))) (FP.i2d (2 : Int32)))), .second, .val (.double (FP.ddiv (FP.l2d (((0 : Int64) + (q0 &&& (2305843009213693951 : Int64))) + (q1 &&& (2305843009213693951 : Int64)))) (FP.l2d (2 : Int64)))), .second]) rfl ?_
        show Steps p.tables e below (T167.setTop (mkF m 207 #[.val (.long q0), .second, .val (.long q1), .second, .val (.long q2), .second, .val (.long q3), .second, .val (.int p4), .val (.long (q0 &&& (2305843009213693951 : Int64))), .second, .val (.long (q1 &&& (2305843009213693951 : Int64))), .second, .val (.long (q2 &&& (2305843009213693951 : Int64))), .second, .val (.long (q3 &&& (2305843009213693951 : Int64))), .second, .val (.int (2 : Int32)), .val (.int (0 : Int32)), .val (.ref b135), .val (.int (1 : Int32)), .val (.long (((q0 &&& (2305843009213693951 : Int64)) + (q1 &&& (2305843009213693951 : Int64))) + (0 : Int64))), .second, .val (.double (FP.ddiv (FP.l2d (((q0 &&& (2305843009213693951 : Int64)) + (q1 &&& (2305843009213693951 : Int64))) + (0 : Int64))) (FP.i2d (2 : Int32)))), .second, .val (.double (FP.ddiv (FP.l2d (((0 : Int64) + (q0 &&& (2305843009213693951 : Int64))) + (q1 &&& (2305843009213693951 : Int64)))) (FP.l2d (2 : Int64)))), .second] [])) _
        refine XS.iload X167.here hx rfl (hb hby at_207) rfl ?_
        show Steps p.tables e below (T167.setTop (mkF m 209 _ [(.int (1 : Int32))])) _
        refine XS.ifNo X167.here hx rfl (hb hby at_209) rfl ((if0 _ _).trans (feq (by decide : ¬ ((1 : Int32) = (0 : Int32)))).1) ?_
        show Steps p.tables e below (T167.setTop (mkF m 212 _ [])) _
        refine XS.dload X167.here hx rfl (hb hby at_212) rfl ?_
        show Steps p.tables e below (T167.setTop (mkF m 214 _ [(.double (FP.ddiv (FP.l2d (((0 : Int64) + (q0 &&& (2305843009213693951 : Int64))) + (q1 &&& (2305843009213693951 : Int64)))) (FP.l2d (2 : Int64))))])) _
        refine XS.dload X167.here hx rfl (hb hby at_214) rfl ?_
        show Steps p.tables e below (T167.setTop (mkF m 216 _ [(.double (FP.ddiv (FP.l2d (((q0 &&& (2305843009213693951 : Int64)) + (q1 &&& (2305843009213693951 : Int64))) + (0 : Int64))) (FP.i2d (2 : Int32)))), (.double (FP.ddiv (FP.l2d (((0 : Int64) + (q0 &&& (2305843009213693951 : Int64))) + (q1 &&& (2305843009213693951 : Int64)))) (FP.l2d (2 : Int64))))])) _
        refine XS.dcmpS X167.here hx rfl (hb hby at_216) rfl rfl ?_
        show Steps p.tables e below (T167.setTop (mkF m 217 _ [(.int (cmpValue (FP.dcmp (FP.ddiv (FP.l2d (((0 : Int64) + (q0 &&& (2305843009213693951 : Int64))) + (q1 &&& (2305843009213693951 : Int64)))) (FP.l2d (2 : Int64))) (FP.ddiv (FP.l2d (((q0 &&& (2305843009213693951 : Int64)) + (q1 &&& (2305843009213693951 : Int64))) + (0 : Int64))) (FP.i2d (2 : Int32)))) .l))])) _
        refine XS.ifNo X167.here hx rfl (hb hby at_217) rfl ((if0 _ _).trans (teq (dcmpV_eq (own_e2 _ _) (own_nn _ (by decide)) .l : (cmpValue (FP.dcmp (FP.ddiv (FP.l2d (((0 : Int64) + (q0 &&& (2305843009213693951 : Int64))) + (q1 &&& (2305843009213693951 : Int64)))) (FP.l2d (2 : Int64))) (FP.ddiv (FP.l2d (((q0 &&& (2305843009213693951 : Int64)) + (q1 &&& (2305843009213693951 : Int64))) + (0 : Int64))) (FP.i2d (2 : Int32)))) .l) = (0 : Int32))).2) ?_
        show Steps p.tables e below (T167.setTop (mkF m 220 _ [])) _
        refine XS.dload X167.here hx rfl (hb hby at_220) rfl ?_
        show Steps p.tables e below (T167.setTop (mkF m 222 _ [(.double (FP.ddiv (FP.l2d (((0 : Int64) + (q0 &&& (2305843009213693951 : Int64))) + (q1 &&& (2305843009213693951 : Int64)))) (FP.l2d (2 : Int64))))])) _
        refine XS.dconst0 X167.here hx rfl (hb hby at_222) rfl ?_
        show Steps p.tables e below (T167.setTop (mkF m 223 _ [(.double FP.dconst0), (.double (FP.ddiv (FP.l2d (((0 : Int64) + (q0 &&& (2305843009213693951 : Int64))) + (q1 &&& (2305843009213693951 : Int64)))) (FP.l2d (2 : Int64))))])) _
        refine XS.dcmpS X167.here hx rfl (hb hby at_223) rfl rfl ?_
        show Steps p.tables e below (T167.setTop (mkF m 224 _ [(.int (cmpValue (FP.dcmp (FP.ddiv (FP.l2d (((0 : Int64) + (q0 &&& (2305843009213693951 : Int64))) + (q1 &&& (2305843009213693951 : Int64)))) (FP.l2d (2 : Int64))) FP.dconst0) .l))])) _
        refine XS.ifNo X167.here hx rfl (hb hby at_224) rfl ((if0 _ _).trans (flt (own_ge0 (own_p2 _ _) (by decide) : ¬ ((cmpValue (FP.dcmp (FP.ddiv (FP.l2d (((0 : Int64) + (q0 &&& (2305843009213693951 : Int64))) + (q1 &&& (2305843009213693951 : Int64)))) (FP.l2d (2 : Int64))) FP.dconst0) .l) < (0 : Int32)))).1) ?_
        show Steps p.tables e below (T167.setTop (mkF m 227 _ [])) _
        refine XS.iconst X167.here hx rfl (hb hby at_227) ?_
        show Steps p.tables e below (T167.setTop (mkF m 228 _ [(.int (1 : Int32))])) _
        refine XS.goto X167.here hx rfl (pc0 := 228) (pc' := 232) rfl (hb hby at_228) (by decide) (by decide) ?_
        exact ht
      exact OFin.retB X167 hx hlk (t := .boolean) (by simp) hret (hb hby at_232) (by decide) (by decide) (by rw [hs167]; exact ⟨rfl, N169⟩)
    · refine OFin.of (S' := s₁.setTop (mkF m 50 #[.val (.long q0), .second, .val (.long q1), .second, .val (.long q2), .second, .val (.long q3), .second, .val (.int p4), .val (.long (q0 &&& (2305843009213693951 : Int64))), .second, .val (.long (q1 &&& (2305843009213693951 : Int64))), .second, .val (.long (q2 &&& (2305843009213693951 : Int64))), .second, .val (.long (q3 &&& (2305843009213693951 : Int64))), .second, .val (.int (2 : Int32)), .val (.int (1 : Int32)), .unset, .unset, .unset, .unset, .unset, .unset, .unset, .unset] [])) (fun t ht => ?_) ?_
      · refine XS.ifNo X0.here hx rfl (hb hby at_40) rfl ((if0 _ _).trans (feq (hc134 : ¬ ((p4 &&& (4 : Int32)) = (0 : Int32)))).1) ?_
        show Steps p.tables e below (s₁.setTop (mkF m 43 _ [])) _
        refine XS.iconst X0.here hx rfl (hb hby at_43) ?_
        show Steps p.tables e below (s₁.setTop (mkF m 44 _ [(.int (1 : Int32))])) _
        refine XS.goto X0.here hx rfl (pc0 := 44) (pc' := 48) rfl (hb hby at_44) (by decide) (by decide) ?_
        show Steps p.tables e below (s₁.setTop (mkF m 48 _ [(.int (1 : Int32))])) _
        refine XS.istore X0.here hx rfl (hb hby at_48) rfl (l' := #[.val (.long q0), .second, .val (.long q1), .second, .val (.long q2), .second, .val (.long q3), .second, .val (.int p4), .val (.long (q0 &&& (2305843009213693951 : Int64))), .second, .val (.long (q1 &&& (2305843009213693951 : Int64))), .second, .val (.long (q2 &&& (2305843009213693951 : Int64))), .second, .val (.long (q3 &&& (2305843009213693951 : Int64))), .second, .val (.int (2 : Int32)), .val (.int (1 : Int32)), .unset, .unset, .unset, .unset, .unset, .unset, .unset, .unset]) rfl ?_
        exact ht
      obtain ⟨T170, h170, X170, e170, E170, A170, D170, -, st170⟩ := newO X0 hx hZ hown (hw _ (List.mem_of_getElem? (i := 1) rfl)) (hw _ (List.mem_of_getElem? (i := 2) rfl)) (hw _ (List.mem_of_getElem? (i := 3) rfl)) e0 (g := (mkF m 50 #[.val (.long q0), .second, .val (.long q1), .second, .val (.long q2), .second, .val (.long q3), .second, .val (.int p4), .val (.long (q0 &&& (2305843009213693951 : Int64))), .second, .val (.long (q1 &&& (2305843009213693951 : Int64))), .second, .val (.long (q2 &&& (2305843009213693951 : Int64))), .second, .val (.long (q3 &&& (2305843009213693951 : Int64))), .second, .val (.int (2 : Int32)), .val (.int (1 : Int32)), .unset, .unset, .unset, .unset, .unset, .unset, .unset, .unset] [])) rfl (hb hby at_50) (by decide) (by decide)
      obtain ⟨b170, gq170⟩ : ∃ z, z = h0.size := ⟨_, rfl⟩
      rw [← gq170] at A170 D170 st170
      have g171 : n0 ≤ b170 := (Nat.le_trans Z0 (Nat.le_of_eq gq170.symm))
      have Z172 : n0 ≤ h170.size := (Nat.le_trans Z0 E170.1)
      have f173 : Fld Z h170 b170 "com/example/kindred_mesh/kindredmesh/peer/SearchTime" "served" "J" (.long (0 : Int64)) := D170 (Or.inl (hw _ (List.mem_of_getElem? (i := 16) rfl))) (ty := .long) (by decide)
      have f174 : Fld Z h170 b170 "com/example/kindred_mesh/kindredmesh/peer/SearchTime" "total" "J" (.long (0 : Int64)) := D170 (Or.inl (hw _ (List.mem_of_getElem? (i := 18) rfl))) (ty := .long) (by decide)
      have f175 : Fld Z h170 b170 "com/example/kindred_mesh/kindredmesh/peer/SearchTime" "lastMean" "D" (.double 0) := D170 (Or.inl (hw _ (List.mem_of_getElem? (i := 25) rfl))) (ty := .double) (by decide)
      refine OFin.of (S' := T170.setTop (mkF m 53 #[.val (.long q0), .second, .val (.long q1), .second, .val (.long q2), .second, .val (.long q3), .second, .val (.int p4), .val (.long (q0 &&& (2305843009213693951 : Int64))), .second, .val (.long (q1 &&& (2305843009213693951 : Int64))), .second, .val (.long (q2 &&& (2305843009213693951 : Int64))), .second, .val (.long (q3 &&& (2305843009213693951 : Int64))), .second, .val (.int (2 : Int32)), .val (.int (1 : Int32)), .unset, .unset, .unset, .unset, .unset, .unset, .unset, .unset] [(.ref b170)])) (fun t ht => st170 t ht) ?_
      refine OFin.of (S' := T170.setTop (mkF m 54 #[.val (.long q0), .second, .val (.long q1), .second, .val (.long q2), .second, .val (.long q3), .second, .val (.int p4), .val (.long (q0 &&& (2305843009213693951 : Int64))), .second, .val (.long (q1 &&& (2305843009213693951 : Int64))), .second, .val (.long (q2 &&& (2305843009213693951 : Int64))), .second, .val (.long (q3 &&& (2305843009213693951 : Int64))), .second, .val (.int (2 : Int32)), .val (.int (1 : Int32)), .unset, .unset, .unset, .unset, .unset, .unset, .unset, .unset] [(.ref b170), (.ref b170)])) (fun t ht => ?_) ?_
      · refine XS.dup X170.here hx rfl (hb hby at_53) rfl rfl ?_
        exact ht
      obtain ⟨_, _, ⟨T176, L176, k176, n176⟩, -, X176, ⟨Lc176, hQ176, l176, y176, z176⟩, st176⟩ := X170.specialBack hx (y := (⟨"com/example/kindred_mesh/kindredmesh/peer/SearchTime", "<init>", "()V"⟩ : MethodName)) rfl hown (mvT hZ (hw _ (List.mem_of_getElem? (i := 4) rfl))) (mvT hZ (hw _ (List.mem_of_getElem? (i := 5) rfl))) (mvT hZ (hw _ (List.mem_of_getElem? (i := 6) rfl))) (by decide) (backOf (W := 1) (rmIni l Z _ hw [] b170 h170 n0 Z172 ) hZ (hw _ (List.mem_of_getElem? (i := 6) rfl)) (hw _ (List.mem_of_getElem? (i := 3) rfl)) (by decide) (by decide)) (g := (mkF m 54 #[.val (.long q0), .second, .val (.long q1), .second, .val (.long q2), .second, .val (.long q3), .second, .val (.int p4), .val (.long (q0 &&& (2305843009213693951 : Int64))), .second, .val (.long (q1 &&& (2305843009213693951 : Int64))), .second, .val (.long (q2 &&& (2305843009213693951 : Int64))), .second, .val (.long (q3 &&& (2305843009213693951 : Int64))), .second, .val (.int (2 : Int32)), .val (.int (1 : Int32)), .unset, .unset, .unset, .unset, .unset, .unset, .unset, .unset] [(.ref b170), (.ref b170)])) rfl (by rw [hml]; rfl) (Steps.refl _) (a := b170) (argsL := []) (rest := [(.ref b170)]) (lenOf pd_0 rfl) rfl (by show 2 * 0 + _ ≤ _; exact Nat.le_of_eq rfl) (hb hby at_54) (fun _ _ => ⟨rfl, e170, (by decide : 1 + 0 ≤ _), (by decide : 3 + 0 ≤ _)⟩)
      dsimp only [Pt.U, Pt.locs, Pt.cells, Pt.slots] at X176 l176 y176 z176 st176 hQ176
      subst l176 y176 z176
      obtain ⟨rfl, Nq176, hs176⟩ := hQ176
      have N177 := Fr.app N0 Nq176
      refine OFin.to (S' := T176.setTop (mkF m 57 #[.val (.long q0), .second, .val (.long q1), .second, .val (.long q2), .second, .val (.long q3), .second, .val (.int p4), .val (.long (q0 &&& (2305843009213693951 : Int64))), .second, .val (.long (q1 &&& (2305843009213693951 : Int64))), .second, .val (.long (q2 &&& (2305843009213693951 : Int64))), .second, .val (.long (q3 &&& (2305843009213693951 : Int64))), .second, .val (.int (2 : Int32)), .val (.int (1 : Int32)), .unset, .unset, .unset, .unset, .unset, .unset, .unset, .unset] [(.ref b170)])) st176 ?_
      refine OFin.of (S' := T176.setTop (mkF m 71 #[.val (.long q0), .second, .val (.long q1), .second, .val (.long q2), .second, .val (.long q3), .second, .val (.int p4), .val (.long (q0 &&& (2305843009213693951 : Int64))), .second, .val (.long (q1 &&& (2305843009213693951 : Int64))), .second, .val (.long (q2 &&& (2305843009213693951 : Int64))), .second, .val (.long (q3 &&& (2305843009213693951 : Int64))), .second, .val (.int (2 : Int32)), .val (.int (1 : Int32)), .val (.ref b170), .val (.int (1 : Int32)), .unset, .unset, .unset, .unset, .unset, .unset] [(.long (q3 &&& (2305843009213693951 : Int64))), (.ref b170)])) (fun t ht => ?_) ?_
      · refine XS.astore X176.here hx rfl (hb hby at_57) rfl rfl (l' := #[.val (.long q0), .second, .val (.long q1), .second, .val (.long q2), .second, .val (.long q3), .second, .val (.int p4), .val (.long (q0 &&& (2305843009213693951 : Int64))), .second, .val (.long (q1 &&& (2305843009213693951 : Int64))), .second, .val (.long (q2 &&& (2305843009213693951 : Int64))), .second, .val (.long (q3 &&& (2305843009213693951 : Int64))), .second, .val (.int (2 : Int32)), .val (.int (1 : Int32)), .val (.ref b170), .unset, .unset, .unset, .unset, .unset, .unset, .unset]) rfl ?_
        show Steps p.tables e below (T176.setTop (mkF m 59 #[.val (.long q0), .second, .val (.long q1), .second, .val (.long q2), .second, .val (.long q3), .second, .val (.int p4), .val (.long (q0 &&& (2305843009213693951 : Int64))), .second, .val (.long (q1 &&& (2305843009213693951 : Int64))), .second, .val (.long (q2 &&& (2305843009213693951 : Int64))), .second, .val (.long (q3 &&& (2305843009213693951 : Int64))), .second, .val (.int (2 : Int32)), .val (.int (1 : Int32)), .val (.ref b170), .unset, .unset, .unset, .unset, .unset, .unset, .unset] [])) _
        refine XS.iconst X176.here hx rfl (hb hby at_59) ?_
        show Steps p.tables e below (T176.setTop (mkF m 60 _ [(.int (1 : Int32))])) _
        refine XS.istore X176.here hx rfl (hb hby at_60) rfl (l' := #[.val (.long q0), .second, .val (.long q1), .second, .val (.long q2), .second, .val (.long q3), .second, .val (.int p4), .val (.long (q0 &&& (2305843009213693951 : Int64))), .second, .val (.long (q1 &&& (2305843009213693951 : Int64))), .second, .val (.long (q2 &&& (2305843009213693951 : Int64))), .second, .val (.long (q3 &&& (2305843009213693951 : Int64))), .second, .val (.int (2 : Int32)), .val (.int (1 : Int32)), .val (.ref b170), .val (.int (1 : Int32)), .unset, .unset, .unset, .unset, .unset, .unset]) rfl ?_
        show Steps p.tables e below (T176.setTop (mkF m 62 #[.val (.long q0), .second, .val (.long q1), .second, .val (.long q2), .second, .val (.long q3), .second, .val (.int p4), .val (.long (q0 &&& (2305843009213693951 : Int64))), .second, .val (.long (q1 &&& (2305843009213693951 : Int64))), .second, .val (.long (q2 &&& (2305843009213693951 : Int64))), .second, .val (.long (q3 &&& (2305843009213693951 : Int64))), .second, .val (.int (2 : Int32)), .val (.int (1 : Int32)), .val (.ref b170), .val (.int (1 : Int32)), .unset, .unset, .unset, .unset, .unset, .unset] [])) _
        refine XS.iload X176.here hx rfl (hb hby at_62) rfl ?_
        show Steps p.tables e below (T176.setTop (mkF m 64 _ [(.int (1 : Int32))])) _
        refine XS.ifNo X176.here hx rfl (hb hby at_64) rfl ((if0 _ _).trans (feq (by decide : ¬ ((1 : Int32) = (0 : Int32)))).1) ?_
        show Steps p.tables e below (T176.setTop (mkF m 67 _ [])) _
        refine XS.aload X176.here hx rfl (hb hby at_67) rfl rfl ?_
        show Steps p.tables e below (T176.setTop (mkF m 69 _ [(.ref b170)])) _
        refine XS.lload X176.here hx rfl (hb hby at_69) rfl ?_
        exact ht
      obtain ⟨cq179, kq179, q179a, q179b, q179c⟩ := isOf hZ hs176 A170
      obtain ⟨_, _, ⟨T178, L178, k178, n178⟩, -, X178, ⟨Lc178, hQ178, l178, y178, z178⟩, st178⟩ := X176.virtualBack hx (y := (⟨"com/example/kindred_mesh/kindredmesh/peer/SearchTime", "served", "(J)V"⟩ : MethodName)) (z := (⟨"com/example/kindred_mesh/kindredmesh/peer/SearchTime", "served", "(J)V"⟩ : MethodName)) hown (mvT hZ (hw _ (List.mem_of_getElem? (i := 10) rfl))) (mvT hZ (hw _ (List.mem_of_getElem? (i := 11) rfl))) (notFace_of_selects (args := #[]) (mvT hZ (hw _ (List.mem_of_getElem? (i := 13) rfl)))) (mvT hZ (hw _ (List.mem_of_getElem? (i := 13) rfl))) (mvT hZ (hw _ (List.mem_of_getElem? (i := 12) rfl))) (by decide) (backOf (W := 0) (rmSv l Z _ hw [] b170 (q3 &&& (2305843009213693951 : Int64)) (0 : Int64) (0 : Int64) 0 h170 n0 Z172 A170 f173 f174 f175 g171) hZ (hw _ (List.mem_of_getElem? (i := 14) rfl)) (hw _ (List.mem_of_getElem? (i := 3) rfl)) (by decide) (by decide)) q179a q179c (g := (mkF m 71 #[.val (.long q0), .second, .val (.long q1), .second, .val (.long q2), .second, .val (.long q3), .second, .val (.int p4), .val (.long (q0 &&& (2305843009213693951 : Int64))), .second, .val (.long (q1 &&& (2305843009213693951 : Int64))), .second, .val (.long (q2 &&& (2305843009213693951 : Int64))), .second, .val (.long (q3 &&& (2305843009213693951 : Int64))), .second, .val (.int (2 : Int32)), .val (.int (1 : Int32)), .val (.ref b170), .val (.int (1 : Int32)), .unset, .unset, .unset, .unset, .unset, .unset] [(.long (q3 &&& (2305843009213693951 : Int64))), (.ref b170)])) rfl (by rw [hml]; rfl) (Steps.refl _) (argsL := [(.long (q3 &&& (2305843009213693951 : Int64)))]) (rest := []) (lenOf pd_2 rfl) rfl (by show 2 * 0 + _ ≤ _; exact Nat.le_of_eq rfl) (hb hby at_71) (fun _ _ => ⟨rfl, hs176, (by decide : 1 + 0 ≤ _), (by decide : 3 + 0 ≤ _)⟩)
      dsimp only [Pt.U, Pt.locs, Pt.cells, Pt.slots] at X178 l178 y178 z178 st178 hQ178
      subst l178 y178 z178
      obtain ⟨rfl, Nq178, Kq178, f180, f181, f182⟩ := hQ178
      have N183 := Fr.app N177 Nq178
      have f184 := (A170.keep Kq178)
      have Z185 : n0 ≤ T178.heap.size := (Nat.le_trans Z172 Kq178.1)
      refine OFin.to (S' := T178.setTop (mkF m 74 #[.val (.long q0), .second, .val (.long q1), .second, .val (.long q2), .second, .val (.long q3), .second, .val (.int p4), .val (.long (q0 &&& (2305843009213693951 : Int64))), .second, .val (.long (q1 &&& (2305843009213693951 : Int64))), .second, .val (.long (q2 &&& (2305843009213693951 : Int64))), .second, .val (.long (q3 &&& (2305843009213693951 : Int64))), .second, .val (.int (2 : Int32)), .val (.int (1 : Int32)), .val (.ref b170), .val (.int (1 : Int32)), .unset, .unset, .unset, .unset, .unset, .unset] [])) st178 ?_
      refine OFin.of (S' := T178.setTop (mkF m 76 #[.val (.long q0), .second, .val (.long q1), .second, .val (.long q2), .second, .val (.long q3), .second, .val (.int p4), .val (.long (q0 &&& (2305843009213693951 : Int64))), .second, .val (.long (q1 &&& (2305843009213693951 : Int64))), .second, .val (.long (q2 &&& (2305843009213693951 : Int64))), .second, .val (.long (q3 &&& (2305843009213693951 : Int64))), .second, .val (.int (2 : Int32)), .val (.int (1 : Int32)), .val (.ref b170), .val (.int (1 : Int32)), .unset, .unset, .unset, .unset, .unset, .unset] [(.ref b170)])) (fun t ht => ?_) ?_
      · refine XS.aload X178.here hx rfl (hb hby at_74) rfl rfl ?_
        exact ht
      obtain ⟨cq187, kq187, q187a, q187b, q187c⟩ := isOf hZ (rfl : T178.heap = T178.heap) f184
      obtain ⟨_, _, ⟨T186, L186, k186, n186⟩, -, X186, ⟨Lc186, hQ186, l186, y186, z186⟩, st186⟩ := X178.virtualBack hx (y := (⟨"com/example/kindred_mesh/kindredmesh/peer/SearchTime", "newPeriod", "()V"⟩ : MethodName)) (z := (⟨"com/example/kindred_mesh/kindredmesh/peer/SearchTime", "newPeriod", "()V"⟩ : MethodName)) hown (mvT hZ (hw _ (List.mem_of_getElem? (i := 19) rfl))) (mvT hZ (hw _ (List.mem_of_getElem? (i := 20) rfl))) (notFace_of_selects (args := #[]) (mvT hZ (hw _ (List.mem_of_getElem? (i := 22) rfl)))) (mvT hZ (hw _ (List.mem_of_getElem? (i := 22) rfl))) (mvT hZ (hw _ (List.mem_of_getElem? (i := 21) rfl))) (by decide) (backOf (W := 0) (rmNp1 l Z _ hw [] b170 (1 : Int64) ((0 : Int64) + (q3 &&& (2305843009213693951 : Int64))) 0 T178.heap n0 Z185 f184 f180 f181 f182 g171 (by decide) (own_nn _ (by decide))) hZ (hw _ (List.mem_of_getElem? (i := 23) rfl)) (hw _ (List.mem_of_getElem? (i := 3) rfl)) (by decide) (by decide)) q187a q187c (g := (mkF m 76 #[.val (.long q0), .second, .val (.long q1), .second, .val (.long q2), .second, .val (.long q3), .second, .val (.int p4), .val (.long (q0 &&& (2305843009213693951 : Int64))), .second, .val (.long (q1 &&& (2305843009213693951 : Int64))), .second, .val (.long (q2 &&& (2305843009213693951 : Int64))), .second, .val (.long (q3 &&& (2305843009213693951 : Int64))), .second, .val (.int (2 : Int32)), .val (.int (1 : Int32)), .val (.ref b170), .val (.int (1 : Int32)), .unset, .unset, .unset, .unset, .unset, .unset] [(.ref b170)])) rfl (by rw [hml]; rfl) (Steps.refl _) (argsL := []) (rest := []) (lenOf pd_0 rfl) rfl (by show 2 * 0 + _ ≤ _; exact Nat.le_of_eq rfl) (hb hby at_76) (fun _ _ => ⟨rfl, (rfl : T178.heap = T178.heap), (by decide : 1 + 0 ≤ _), (by decide : 3 + 0 ≤ _)⟩)
      dsimp only [Pt.U, Pt.locs, Pt.cells, Pt.slots] at X186 l186 y186 z186 st186 hQ186
      subst l186 y186 z186
      obtain ⟨rfl, Nq186, Kq186, f188, f189, f190⟩ := hQ186
      have N191 := Fr.app N183 Nq186
      have f192 := (f184.keep Kq186)
      have Z193 : n0 ≤ T186.heap.size := (Nat.le_trans Z185 Kq186.1)
      refine OFin.to (S' := T186.setTop (mkF m 79 #[.val (.long q0), .second, .val (.long q1), .second, .val (.long q2), .second, .val (.long q3), .second, .val (.int p4), .val (.long (q0 &&& (2305843009213693951 : Int64))), .second, .val (.long (q1 &&& (2305843009213693951 : Int64))), .second, .val (.long (q2 &&& (2305843009213693951 : Int64))), .second, .val (.long (q3 &&& (2305843009213693951 : Int64))), .second, .val (.int (2 : Int32)), .val (.int (1 : Int32)), .val (.ref b170), .val (.int (1 : Int32)), .unset, .unset, .unset, .unset, .unset, .unset] [])) st186 ?_
      refine OFin.of (S' := T186.setTop (mkF m 81 #[.val (.long q0), .second, .val (.long q1), .second, .val (.long q2), .second, .val (.long q3), .second, .val (.int p4), .val (.long (q0 &&& (2305843009213693951 : Int64))), .second, .val (.long (q1 &&& (2305843009213693951 : Int64))), .second, .val (.long (q2 &&& (2305843009213693951 : Int64))), .second, .val (.long (q3 &&& (2305843009213693951 : Int64))), .second, .val (.int (2 : Int32)), .val (.int (1 : Int32)), .val (.ref b170), .val (.int (1 : Int32)), .unset, .unset, .unset, .unset, .unset, .unset] [(.ref b170)])) (fun t ht => ?_) ?_
      · refine XS.aload X186.here hx rfl (hb hby at_79) rfl rfl ?_
        exact ht
      obtain ⟨cq195, kq195, q195a, q195b, q195c⟩ := isOf hZ (rfl : T186.heap = T186.heap) f192
      obtain ⟨_, _, ⟨T194, L194, k194, n194⟩, -, X194, ⟨Lc194, hQ194, l194, y194, z194⟩, st194⟩ := X186.virtualBack hx (y := (⟨"com/example/kindred_mesh/kindredmesh/peer/SearchTime", "lastMean", "()D"⟩ : MethodName)) (z := (⟨"com/example/kindred_mesh/kindredmesh/peer/SearchTime", "lastMean", "()D"⟩ : MethodName)) hown (mvT hZ (hw _ (List.mem_of_getElem? (i := 26) rfl))) (mvT hZ (hw _ (List.mem_of_getElem? (i := 27) rfl))) (notFace_of_selects (args := #[]) (mvT hZ (hw _ (List.mem_of_getElem? (i := 29) rfl)))) (mvT hZ (hw _ (List.mem_of_getElem? (i := 29) rfl))) (mvT hZ (hw _ (List.mem_of_getElem? (i := 28) rfl))) (by decide) (backOf (W := 0) (rmLm l Z _ hw [] b170 (FP.ddiv (FP.l2d ((0 : Int64) + (q3 &&& (2305843009213693951 : Int64)))) (FP.l2d (1 : Int64))) T186.heap n0 Z193 f190) hZ (hw _ (List.mem_of_getElem? (i := 30) rfl)) (hw _ (List.mem_of_getElem? (i := 3) rfl)) (by decide) (by decide)) q195a q195c (g := (mkF m 81 #[.val (.long q0), .second, .val (.long q1), .second, .val (.long q2), .second, .val (.long q3), .second, .val (.int p4), .val (.long (q0 &&& (2305843009213693951 : Int64))), .second, .val (.long (q1 &&& (2305843009213693951 : Int64))), .second, .val (.long (q2 &&& (2305843009213693951 : Int64))), .second, .val (.long (q3 &&& (2305843009213693951 : Int64))), .second, .val (.int (2 : Int32)), .val (.int (1 : Int32)), .val (.ref b170), .val (.int (1 : Int32)), .unset, .unset, .unset, .unset, .unset, .unset] [(.ref b170)])) rfl (by rw [hml]; rfl) (Steps.refl _) (argsL := []) (rest := []) (lenOf pd_1 rfl) rfl (by show 2 * 0 + _ ≤ _; exact Nat.le_of_eq rfl) (hb hby at_81) (fun _ _ => ⟨rfl, (rfl : T186.heap = T186.heap), (by decide : 1 + 0 ≤ _), (by decide : 3 + 0 ≤ _)⟩)
      dsimp only [Pt.U, Pt.locs, Pt.cells, Pt.slots] at X194 l194 y194 z194 st194 hQ194
      subst l194 y194 z194
      obtain ⟨rfl, Nq194, hs194⟩ := hQ194
      have N196 := Fr.app N191 Nq194
      refine OFin.to (S' := T194.setTop (mkF m 84 #[.val (.long q0), .second, .val (.long q1), .second, .val (.long q2), .second, .val (.long q3), .second, .val (.int p4), .val (.long (q0 &&& (2305843009213693951 : Int64))), .second, .val (.long (q1 &&& (2305843009213693951 : Int64))), .second, .val (.long (q2 &&& (2305843009213693951 : Int64))), .second, .val (.long (q3 &&& (2305843009213693951 : Int64))), .second, .val (.int (2 : Int32)), .val (.int (1 : Int32)), .val (.ref b170), .val (.int (1 : Int32)), .unset, .unset, .unset, .unset, .unset, .unset] [(.double (FP.ddiv (FP.l2d ((0 : Int64) + (q3 &&& (2305843009213693951 : Int64)))) (FP.l2d (1 : Int64))))])) st194 ?_
      refine OFin.of (S' := T194.setTop (mkF m 108 #[.val (.long q0), .second, .val (.long q1), .second, .val (.long q2), .second, .val (.long q3), .second, .val (.int p4), .val (.long (q0 &&& (2305843009213693951 : Int64))), .second, .val (.long (q1 &&& (2305843009213693951 : Int64))), .second, .val (.long (q2 &&& (2305843009213693951 : Int64))), .second, .val (.long (q3 &&& (2305843009213693951 : Int64))), .second, .val (.int (2 : Int32)), .val (.int (1 : Int32)), .val (.ref b170), .val (.int (1 : Int32)), .unset, .unset, .unset, .unset, .unset, .unset] [(.long (q0 &&& (2305843009213693951 : Int64))), (.ref b170)])) (fun t ht => ?_) ?_
      · refine XS.lload X194.here hx rfl (hb hby at_84) rfl ?_
        show Steps p.tables e below (T194.setTop (mkF m 86 _ [(.long (q3 &&& (2305843009213693951 : Int64))), (.double (FP.ddiv (FP.l2d ((0 : Int64) + (q3 &&& (2305843009213693951 : Int64)))) (FP.l2d (1 : Int64))))])) _
        refine XS.l2dS X194.here hx rfl (hb hby at_86) rfl rfl ?_
        show Steps p.tables e below (T194.setTop (mkF m 87 _ [(.double (FP.l2d (q3 &&& (2305843009213693951 : Int64)))), (.double (FP.ddiv (FP.l2d ((0 : Int64) + (q3 &&& (2305843009213693951 : Int64)))) (FP.l2d (1 : Int64))))])) _
        refine XS.dcmpS X194.here hx rfl (hb hby at_87) rfl rfl ?_
        show Steps p.tables e below (T194.setTop (mkF m 88 _ [(.int (cmpValue (FP.dcmp (FP.ddiv (FP.l2d ((0 : Int64) + (q3 &&& (2305843009213693951 : Int64)))) (FP.l2d (1 : Int64))) (FP.l2d (q3 &&& (2305843009213693951 : Int64)))) .l))])) _
        refine XS.ifNo X194.here hx rfl (hb hby at_88) rfl ((if0 _ _).trans (teq (dcmpV_eq (own_div1 _) (own_nn _ (by decide)) .l : (cmpValue (FP.dcmp (FP.ddiv (FP.l2d ((0 : Int64) + (q3 &&& (2305843009213693951 : Int64)))) (FP.l2d (1 : Int64))) (FP.l2d (q3 &&& (2305843009213693951 : Int64)))) .l) = (0 : Int32))).2) ?_
        show Steps p.tables e below (T194.setTop (mkF m 91 _ [])) _
        refine XS.iconst X194.here hx rfl (hb hby at_91) ?_
        show Steps p.tables e below (T194.setTop (mkF m 92 _ [(.int (1 : Int32))])) _
        refine XS.goto X194.here hx rfl (pc0 := 92) (pc' := 96) rfl (hb hby at_92) (by decide) (by decide) ?_
        show Steps p.tables e below (T194.setTop (mkF m 96 _ [(.int (1 : Int32))])) _
        refine XS.istore X194.here hx rfl (hb hby at_96) rfl (l' := #[.val (.long q0), .second, .val (.long q1), .second, .val (.long q2), .second, .val (.long q3), .second, .val (.int p4), .val (.long (q0 &&& (2305843009213693951 : Int64))), .second, .val (.long (q1 &&& (2305843009213693951 : Int64))), .second, .val (.long (q2 &&& (2305843009213693951 : Int64))), .second, .val (.long (q3 &&& (2305843009213693951 : Int64))), .second, .val (.int (2 : Int32)), .val (.int (1 : Int32)), .val (.ref b170), .val (.int (1 : Int32)), .unset, .unset, .unset, .unset, .unset, .unset]) rfl ?_
        show Steps p.tables e below (T194.setTop (mkF m 98 _ [])) _
        refine XS.iload X194.here hx rfl (hb hby at_98) rfl ?_
        show Steps p.tables e below (T194.setTop (mkF m 100 _ [(.int (2 : Int32))])) _
        refine XS.iconst X194.here hx rfl (hb hby at_100) ?_
        show Steps p.tables e below (T194.setTop (mkF m 101 _ [(.int (1 : Int32)), (.int (2 : Int32))])) _
        refine XS.icmpNo X194.here hx rfl (hb hby at_101) rfl (flt (by decide : ¬ ((2 : Int32) < (1 : Int32)))).1 ?_
        show Steps p.tables e below (T194.setTop (mkF m 104 _ [])) _
        refine XS.aload X194.here hx rfl (hb hby at_104) rfl rfl ?_
        show Steps p.tables e below (T194.setTop (mkF m 106 _ [(.ref b170)])) _
        refine XS.lload X194.here hx rfl (hb hby at_106) rfl ?_
        exact ht
      obtain ⟨cq198, kq198, q198a, q198b, q198c⟩ := isOf hZ hs194 f192
      obtain ⟨_, _, ⟨T197, L197, k197, n197⟩, -, X197, ⟨Lc197, hQ197, l197, y197, z197⟩, st197⟩ := X194.virtualBack hx (y := (⟨"com/example/kindred_mesh/kindredmesh/peer/SearchTime", "served", "(J)V"⟩ : MethodName)) (z := (⟨"com/example/kindred_mesh/kindredmesh/peer/SearchTime", "served", "(J)V"⟩ : MethodName)) hown (mvT hZ (hw _ (List.mem_of_getElem? (i := 10) rfl))) (mvT hZ (hw _ (List.mem_of_getElem? (i := 11) rfl))) (notFace_of_selects (args := #[]) (mvT hZ (hw _ (List.mem_of_getElem? (i := 13) rfl)))) (mvT hZ (hw _ (List.mem_of_getElem? (i := 13) rfl))) (mvT hZ (hw _ (List.mem_of_getElem? (i := 12) rfl))) (by decide) (backOf (W := 0) (rmSv l Z _ hw [] b170 (q0 &&& (2305843009213693951 : Int64)) (0 : Int64) (0 : Int64) (FP.ddiv (FP.l2d ((0 : Int64) + (q3 &&& (2305843009213693951 : Int64)))) (FP.l2d (1 : Int64))) T186.heap n0 Z193 f192 f188 f189 f190 g171) hZ (hw _ (List.mem_of_getElem? (i := 14) rfl)) (hw _ (List.mem_of_getElem? (i := 3) rfl)) (by decide) (by decide)) q198a q198c (g := (mkF m 108 #[.val (.long q0), .second, .val (.long q1), .second, .val (.long q2), .second, .val (.long q3), .second, .val (.int p4), .val (.long (q0 &&& (2305843009213693951 : Int64))), .second, .val (.long (q1 &&& (2305843009213693951 : Int64))), .second, .val (.long (q2 &&& (2305843009213693951 : Int64))), .second, .val (.long (q3 &&& (2305843009213693951 : Int64))), .second, .val (.int (2 : Int32)), .val (.int (1 : Int32)), .val (.ref b170), .val (.int (1 : Int32)), .unset, .unset, .unset, .unset, .unset, .unset] [(.long (q0 &&& (2305843009213693951 : Int64))), (.ref b170)])) rfl (by rw [hml]; rfl) (Steps.refl _) (argsL := [(.long (q0 &&& (2305843009213693951 : Int64)))]) (rest := []) (lenOf pd_2 rfl) rfl (by show 2 * 0 + _ ≤ _; exact Nat.le_of_eq rfl) (hb hby at_108) (fun _ _ => ⟨rfl, hs194, (by decide : 1 + 0 ≤ _), (by decide : 3 + 0 ≤ _)⟩)
      dsimp only [Pt.U, Pt.locs, Pt.cells, Pt.slots] at X197 l197 y197 z197 st197 hQ197
      subst l197 y197 z197
      obtain ⟨rfl, Nq197, Kq197, f199, f200, f201⟩ := hQ197
      have N202 := Fr.app N196 Nq197
      have f203 := (f192.keep Kq197)
      have Z204 : n0 ≤ T197.heap.size := (Nat.le_trans Z193 Kq197.1)
      refine OFin.to (S' := T197.setTop (mkF m 111 #[.val (.long q0), .second, .val (.long q1), .second, .val (.long q2), .second, .val (.long q3), .second, .val (.int p4), .val (.long (q0 &&& (2305843009213693951 : Int64))), .second, .val (.long (q1 &&& (2305843009213693951 : Int64))), .second, .val (.long (q2 &&& (2305843009213693951 : Int64))), .second, .val (.long (q3 &&& (2305843009213693951 : Int64))), .second, .val (.int (2 : Int32)), .val (.int (1 : Int32)), .val (.ref b170), .val (.int (1 : Int32)), .unset, .unset, .unset, .unset, .unset, .unset] [])) st197 ?_
      refine OFin.of (S' := T197.setTop (mkF m 121 #[.val (.long q0), .second, .val (.long q1), .second, .val (.long q2), .second, .val (.long q3), .second, .val (.int p4), .val (.long (q0 &&& (2305843009213693951 : Int64))), .second, .val (.long (q1 &&& (2305843009213693951 : Int64))), .second, .val (.long (q2 &&& (2305843009213693951 : Int64))), .second, .val (.long (q3 &&& (2305843009213693951 : Int64))), .second, .val (.int (2 : Int32)), .val (.int (1 : Int32)), .val (.ref b170), .val (.int (1 : Int32)), .unset, .unset, .unset, .unset, .unset, .unset] [(.long (q1 &&& (2305843009213693951 : Int64))), (.ref b170)])) (fun t ht => ?_) ?_
      · refine XS.iload X197.here hx rfl (hb hby at_111) rfl ?_
        show Steps p.tables e below (T197.setTop (mkF m 113 _ [(.int (2 : Int32))])) _
        refine XS.iconst X197.here hx rfl (hb hby at_113) ?_
        show Steps p.tables e below (T197.setTop (mkF m 114 _ [(.int (2 : Int32)), (.int (2 : Int32))])) _
        refine XS.icmpNo X197.here hx rfl (hb hby at_114) rfl (flt (by decide : ¬ ((2 : Int32) < (2 : Int32)))).1 ?_
        show Steps p.tables e below (T197.setTop (mkF m 117 _ [])) _
        refine XS.aload X197.here hx rfl (hb hby at_117) rfl rfl ?_
        show Steps p.tables e below (T197.setTop (mkF m 119 _ [(.ref b170)])) _
        refine XS.lload X197.here hx rfl (hb hby at_119) rfl ?_
        exact ht
      obtain ⟨cq206, kq206, q206a, q206b, q206c⟩ := isOf hZ (rfl : T197.heap = T197.heap) f203
      obtain ⟨_, _, ⟨T205, L205, k205, n205⟩, -, X205, ⟨Lc205, hQ205, l205, y205, z205⟩, st205⟩ := X197.virtualBack hx (y := (⟨"com/example/kindred_mesh/kindredmesh/peer/SearchTime", "served", "(J)V"⟩ : MethodName)) (z := (⟨"com/example/kindred_mesh/kindredmesh/peer/SearchTime", "served", "(J)V"⟩ : MethodName)) hown (mvT hZ (hw _ (List.mem_of_getElem? (i := 10) rfl))) (mvT hZ (hw _ (List.mem_of_getElem? (i := 11) rfl))) (notFace_of_selects (args := #[]) (mvT hZ (hw _ (List.mem_of_getElem? (i := 13) rfl)))) (mvT hZ (hw _ (List.mem_of_getElem? (i := 13) rfl))) (mvT hZ (hw _ (List.mem_of_getElem? (i := 12) rfl))) (by decide) (backOf (W := 0) (rmSv l Z _ hw [] b170 (q1 &&& (2305843009213693951 : Int64)) (1 : Int64) ((0 : Int64) + (q0 &&& (2305843009213693951 : Int64))) (FP.ddiv (FP.l2d ((0 : Int64) + (q3 &&& (2305843009213693951 : Int64)))) (FP.l2d (1 : Int64))) T197.heap n0 Z204 f203 f199 f200 f201 g171) hZ (hw _ (List.mem_of_getElem? (i := 14) rfl)) (hw _ (List.mem_of_getElem? (i := 3) rfl)) (by decide) (by decide)) q206a q206c (g := (mkF m 121 #[.val (.long q0), .second, .val (.long q1), .second, .val (.long q2), .second, .val (.long q3), .second, .val (.int p4), .val (.long (q0 &&& (2305843009213693951 : Int64))), .second, .val (.long (q1 &&& (2305843009213693951 : Int64))), .second, .val (.long (q2 &&& (2305843009213693951 : Int64))), .second, .val (.long (q3 &&& (2305843009213693951 : Int64))), .second, .val (.int (2 : Int32)), .val (.int (1 : Int32)), .val (.ref b170), .val (.int (1 : Int32)), .unset, .unset, .unset, .unset, .unset, .unset] [(.long (q1 &&& (2305843009213693951 : Int64))), (.ref b170)])) rfl (by rw [hml]; rfl) (Steps.refl _) (argsL := [(.long (q1 &&& (2305843009213693951 : Int64)))]) (rest := []) (lenOf pd_2 rfl) rfl (by show 2 * 0 + _ ≤ _; exact Nat.le_of_eq rfl) (hb hby at_121) (fun _ _ => ⟨rfl, (rfl : T197.heap = T197.heap), (by decide : 1 + 0 ≤ _), (by decide : 3 + 0 ≤ _)⟩)
      dsimp only [Pt.U, Pt.locs, Pt.cells, Pt.slots] at X205 l205 y205 z205 st205 hQ205
      subst l205 y205 z205
      obtain ⟨rfl, Nq205, Kq205, f207, f208, f209⟩ := hQ205
      have N210 := Fr.app N202 Nq205
      have f211 := (f203.keep Kq205)
      have Z212 : n0 ≤ T205.heap.size := (Nat.le_trans Z204 Kq205.1)
      refine OFin.to (S' := T205.setTop (mkF m 124 #[.val (.long q0), .second, .val (.long q1), .second, .val (.long q2), .second, .val (.long q3), .second, .val (.int p4), .val (.long (q0 &&& (2305843009213693951 : Int64))), .second, .val (.long (q1 &&& (2305843009213693951 : Int64))), .second, .val (.long (q2 &&& (2305843009213693951 : Int64))), .second, .val (.long (q3 &&& (2305843009213693951 : Int64))), .second, .val (.int (2 : Int32)), .val (.int (1 : Int32)), .val (.ref b170), .val (.int (1 : Int32)), .unset, .unset, .unset, .unset, .unset, .unset] [])) st205 ?_
      refine OFin.of (S' := T205.setTop (mkF m 139 #[.val (.long q0), .second, .val (.long q1), .second, .val (.long q2), .second, .val (.long q3), .second, .val (.int p4), .val (.long (q0 &&& (2305843009213693951 : Int64))), .second, .val (.long (q1 &&& (2305843009213693951 : Int64))), .second, .val (.long (q2 &&& (2305843009213693951 : Int64))), .second, .val (.long (q3 &&& (2305843009213693951 : Int64))), .second, .val (.int (2 : Int32)), .val (.int (1 : Int32)), .val (.ref b170), .val (.int (1 : Int32)), .unset, .unset, .unset, .unset, .unset, .unset] [(.ref b170)])) (fun t ht => ?_) ?_
      · refine XS.iload X205.here hx rfl (hb hby at_124) rfl ?_
        show Steps p.tables e below (T205.setTop (mkF m 126 _ [(.int (2 : Int32))])) _
        refine XS.iconst X205.here hx rfl (hb hby at_126) ?_
        show Steps p.tables e below (T205.setTop (mkF m 127 _ [(.int (3 : Int32)), (.int (2 : Int32))])) _
        refine XS.icmpYes X205.here hx rfl (pc0 := 127) (pc' := 137) rfl (hb hby at_127) rfl (tlt (by decide : (2 : Int32) < (3 : Int32))).1 (by decide) (by decide) ?_
        show Steps p.tables e below (T205.setTop (mkF m 137 _ [])) _
        refine XS.aload X205.here hx rfl (hb hby at_137) rfl rfl ?_
        exact ht
      obtain ⟨cq214, kq214, q214a, q214b, q214c⟩ := isOf hZ (rfl : T205.heap = T205.heap) f211
      obtain ⟨_, _, ⟨T213, L213, k213, n213⟩, -, X213, ⟨Lc213, hQ213, l213, y213, z213⟩, st213⟩ := X205.virtualBack hx (y := (⟨"com/example/kindred_mesh/kindredmesh/peer/SearchTime", "newPeriod", "()V"⟩ : MethodName)) (z := (⟨"com/example/kindred_mesh/kindredmesh/peer/SearchTime", "newPeriod", "()V"⟩ : MethodName)) hown (mvT hZ (hw _ (List.mem_of_getElem? (i := 19) rfl))) (mvT hZ (hw _ (List.mem_of_getElem? (i := 20) rfl))) (notFace_of_selects (args := #[]) (mvT hZ (hw _ (List.mem_of_getElem? (i := 22) rfl)))) (mvT hZ (hw _ (List.mem_of_getElem? (i := 22) rfl))) (mvT hZ (hw _ (List.mem_of_getElem? (i := 21) rfl))) (by decide) (backOf (W := 0) (rmNp1 l Z _ hw [] b170 (2 : Int64) (((0 : Int64) + (q0 &&& (2305843009213693951 : Int64))) + (q1 &&& (2305843009213693951 : Int64))) (FP.ddiv (FP.l2d ((0 : Int64) + (q3 &&& (2305843009213693951 : Int64)))) (FP.l2d (1 : Int64))) T205.heap n0 Z212 f211 f207 f208 f209 g171 (by decide) (own_nn _ (by decide))) hZ (hw _ (List.mem_of_getElem? (i := 23) rfl)) (hw _ (List.mem_of_getElem? (i := 3) rfl)) (by decide) (by decide)) q214a q214c (g := (mkF m 139 #[.val (.long q0), .second, .val (.long q1), .second, .val (.long q2), .second, .val (.long q3), .second, .val (.int p4), .val (.long (q0 &&& (2305843009213693951 : Int64))), .second, .val (.long (q1 &&& (2305843009213693951 : Int64))), .second, .val (.long (q2 &&& (2305843009213693951 : Int64))), .second, .val (.long (q3 &&& (2305843009213693951 : Int64))), .second, .val (.int (2 : Int32)), .val (.int (1 : Int32)), .val (.ref b170), .val (.int (1 : Int32)), .unset, .unset, .unset, .unset, .unset, .unset] [(.ref b170)])) rfl (by rw [hml]; rfl) (Steps.refl _) (argsL := []) (rest := []) (lenOf pd_0 rfl) rfl (by show 2 * 0 + _ ≤ _; exact Nat.le_of_eq rfl) (hb hby at_139) (fun _ _ => ⟨rfl, (rfl : T205.heap = T205.heap), (by decide : 1 + 0 ≤ _), (by decide : 3 + 0 ≤ _)⟩)
      dsimp only [Pt.U, Pt.locs, Pt.cells, Pt.slots] at X213 l213 y213 z213 st213 hQ213
      subst l213 y213 z213
      obtain ⟨rfl, Nq213, Kq213, f215, f216, f217⟩ := hQ213
      have N218 := Fr.app N210 Nq213
      have f219 := (f211.keep Kq213)
      have Z220 : n0 ≤ T213.heap.size := (Nat.le_trans Z212 Kq213.1)
      refine OFin.to (S' := T213.setTop (mkF m 142 #[.val (.long q0), .second, .val (.long q1), .second, .val (.long q2), .second, .val (.long q3), .second, .val (.int p4), .val (.long (q0 &&& (2305843009213693951 : Int64))), .second, .val (.long (q1 &&& (2305843009213693951 : Int64))), .second, .val (.long (q2 &&& (2305843009213693951 : Int64))), .second, .val (.long (q3 &&& (2305843009213693951 : Int64))), .second, .val (.int (2 : Int32)), .val (.int (1 : Int32)), .val (.ref b170), .val (.int (1 : Int32)), .unset, .unset, .unset, .unset, .unset, .unset] [])) st213 ?_
      refine OFin.of (S' := T213.setTop (mkF m 202 #[.val (.long q0), .second, .val (.long q1), .second, .val (.long q2), .second, .val (.long q3), .second, .val (.int p4), .val (.long (q0 &&& (2305843009213693951 : Int64))), .second, .val (.long (q1 &&& (2305843009213693951 : Int64))), .second, .val (.long (q2 &&& (2305843009213693951 : Int64))), .second, .val (.long (q3 &&& (2305843009213693951 : Int64))), .second, .val (.int (2 : Int32)), .val (.int (1 : Int32)), .val (.ref b170), .val (.int (1 : Int32)), .val (.long (((q0 &&& (2305843009213693951 : Int64)) + (q1 &&& (2305843009213693951 : Int64))) + (0 : Int64))), .second, .val (.double (FP.ddiv (FP.l2d (((q0 &&& (2305843009213693951 : Int64)) + (q1 &&& (2305843009213693951 : Int64))) + (0 : Int64))) (FP.i2d (2 : Int32)))), .second, .unset, .unset] [(.ref b170)])) (fun t ht => ?_) ?_
      · refine XS.iload X213.here hx rfl (hb hby at_142) rfl ?_
        show Steps p.tables e below (T213.setTop (mkF m 144 _ [(.int (2 : Int32))])) _
        refine XS.iconst X213.here hx rfl (hb hby at_144) ?_
        show Steps p.tables e below (T213.setTop (mkF m 145 _ [(.int (1 : Int32)), (.int (2 : Int32))])) _
        refine XS.icmpNo X213.here hx rfl (hb hby at_145) rfl (flt (by decide : ¬ ((2 : Int32) < (1 : Int32)))).1 ?_
        show Steps p.tables e below (T213.setTop (mkF m 148 _ [])) _
        refine XS.lload X213.here hx rfl (hb hby at_148) rfl ?_
        show Steps p.tables e below (T213.setTop (mkF m 150 _ [(.long (q0 &&& (2305843009213693951 : Int64)))])) _
        refine XS.goto X213.here hx rfl (pc0 := 150) (pc' := 154) rfl (hb hby at_150) (by decide) (by decide) ?_
        show Steps p.tables e below (T213.setTop (mkF m 154 _ [(.long (q0 &&& (2305843009213693951 : Int64)))])) _
        refine XS.iload X213.here hx rfl (hb hby at_154) rfl ?_
        show Steps p.tables e below (T213.setTop (mkF m 156 _ [(.int (2 : Int32)), (.long (q0 &&& (2305843009213693951 : Int64)))])) _
        refine XS.iconst X213.here hx rfl (hb hby at_156) ?_
        show Steps p.tables e below (T213.setTop (mkF m 157 _ [(.int (2 : Int32)), (.int (2 : Int32)), (.long (q0 &&& (2305843009213693951 : Int64)))])) _
        refine XS.icmpNo X213.here hx rfl (hb hby at_157) rfl (flt (by decide : ¬ ((2 : Int32) < (2 : Int32)))).1 ?_
        show Steps p.tables e below (T213.setTop (mkF m 160 _ [(.long (q0 &&& (2305843009213693951 : Int64)))])) _
        refine XS.lload X213.here hx rfl (hb hby at_160) rfl ?_
        show Steps p.tables e below (T213.setTop (mkF m 162 _ [(.long (q1 &&& (2305843009213693951 : Int64))), (.long (q0 &&& (2305843009213693951 : Int64)))])) _
        refine XS.goto X213.here hx rfl (pc0 := 162) (pc' := 166) rfl (hb hby at_162) (by decide) (by decide) ?_
        show Steps p.tables e below (T213.setTop (mkF m 166 _ [(.long (q1 &&& (2305843009213693951 : Int64))), (.long (q0 &&& (2305843009213693951 : Int64)))])) _
        refine XS.ladd X213.here hx rfl (hb hby at_166) rfl ?_
        show Steps p.tables e below (T213.setTop (mkF m 167 _ [(.long ((q0 &&& (2305843009213693951 : Int64)) + (q1 &&& (2305843009213693951 : Int64))))])) _
        refine XS.iload X213.here hx rfl (hb hby at_167) rfl ?_
        show Steps p.tables e below (T213.setTop (mkF m 169 _ [(.int (2 : Int32)), (.long ((q0 &&& (2305843009213693951 : Int64)) + (q1 &&& (2305843009213693951 : Int64))))])) _
        refine XS.iconst X213.here hx rfl (hb hby at_169) ?_
        show Steps p.tables e below (T213.setTop (mkF m 170 _ [(.int (3 : Int32)), (.int (2 : Int32)), (.long ((q0 &&& (2305843009213693951 : Int64)) + (q1 &&& (2305843009213693951 : Int64))))])) _
        refine XS.icmpYes X213.here hx rfl (pc0 := 170) (pc' := 178) rfl (hb hby at_170) rfl (tlt (by decide : (2 : Int32) < (3 : Int32))).1 (by decide) (by decide) ?_
        show Steps p.tables e below (T213.setTop (mkF m 178 _ [(.long ((q0 &&& (2305843009213693951 : Int64)) + (q1 &&& (2305843009213693951 : Int64))))])) _
        refine XS.lconst X213.here hx rfl (hb hby at_178) ?_
        show Steps p.tables e below (T213.setTop (mkF m 179 _ [(.long (0 : Int64)), (.long ((q0 &&& (2305843009213693951 : Int64)) + (q1 &&& (2305843009213693951 : Int64))))])) _
        refine XS.ladd X213.here hx rfl (hb hby at_179) rfl ?_
        show Steps p.tables e below (T213.setTop (mkF m 180 _ [(.long (((q0 &&& (2305843009213693951 : Int64)) + (q1 &&& (2305843009213693951 : Int64))) + (0 : Int64)))])) _
        refine XS.lstore X213.here hx rfl (hb hby at_180) rfl (l' := #[.val (.long q0), .second, .val (.long q1), .second, .val (.long q2), .second, .val (.long q3), .second, .val (.int p4), .val (.long (q0 &&& (2305843009213693951 : Int64))), .second, .val (.long (q1 &&& (2305843009213693951 : Int64))), .second, .val (.long (q2 &&& (2305843009213693951 : Int64))), .second, .val (.long (q3 &&& (2305843009213693951 : Int64))), .second, .val (.int (2 : Int32)), .val (.int (1 : Int32)), .val (.ref b170), .val (.int (1 : Int32)), .val (.long (((q0 &&& (2305843009213693951 : Int64)) + (q1 &&& (2305843009213693951 : Int64))) + (0 : Int64))), .second, .unset, .unset, .unset, .unset]) rfl ?_
        show Steps p.tables e below (T213.setTop (mkF m 182 #[.val (.long q0), .second, .val (.long q1), .second, .val (.long q2), .second, .val (.long q3), .second, .val (.int p4), .val (.long (q0 &&& (2305843009213693951 : Int64))), .second, .val (.long (q1 &&& (2305843009213693951 : Int64))), .second, .val (.long (q2 &&& (2305843009213693951 : Int64))), .second, .val (.long (q3 &&& (2305843009213693951 : Int64))), .second, .val (.int (2 : Int32)), .val (.int (1 : Int32)), .val (.ref b170), .val (.int (1 : Int32)), .val (.long (((q0 &&& (2305843009213693951 : Int64)) + (q1 &&& (2305843009213693951 : Int64))) + (0 : Int64))), .second, .unset, .unset, .unset, .unset] [])) _
        refine XS.iload X213.here hx rfl (hb hby at_182) rfl ?_
        show Steps p.tables e below (T213.setTop (mkF m 184 _ [(.int (2 : Int32))])) _
        refine XS.ifYes X213.here hx rfl (pc0 := 184) (pc' := 191) rfl (hb hby at_184) rfl ((if0 _ _).trans (feq (by decide : ¬ ((2 : Int32) = (0 : Int32)))).2) (by decide) (by decide) ?_
        show Steps p.tables e below (T213.setTop (mkF m 191 _ [])) _
        refine XS.lload X213.here hx rfl (hb hby at_191) rfl ?_
        show Steps p.tables e below (T213.setTop (mkF m 193 _ [(.long (((q0 &&& (2305843009213693951 : Int64)) + (q1 &&& (2305843009213693951 : Int64))) + (0 : Int64)))])) _
        refine XS.l2dS X213.here hx rfl (hb hby at_193) rfl rfl ?_
        show Steps p.tables e below (T213.setTop (mkF m 194 _ [(.double (FP.l2d (((q0 &&& (2305843009213693951 : Int64)) + (q1 &&& (2305843009213693951 : Int64))) + (0 : Int64))))])) _
        refine XS.iload X213.here hx rfl (hb hby at_194) rfl ?_
        show Steps p.tables e below (T213.setTop (mkF m 196 _ [(.int (2 : Int32)), (.double (FP.l2d (((q0 &&& (2305843009213693951 : Int64)) + (q1 &&& (2305843009213693951 : Int64))) + (0 : Int64))))])) _
        refine XS.i2dS X213.here hx rfl (hb hby at_196) rfl rfl ?_
        show Steps p.tables e below (T213.setTop (mkF m 197 _ [(.double (FP.i2d (2 : Int32))), (.double (FP.l2d (((q0 &&& (2305843009213693951 : Int64)) + (q1 &&& (2305843009213693951 : Int64))) + (0 : Int64))))])) _
        refine XS.ddivS X213.here hx rfl (hb hby at_197) rfl (own_nni _ (by decide)) rfl ?_
        show Steps p.tables e below (T213.setTop (mkF m 198 _ [(.double (FP.ddiv (FP.l2d (((q0 &&& (2305843009213693951 : Int64)) + (q1 &&& (2305843009213693951 : Int64))) + (0 : Int64))) (FP.i2d (2 : Int32))))])) _
        refine XS.dstore X213.here hx rfl (hb hby at_198) rfl (l' := #[.val (.long q0), .second, .val (.long q1), .second, .val (.long q2), .second, .val (.long q3), .second, .val (.int p4), .val (.long (q0 &&& (2305843009213693951 : Int64))), .second, .val (.long (q1 &&& (2305843009213693951 : Int64))), .second, .val (.long (q2 &&& (2305843009213693951 : Int64))), .second, .val (.long (q3 &&& (2305843009213693951 : Int64))), .second, .val (.int (2 : Int32)), .val (.int (1 : Int32)), .val (.ref b170), .val (.int (1 : Int32)), .val (.long (((q0 &&& (2305843009213693951 : Int64)) + (q1 &&& (2305843009213693951 : Int64))) + (0 : Int64))), .second, .val (.double (FP.ddiv (FP.l2d (((q0 &&& (2305843009213693951 : Int64)) + (q1 &&& (2305843009213693951 : Int64))) + (0 : Int64))) (FP.i2d (2 : Int32)))), .second, .unset, .unset]) rfl ?_
        show Steps p.tables e below (T213.setTop (mkF m 200 #[.val (.long q0), .second, .val (.long q1), .second, .val (.long q2), .second, .val (.long q3), .second, .val (.int p4), .val (.long (q0 &&& (2305843009213693951 : Int64))), .second, .val (.long (q1 &&& (2305843009213693951 : Int64))), .second, .val (.long (q2 &&& (2305843009213693951 : Int64))), .second, .val (.long (q3 &&& (2305843009213693951 : Int64))), .second, .val (.int (2 : Int32)), .val (.int (1 : Int32)), .val (.ref b170), .val (.int (1 : Int32)), .val (.long (((q0 &&& (2305843009213693951 : Int64)) + (q1 &&& (2305843009213693951 : Int64))) + (0 : Int64))), .second, .val (.double (FP.ddiv (FP.l2d (((q0 &&& (2305843009213693951 : Int64)) + (q1 &&& (2305843009213693951 : Int64))) + (0 : Int64))) (FP.i2d (2 : Int32)))), .second, .unset, .unset] [])) _
        refine XS.aload X213.here hx rfl (hb hby at_200) rfl rfl ?_
        exact ht
      obtain ⟨cq222, kq222, q222a, q222b, q222c⟩ := isOf hZ (rfl : T213.heap = T213.heap) f219
      obtain ⟨_, _, ⟨T221, L221, k221, n221⟩, -, X221, ⟨Lc221, hQ221, l221, y221, z221⟩, st221⟩ := X213.virtualBack hx (y := (⟨"com/example/kindred_mesh/kindredmesh/peer/SearchTime", "lastMean", "()D"⟩ : MethodName)) (z := (⟨"com/example/kindred_mesh/kindredmesh/peer/SearchTime", "lastMean", "()D"⟩ : MethodName)) hown (mvT hZ (hw _ (List.mem_of_getElem? (i := 26) rfl))) (mvT hZ (hw _ (List.mem_of_getElem? (i := 27) rfl))) (notFace_of_selects (args := #[]) (mvT hZ (hw _ (List.mem_of_getElem? (i := 29) rfl)))) (mvT hZ (hw _ (List.mem_of_getElem? (i := 29) rfl))) (mvT hZ (hw _ (List.mem_of_getElem? (i := 28) rfl))) (by decide) (backOf (W := 0) (rmLm l Z _ hw [] b170 (FP.ddiv (FP.l2d (((0 : Int64) + (q0 &&& (2305843009213693951 : Int64))) + (q1 &&& (2305843009213693951 : Int64)))) (FP.l2d (2 : Int64))) T213.heap n0 Z220 f217) hZ (hw _ (List.mem_of_getElem? (i := 30) rfl)) (hw _ (List.mem_of_getElem? (i := 3) rfl)) (by decide) (by decide)) q222a q222c (g := (mkF m 202 #[.val (.long q0), .second, .val (.long q1), .second, .val (.long q2), .second, .val (.long q3), .second, .val (.int p4), .val (.long (q0 &&& (2305843009213693951 : Int64))), .second, .val (.long (q1 &&& (2305843009213693951 : Int64))), .second, .val (.long (q2 &&& (2305843009213693951 : Int64))), .second, .val (.long (q3 &&& (2305843009213693951 : Int64))), .second, .val (.int (2 : Int32)), .val (.int (1 : Int32)), .val (.ref b170), .val (.int (1 : Int32)), .val (.long (((q0 &&& (2305843009213693951 : Int64)) + (q1 &&& (2305843009213693951 : Int64))) + (0 : Int64))), .second, .val (.double (FP.ddiv (FP.l2d (((q0 &&& (2305843009213693951 : Int64)) + (q1 &&& (2305843009213693951 : Int64))) + (0 : Int64))) (FP.i2d (2 : Int32)))), .second, .unset, .unset] [(.ref b170)])) rfl (by rw [hml]; rfl) (Steps.refl _) (argsL := []) (rest := []) (lenOf pd_1 rfl) rfl (by show 2 * 0 + _ ≤ _; exact Nat.le_of_eq rfl) (hb hby at_202) (fun _ _ => ⟨rfl, (rfl : T213.heap = T213.heap), (by decide : 1 + 0 ≤ _), (by decide : 3 + 0 ≤ _)⟩)
      dsimp only [Pt.U, Pt.locs, Pt.cells, Pt.slots] at X221 l221 y221 z221 st221 hQ221
      subst l221 y221 z221
      obtain ⟨rfl, Nq221, hs221⟩ := hQ221
      have N223 := Fr.app N218 Nq221
      refine OFin.to (S' := T221.setTop (mkF m 205 #[.val (.long q0), .second, .val (.long q1), .second, .val (.long q2), .second, .val (.long q3), .second, .val (.int p4), .val (.long (q0 &&& (2305843009213693951 : Int64))), .second, .val (.long (q1 &&& (2305843009213693951 : Int64))), .second, .val (.long (q2 &&& (2305843009213693951 : Int64))), .second, .val (.long (q3 &&& (2305843009213693951 : Int64))), .second, .val (.int (2 : Int32)), .val (.int (1 : Int32)), .val (.ref b170), .val (.int (1 : Int32)), .val (.long (((q0 &&& (2305843009213693951 : Int64)) + (q1 &&& (2305843009213693951 : Int64))) + (0 : Int64))), .second, .val (.double (FP.ddiv (FP.l2d (((q0 &&& (2305843009213693951 : Int64)) + (q1 &&& (2305843009213693951 : Int64))) + (0 : Int64))) (FP.i2d (2 : Int32)))), .second, .unset, .unset] [(.double (FP.ddiv (FP.l2d (((0 : Int64) + (q0 &&& (2305843009213693951 : Int64))) + (q1 &&& (2305843009213693951 : Int64)))) (FP.l2d (2 : Int64))))])) st221 ?_
      refine OFin.of (S' := T221.setTop (mkF m 232 #[.val (.long q0), .second, .val (.long q1), .second, .val (.long q2), .second, .val (.long q3), .second, .val (.int p4), .val (.long (q0 &&& (2305843009213693951 : Int64))), .second, .val (.long (q1 &&& (2305843009213693951 : Int64))), .second, .val (.long (q2 &&& (2305843009213693951 : Int64))), .second, .val (.long (q3 &&& (2305843009213693951 : Int64))), .second, .val (.int (2 : Int32)), .val (.int (1 : Int32)), .val (.ref b170), .val (.int (1 : Int32)), .val (.long (((q0 &&& (2305843009213693951 : Int64)) + (q1 &&& (2305843009213693951 : Int64))) + (0 : Int64))), .second, .val (.double (FP.ddiv (FP.l2d (((q0 &&& (2305843009213693951 : Int64)) + (q1 &&& (2305843009213693951 : Int64))) + (0 : Int64))) (FP.i2d (2 : Int32)))), .second, .val (.double (FP.ddiv (FP.l2d (((0 : Int64) + (q0 &&& (2305843009213693951 : Int64))) + (q1 &&& (2305843009213693951 : Int64)))) (FP.l2d (2 : Int64)))), .second] [(.int (1 : Int32))])) (fun t ht => ?_) ?_
      · refine XS.dstore X221.here hx rfl (hb hby at_205) rfl (l' := #[.val (.long q0), .second, .val (.long q1), .second, .val (.long q2), .second, .val (.long q3), .second, .val (.int p4), .val (.long (q0 &&& (2305843009213693951 : Int64))), .second, .val (.long (q1 &&& (2305843009213693951 : Int64))), .second, .val (.long (q2 &&& (2305843009213693951 : Int64))), .second, .val (.long (q3 &&& (2305843009213693951 : Int64))), .second, .val (.int (2 : Int32)), .val (.int (1 : Int32)), .val (.ref b170), .val (.int (1 : Int32)), .val (.long (((q0 &&& (2305843009213693951 : Int64)) + (q1 &&& (2305843009213693951 : Int64))) + (0 : Int64))), .second, .val (.double (FP.ddiv (FP.l2d (((q0 &&& (2305843009213693951 : Int64)) + (q1 &&& (2305843009213693951 : Int64))) + (0 : Int64))) (FP.i2d (2 : Int32)))), .second, .val (.double (FP.ddiv (FP.l2d (((0 : Int64) + (q0 &&& (2305843009213693951 : Int64))) + (q1 &&& (2305843009213693951 : Int64)))) (FP.l2d (2 : Int64)))), .second]) rfl ?_
        show Steps p.tables e below (T221.setTop (mkF m 207 #[.val (.long q0), .second, .val (.long q1), .second, .val (.long q2), .second, .val (.long q3), .second, .val (.int p4), .val (.long (q0 &&& (2305843009213693951 : Int64))), .second, .val (.long (q1 &&& (2305843009213693951 : Int64))), .second, .val (.long (q2 &&& (2305843009213693951 : Int64))), .second, .val (.long (q3 &&& (2305843009213693951 : Int64))), .second, .val (.int (2 : Int32)), .val (.int (1 : Int32)), .val (.ref b170), .val (.int (1 : Int32)), .val (.long (((q0 &&& (2305843009213693951 : Int64)) + (q1 &&& (2305843009213693951 : Int64))) + (0 : Int64))), .second, .val (.double (FP.ddiv (FP.l2d (((q0 &&& (2305843009213693951 : Int64)) + (q1 &&& (2305843009213693951 : Int64))) + (0 : Int64))) (FP.i2d (2 : Int32)))), .second, .val (.double (FP.ddiv (FP.l2d (((0 : Int64) + (q0 &&& (2305843009213693951 : Int64))) + (q1 &&& (2305843009213693951 : Int64)))) (FP.l2d (2 : Int64)))), .second] [])) _
        refine XS.iload X221.here hx rfl (hb hby at_207) rfl ?_
        show Steps p.tables e below (T221.setTop (mkF m 209 _ [(.int (1 : Int32))])) _
        refine XS.ifNo X221.here hx rfl (hb hby at_209) rfl ((if0 _ _).trans (feq (by decide : ¬ ((1 : Int32) = (0 : Int32)))).1) ?_
        show Steps p.tables e below (T221.setTop (mkF m 212 _ [])) _
        refine XS.dload X221.here hx rfl (hb hby at_212) rfl ?_
        show Steps p.tables e below (T221.setTop (mkF m 214 _ [(.double (FP.ddiv (FP.l2d (((0 : Int64) + (q0 &&& (2305843009213693951 : Int64))) + (q1 &&& (2305843009213693951 : Int64)))) (FP.l2d (2 : Int64))))])) _
        refine XS.dload X221.here hx rfl (hb hby at_214) rfl ?_
        show Steps p.tables e below (T221.setTop (mkF m 216 _ [(.double (FP.ddiv (FP.l2d (((q0 &&& (2305843009213693951 : Int64)) + (q1 &&& (2305843009213693951 : Int64))) + (0 : Int64))) (FP.i2d (2 : Int32)))), (.double (FP.ddiv (FP.l2d (((0 : Int64) + (q0 &&& (2305843009213693951 : Int64))) + (q1 &&& (2305843009213693951 : Int64)))) (FP.l2d (2 : Int64))))])) _
        refine XS.dcmpS X221.here hx rfl (hb hby at_216) rfl rfl ?_
        show Steps p.tables e below (T221.setTop (mkF m 217 _ [(.int (cmpValue (FP.dcmp (FP.ddiv (FP.l2d (((0 : Int64) + (q0 &&& (2305843009213693951 : Int64))) + (q1 &&& (2305843009213693951 : Int64)))) (FP.l2d (2 : Int64))) (FP.ddiv (FP.l2d (((q0 &&& (2305843009213693951 : Int64)) + (q1 &&& (2305843009213693951 : Int64))) + (0 : Int64))) (FP.i2d (2 : Int32)))) .l))])) _
        refine XS.ifNo X221.here hx rfl (hb hby at_217) rfl ((if0 _ _).trans (teq (dcmpV_eq (own_e2 _ _) (own_nn _ (by decide)) .l : (cmpValue (FP.dcmp (FP.ddiv (FP.l2d (((0 : Int64) + (q0 &&& (2305843009213693951 : Int64))) + (q1 &&& (2305843009213693951 : Int64)))) (FP.l2d (2 : Int64))) (FP.ddiv (FP.l2d (((q0 &&& (2305843009213693951 : Int64)) + (q1 &&& (2305843009213693951 : Int64))) + (0 : Int64))) (FP.i2d (2 : Int32)))) .l) = (0 : Int32))).2) ?_
        show Steps p.tables e below (T221.setTop (mkF m 220 _ [])) _
        refine XS.dload X221.here hx rfl (hb hby at_220) rfl ?_
        show Steps p.tables e below (T221.setTop (mkF m 222 _ [(.double (FP.ddiv (FP.l2d (((0 : Int64) + (q0 &&& (2305843009213693951 : Int64))) + (q1 &&& (2305843009213693951 : Int64)))) (FP.l2d (2 : Int64))))])) _
        refine XS.dconst0 X221.here hx rfl (hb hby at_222) rfl ?_
        show Steps p.tables e below (T221.setTop (mkF m 223 _ [(.double FP.dconst0), (.double (FP.ddiv (FP.l2d (((0 : Int64) + (q0 &&& (2305843009213693951 : Int64))) + (q1 &&& (2305843009213693951 : Int64)))) (FP.l2d (2 : Int64))))])) _
        refine XS.dcmpS X221.here hx rfl (hb hby at_223) rfl rfl ?_
        show Steps p.tables e below (T221.setTop (mkF m 224 _ [(.int (cmpValue (FP.dcmp (FP.ddiv (FP.l2d (((0 : Int64) + (q0 &&& (2305843009213693951 : Int64))) + (q1 &&& (2305843009213693951 : Int64)))) (FP.l2d (2 : Int64))) FP.dconst0) .l))])) _
        refine XS.ifNo X221.here hx rfl (hb hby at_224) rfl ((if0 _ _).trans (flt (own_ge0 (own_p2 _ _) (by decide) : ¬ ((cmpValue (FP.dcmp (FP.ddiv (FP.l2d (((0 : Int64) + (q0 &&& (2305843009213693951 : Int64))) + (q1 &&& (2305843009213693951 : Int64)))) (FP.l2d (2 : Int64))) FP.dconst0) .l) < (0 : Int32)))).1) ?_
        show Steps p.tables e below (T221.setTop (mkF m 227 _ [])) _
        refine XS.iconst X221.here hx rfl (hb hby at_227) ?_
        show Steps p.tables e below (T221.setTop (mkF m 228 _ [(.int (1 : Int32))])) _
        refine XS.goto X221.here hx rfl (pc0 := 228) (pc' := 232) rfl (hb hby at_228) (by decide) (by decide) ?_
        exact ht
      exact OFin.retB X221 hx hlk (t := .boolean) (by simp) hret (hb hby at_232) (by decide) (by decide) (by rw [hs221]; exact ⟨rfl, N223⟩)
  · rw [hq1]
    refine OFin.of (S' := s₁.setTop (mkF m 40 #[.val (.long q0), .second, .val (.long q1), .second, .val (.long q2), .second, .val (.long q3), .second, .val (.int p4), .val (.long (q0 &&& (2305843009213693951 : Int64))), .second, .val (.long (q1 &&& (2305843009213693951 : Int64))), .second, .val (.long (q2 &&& (2305843009213693951 : Int64))), .second, .val (.long (q3 &&& (2305843009213693951 : Int64))), .second, .val (.int (3 : Int32)), .unset, .unset, .unset, .unset, .unset, .unset, .unset, .unset, .unset] [(.int (p4 &&& (4 : Int32)))])) (fun t ht => ?_) ?_
    · refine XS.istore X0.here hx rfl (hb hby at_34) rfl (l' := #[.val (.long q0), .second, .val (.long q1), .second, .val (.long q2), .second, .val (.long q3), .second, .val (.int p4), .val (.long (q0 &&& (2305843009213693951 : Int64))), .second, .val (.long (q1 &&& (2305843009213693951 : Int64))), .second, .val (.long (q2 &&& (2305843009213693951 : Int64))), .second, .val (.long (q3 &&& (2305843009213693951 : Int64))), .second, .val (.int (3 : Int32)), .unset, .unset, .unset, .unset, .unset, .unset, .unset, .unset, .unset]) rfl ?_
      show Steps p.tables e below (s₁.setTop (mkF m 36 #[.val (.long q0), .second, .val (.long q1), .second, .val (.long q2), .second, .val (.long q3), .second, .val (.int p4), .val (.long (q0 &&& (2305843009213693951 : Int64))), .second, .val (.long (q1 &&& (2305843009213693951 : Int64))), .second, .val (.long (q2 &&& (2305843009213693951 : Int64))), .second, .val (.long (q3 &&& (2305843009213693951 : Int64))), .second, .val (.int (3 : Int32)), .unset, .unset, .unset, .unset, .unset, .unset, .unset, .unset, .unset] [])) _
      refine XS.iload X0.here hx rfl (hb hby at_36) rfl ?_
      show Steps p.tables e below (s₁.setTop (mkF m 38 _ [(.int p4)])) _
      refine XS.iconst X0.here hx rfl (hb hby at_38) ?_
      show Steps p.tables e below (s₁.setTop (mkF m 39 _ [(.int (4 : Int32)), (.int p4)])) _
      refine XS.iand X0.here hx rfl (hb hby at_39) rfl ?_
      exact ht
    by_cases hc224 : (p4 &&& (4 : Int32)) = (0 : Int32)
    · refine OFin.of (S' := s₁.setTop (mkF m 50 #[.val (.long q0), .second, .val (.long q1), .second, .val (.long q2), .second, .val (.long q3), .second, .val (.int p4), .val (.long (q0 &&& (2305843009213693951 : Int64))), .second, .val (.long (q1 &&& (2305843009213693951 : Int64))), .second, .val (.long (q2 &&& (2305843009213693951 : Int64))), .second, .val (.long (q3 &&& (2305843009213693951 : Int64))), .second, .val (.int (3 : Int32)), .val (.int (0 : Int32)), .unset, .unset, .unset, .unset, .unset, .unset, .unset, .unset] [])) (fun t ht => ?_) ?_
      · refine XS.ifYes X0.here hx rfl (pc0 := 40) (pc' := 47) rfl (hb hby at_40) rfl ((if0 _ _).trans (teq (hc224 : (p4 &&& (4 : Int32)) = (0 : Int32))).1) (by decide) (by decide) ?_
        show Steps p.tables e below (s₁.setTop (mkF m 47 _ [])) _
        refine XS.iconst X0.here hx rfl (hb hby at_47) ?_
        show Steps p.tables e below (s₁.setTop (mkF m 48 _ [(.int (0 : Int32))])) _
        refine XS.istore X0.here hx rfl (hb hby at_48) rfl (l' := #[.val (.long q0), .second, .val (.long q1), .second, .val (.long q2), .second, .val (.long q3), .second, .val (.int p4), .val (.long (q0 &&& (2305843009213693951 : Int64))), .second, .val (.long (q1 &&& (2305843009213693951 : Int64))), .second, .val (.long (q2 &&& (2305843009213693951 : Int64))), .second, .val (.long (q3 &&& (2305843009213693951 : Int64))), .second, .val (.int (3 : Int32)), .val (.int (0 : Int32)), .unset, .unset, .unset, .unset, .unset, .unset, .unset, .unset]) rfl ?_
        exact ht
      obtain ⟨T225, h225, X225, e225, E225, A225, D225, -, st225⟩ := newO X0 hx hZ hown (hw _ (List.mem_of_getElem? (i := 1) rfl)) (hw _ (List.mem_of_getElem? (i := 2) rfl)) (hw _ (List.mem_of_getElem? (i := 3) rfl)) e0 (g := (mkF m 50 #[.val (.long q0), .second, .val (.long q1), .second, .val (.long q2), .second, .val (.long q3), .second, .val (.int p4), .val (.long (q0 &&& (2305843009213693951 : Int64))), .second, .val (.long (q1 &&& (2305843009213693951 : Int64))), .second, .val (.long (q2 &&& (2305843009213693951 : Int64))), .second, .val (.long (q3 &&& (2305843009213693951 : Int64))), .second, .val (.int (3 : Int32)), .val (.int (0 : Int32)), .unset, .unset, .unset, .unset, .unset, .unset, .unset, .unset] [])) rfl (hb hby at_50) (by decide) (by decide)
      obtain ⟨b225, gq225⟩ : ∃ z, z = h0.size := ⟨_, rfl⟩
      rw [← gq225] at A225 D225 st225
      have g226 : n0 ≤ b225 := (Nat.le_trans Z0 (Nat.le_of_eq gq225.symm))
      have Z227 : n0 ≤ h225.size := (Nat.le_trans Z0 E225.1)
      have f228 : Fld Z h225 b225 "com/example/kindred_mesh/kindredmesh/peer/SearchTime" "served" "J" (.long (0 : Int64)) := D225 (Or.inl (hw _ (List.mem_of_getElem? (i := 16) rfl))) (ty := .long) (by decide)
      have f229 : Fld Z h225 b225 "com/example/kindred_mesh/kindredmesh/peer/SearchTime" "total" "J" (.long (0 : Int64)) := D225 (Or.inl (hw _ (List.mem_of_getElem? (i := 18) rfl))) (ty := .long) (by decide)
      have f230 : Fld Z h225 b225 "com/example/kindred_mesh/kindredmesh/peer/SearchTime" "lastMean" "D" (.double 0) := D225 (Or.inl (hw _ (List.mem_of_getElem? (i := 25) rfl))) (ty := .double) (by decide)
      refine OFin.of (S' := T225.setTop (mkF m 53 #[.val (.long q0), .second, .val (.long q1), .second, .val (.long q2), .second, .val (.long q3), .second, .val (.int p4), .val (.long (q0 &&& (2305843009213693951 : Int64))), .second, .val (.long (q1 &&& (2305843009213693951 : Int64))), .second, .val (.long (q2 &&& (2305843009213693951 : Int64))), .second, .val (.long (q3 &&& (2305843009213693951 : Int64))), .second, .val (.int (3 : Int32)), .val (.int (0 : Int32)), .unset, .unset, .unset, .unset, .unset, .unset, .unset, .unset] [(.ref b225)])) (fun t ht => st225 t ht) ?_
      refine OFin.of (S' := T225.setTop (mkF m 54 #[.val (.long q0), .second, .val (.long q1), .second, .val (.long q2), .second, .val (.long q3), .second, .val (.int p4), .val (.long (q0 &&& (2305843009213693951 : Int64))), .second, .val (.long (q1 &&& (2305843009213693951 : Int64))), .second, .val (.long (q2 &&& (2305843009213693951 : Int64))), .second, .val (.long (q3 &&& (2305843009213693951 : Int64))), .second, .val (.int (3 : Int32)), .val (.int (0 : Int32)), .unset, .unset, .unset, .unset, .unset, .unset, .unset, .unset] [(.ref b225), (.ref b225)])) (fun t ht => ?_) ?_
      · refine XS.dup X225.here hx rfl (hb hby at_53) rfl rfl ?_
        exact ht
      obtain ⟨_, _, ⟨T231, L231, k231, n231⟩, -, X231, ⟨Lc231, hQ231, l231, y231, z231⟩, st231⟩ := X225.specialBack hx (y := (⟨"com/example/kindred_mesh/kindredmesh/peer/SearchTime", "<init>", "()V"⟩ : MethodName)) rfl hown (mvT hZ (hw _ (List.mem_of_getElem? (i := 4) rfl))) (mvT hZ (hw _ (List.mem_of_getElem? (i := 5) rfl))) (mvT hZ (hw _ (List.mem_of_getElem? (i := 6) rfl))) (by decide) (backOf (W := 1) (rmIni l Z _ hw [] b225 h225 n0 Z227 ) hZ (hw _ (List.mem_of_getElem? (i := 6) rfl)) (hw _ (List.mem_of_getElem? (i := 3) rfl)) (by decide) (by decide)) (g := (mkF m 54 #[.val (.long q0), .second, .val (.long q1), .second, .val (.long q2), .second, .val (.long q3), .second, .val (.int p4), .val (.long (q0 &&& (2305843009213693951 : Int64))), .second, .val (.long (q1 &&& (2305843009213693951 : Int64))), .second, .val (.long (q2 &&& (2305843009213693951 : Int64))), .second, .val (.long (q3 &&& (2305843009213693951 : Int64))), .second, .val (.int (3 : Int32)), .val (.int (0 : Int32)), .unset, .unset, .unset, .unset, .unset, .unset, .unset, .unset] [(.ref b225), (.ref b225)])) rfl (by rw [hml]; rfl) (Steps.refl _) (a := b225) (argsL := []) (rest := [(.ref b225)]) (lenOf pd_0 rfl) rfl (by show 2 * 0 + _ ≤ _; exact Nat.le_of_eq rfl) (hb hby at_54) (fun _ _ => ⟨rfl, e225, (by decide : 1 + 0 ≤ _), (by decide : 3 + 0 ≤ _)⟩)
      dsimp only [Pt.U, Pt.locs, Pt.cells, Pt.slots] at X231 l231 y231 z231 st231 hQ231
      subst l231 y231 z231
      obtain ⟨rfl, Nq231, hs231⟩ := hQ231
      have N232 := Fr.app N0 Nq231
      refine OFin.to (S' := T231.setTop (mkF m 57 #[.val (.long q0), .second, .val (.long q1), .second, .val (.long q2), .second, .val (.long q3), .second, .val (.int p4), .val (.long (q0 &&& (2305843009213693951 : Int64))), .second, .val (.long (q1 &&& (2305843009213693951 : Int64))), .second, .val (.long (q2 &&& (2305843009213693951 : Int64))), .second, .val (.long (q3 &&& (2305843009213693951 : Int64))), .second, .val (.int (3 : Int32)), .val (.int (0 : Int32)), .unset, .unset, .unset, .unset, .unset, .unset, .unset, .unset] [(.ref b225)])) st231 ?_
      refine OFin.of (S' := T231.setTop (mkF m 108 #[.val (.long q0), .second, .val (.long q1), .second, .val (.long q2), .second, .val (.long q3), .second, .val (.int p4), .val (.long (q0 &&& (2305843009213693951 : Int64))), .second, .val (.long (q1 &&& (2305843009213693951 : Int64))), .second, .val (.long (q2 &&& (2305843009213693951 : Int64))), .second, .val (.long (q3 &&& (2305843009213693951 : Int64))), .second, .val (.int (3 : Int32)), .val (.int (0 : Int32)), .val (.ref b225), .val (.int (1 : Int32)), .unset, .unset, .unset, .unset, .unset, .unset] [(.long (q0 &&& (2305843009213693951 : Int64))), (.ref b225)])) (fun t ht => ?_) ?_
      · refine XS.astore X231.here hx rfl (hb hby at_57) rfl rfl (l' := #[.val (.long q0), .second, .val (.long q1), .second, .val (.long q2), .second, .val (.long q3), .second, .val (.int p4), .val (.long (q0 &&& (2305843009213693951 : Int64))), .second, .val (.long (q1 &&& (2305843009213693951 : Int64))), .second, .val (.long (q2 &&& (2305843009213693951 : Int64))), .second, .val (.long (q3 &&& (2305843009213693951 : Int64))), .second, .val (.int (3 : Int32)), .val (.int (0 : Int32)), .val (.ref b225), .unset, .unset, .unset, .unset, .unset, .unset, .unset]) rfl ?_
        show Steps p.tables e below (T231.setTop (mkF m 59 #[.val (.long q0), .second, .val (.long q1), .second, .val (.long q2), .second, .val (.long q3), .second, .val (.int p4), .val (.long (q0 &&& (2305843009213693951 : Int64))), .second, .val (.long (q1 &&& (2305843009213693951 : Int64))), .second, .val (.long (q2 &&& (2305843009213693951 : Int64))), .second, .val (.long (q3 &&& (2305843009213693951 : Int64))), .second, .val (.int (3 : Int32)), .val (.int (0 : Int32)), .val (.ref b225), .unset, .unset, .unset, .unset, .unset, .unset, .unset] [])) _
        refine XS.iconst X231.here hx rfl (hb hby at_59) ?_
        show Steps p.tables e below (T231.setTop (mkF m 60 _ [(.int (1 : Int32))])) _
        refine XS.istore X231.here hx rfl (hb hby at_60) rfl (l' := #[.val (.long q0), .second, .val (.long q1), .second, .val (.long q2), .second, .val (.long q3), .second, .val (.int p4), .val (.long (q0 &&& (2305843009213693951 : Int64))), .second, .val (.long (q1 &&& (2305843009213693951 : Int64))), .second, .val (.long (q2 &&& (2305843009213693951 : Int64))), .second, .val (.long (q3 &&& (2305843009213693951 : Int64))), .second, .val (.int (3 : Int32)), .val (.int (0 : Int32)), .val (.ref b225), .val (.int (1 : Int32)), .unset, .unset, .unset, .unset, .unset, .unset]) rfl ?_
        show Steps p.tables e below (T231.setTop (mkF m 62 #[.val (.long q0), .second, .val (.long q1), .second, .val (.long q2), .second, .val (.long q3), .second, .val (.int p4), .val (.long (q0 &&& (2305843009213693951 : Int64))), .second, .val (.long (q1 &&& (2305843009213693951 : Int64))), .second, .val (.long (q2 &&& (2305843009213693951 : Int64))), .second, .val (.long (q3 &&& (2305843009213693951 : Int64))), .second, .val (.int (3 : Int32)), .val (.int (0 : Int32)), .val (.ref b225), .val (.int (1 : Int32)), .unset, .unset, .unset, .unset, .unset, .unset] [])) _
        refine XS.iload X231.here hx rfl (hb hby at_62) rfl ?_
        show Steps p.tables e below (T231.setTop (mkF m 64 _ [(.int (0 : Int32))])) _
        refine XS.ifYes X231.here hx rfl (pc0 := 64) (pc' := 98) rfl (hb hby at_64) rfl ((if0 _ _).trans (teq (by decide : (0 : Int32) = (0 : Int32))).1) (by decide) (by decide) ?_
        show Steps p.tables e below (T231.setTop (mkF m 98 _ [])) _
        refine XS.iload X231.here hx rfl (hb hby at_98) rfl ?_
        show Steps p.tables e below (T231.setTop (mkF m 100 _ [(.int (3 : Int32))])) _
        refine XS.iconst X231.here hx rfl (hb hby at_100) ?_
        show Steps p.tables e below (T231.setTop (mkF m 101 _ [(.int (1 : Int32)), (.int (3 : Int32))])) _
        refine XS.icmpNo X231.here hx rfl (hb hby at_101) rfl (flt (by decide : ¬ ((3 : Int32) < (1 : Int32)))).1 ?_
        show Steps p.tables e below (T231.setTop (mkF m 104 _ [])) _
        refine XS.aload X231.here hx rfl (hb hby at_104) rfl rfl ?_
        show Steps p.tables e below (T231.setTop (mkF m 106 _ [(.ref b225)])) _
        refine XS.lload X231.here hx rfl (hb hby at_106) rfl ?_
        exact ht
      obtain ⟨cq234, kq234, q234a, q234b, q234c⟩ := isOf hZ hs231 A225
      obtain ⟨_, _, ⟨T233, L233, k233, n233⟩, -, X233, ⟨Lc233, hQ233, l233, y233, z233⟩, st233⟩ := X231.virtualBack hx (y := (⟨"com/example/kindred_mesh/kindredmesh/peer/SearchTime", "served", "(J)V"⟩ : MethodName)) (z := (⟨"com/example/kindred_mesh/kindredmesh/peer/SearchTime", "served", "(J)V"⟩ : MethodName)) hown (mvT hZ (hw _ (List.mem_of_getElem? (i := 10) rfl))) (mvT hZ (hw _ (List.mem_of_getElem? (i := 11) rfl))) (notFace_of_selects (args := #[]) (mvT hZ (hw _ (List.mem_of_getElem? (i := 13) rfl)))) (mvT hZ (hw _ (List.mem_of_getElem? (i := 13) rfl))) (mvT hZ (hw _ (List.mem_of_getElem? (i := 12) rfl))) (by decide) (backOf (W := 0) (rmSv l Z _ hw [] b225 (q0 &&& (2305843009213693951 : Int64)) (0 : Int64) (0 : Int64) 0 h225 n0 Z227 A225 f228 f229 f230 g226) hZ (hw _ (List.mem_of_getElem? (i := 14) rfl)) (hw _ (List.mem_of_getElem? (i := 3) rfl)) (by decide) (by decide)) q234a q234c (g := (mkF m 108 #[.val (.long q0), .second, .val (.long q1), .second, .val (.long q2), .second, .val (.long q3), .second, .val (.int p4), .val (.long (q0 &&& (2305843009213693951 : Int64))), .second, .val (.long (q1 &&& (2305843009213693951 : Int64))), .second, .val (.long (q2 &&& (2305843009213693951 : Int64))), .second, .val (.long (q3 &&& (2305843009213693951 : Int64))), .second, .val (.int (3 : Int32)), .val (.int (0 : Int32)), .val (.ref b225), .val (.int (1 : Int32)), .unset, .unset, .unset, .unset, .unset, .unset] [(.long (q0 &&& (2305843009213693951 : Int64))), (.ref b225)])) rfl (by rw [hml]; rfl) (Steps.refl _) (argsL := [(.long (q0 &&& (2305843009213693951 : Int64)))]) (rest := []) (lenOf pd_2 rfl) rfl (by show 2 * 0 + _ ≤ _; exact Nat.le_of_eq rfl) (hb hby at_108) (fun _ _ => ⟨rfl, hs231, (by decide : 1 + 0 ≤ _), (by decide : 3 + 0 ≤ _)⟩)
      dsimp only [Pt.U, Pt.locs, Pt.cells, Pt.slots] at X233 l233 y233 z233 st233 hQ233
      subst l233 y233 z233
      obtain ⟨rfl, Nq233, Kq233, f235, f236, f237⟩ := hQ233
      have N238 := Fr.app N232 Nq233
      have f239 := (A225.keep Kq233)
      have Z240 : n0 ≤ T233.heap.size := (Nat.le_trans Z227 Kq233.1)
      refine OFin.to (S' := T233.setTop (mkF m 111 #[.val (.long q0), .second, .val (.long q1), .second, .val (.long q2), .second, .val (.long q3), .second, .val (.int p4), .val (.long (q0 &&& (2305843009213693951 : Int64))), .second, .val (.long (q1 &&& (2305843009213693951 : Int64))), .second, .val (.long (q2 &&& (2305843009213693951 : Int64))), .second, .val (.long (q3 &&& (2305843009213693951 : Int64))), .second, .val (.int (3 : Int32)), .val (.int (0 : Int32)), .val (.ref b225), .val (.int (1 : Int32)), .unset, .unset, .unset, .unset, .unset, .unset] [])) st233 ?_
      refine OFin.of (S' := T233.setTop (mkF m 121 #[.val (.long q0), .second, .val (.long q1), .second, .val (.long q2), .second, .val (.long q3), .second, .val (.int p4), .val (.long (q0 &&& (2305843009213693951 : Int64))), .second, .val (.long (q1 &&& (2305843009213693951 : Int64))), .second, .val (.long (q2 &&& (2305843009213693951 : Int64))), .second, .val (.long (q3 &&& (2305843009213693951 : Int64))), .second, .val (.int (3 : Int32)), .val (.int (0 : Int32)), .val (.ref b225), .val (.int (1 : Int32)), .unset, .unset, .unset, .unset, .unset, .unset] [(.long (q1 &&& (2305843009213693951 : Int64))), (.ref b225)])) (fun t ht => ?_) ?_
      · refine XS.iload X233.here hx rfl (hb hby at_111) rfl ?_
        show Steps p.tables e below (T233.setTop (mkF m 113 _ [(.int (3 : Int32))])) _
        refine XS.iconst X233.here hx rfl (hb hby at_113) ?_
        show Steps p.tables e below (T233.setTop (mkF m 114 _ [(.int (2 : Int32)), (.int (3 : Int32))])) _
        refine XS.icmpNo X233.here hx rfl (hb hby at_114) rfl (flt (by decide : ¬ ((3 : Int32) < (2 : Int32)))).1 ?_
        show Steps p.tables e below (T233.setTop (mkF m 117 _ [])) _
        refine XS.aload X233.here hx rfl (hb hby at_117) rfl rfl ?_
        show Steps p.tables e below (T233.setTop (mkF m 119 _ [(.ref b225)])) _
        refine XS.lload X233.here hx rfl (hb hby at_119) rfl ?_
        exact ht
      obtain ⟨cq242, kq242, q242a, q242b, q242c⟩ := isOf hZ (rfl : T233.heap = T233.heap) f239
      obtain ⟨_, _, ⟨T241, L241, k241, n241⟩, -, X241, ⟨Lc241, hQ241, l241, y241, z241⟩, st241⟩ := X233.virtualBack hx (y := (⟨"com/example/kindred_mesh/kindredmesh/peer/SearchTime", "served", "(J)V"⟩ : MethodName)) (z := (⟨"com/example/kindred_mesh/kindredmesh/peer/SearchTime", "served", "(J)V"⟩ : MethodName)) hown (mvT hZ (hw _ (List.mem_of_getElem? (i := 10) rfl))) (mvT hZ (hw _ (List.mem_of_getElem? (i := 11) rfl))) (notFace_of_selects (args := #[]) (mvT hZ (hw _ (List.mem_of_getElem? (i := 13) rfl)))) (mvT hZ (hw _ (List.mem_of_getElem? (i := 13) rfl))) (mvT hZ (hw _ (List.mem_of_getElem? (i := 12) rfl))) (by decide) (backOf (W := 0) (rmSv l Z _ hw [] b225 (q1 &&& (2305843009213693951 : Int64)) (1 : Int64) ((0 : Int64) + (q0 &&& (2305843009213693951 : Int64))) 0 T233.heap n0 Z240 f239 f235 f236 f237 g226) hZ (hw _ (List.mem_of_getElem? (i := 14) rfl)) (hw _ (List.mem_of_getElem? (i := 3) rfl)) (by decide) (by decide)) q242a q242c (g := (mkF m 121 #[.val (.long q0), .second, .val (.long q1), .second, .val (.long q2), .second, .val (.long q3), .second, .val (.int p4), .val (.long (q0 &&& (2305843009213693951 : Int64))), .second, .val (.long (q1 &&& (2305843009213693951 : Int64))), .second, .val (.long (q2 &&& (2305843009213693951 : Int64))), .second, .val (.long (q3 &&& (2305843009213693951 : Int64))), .second, .val (.int (3 : Int32)), .val (.int (0 : Int32)), .val (.ref b225), .val (.int (1 : Int32)), .unset, .unset, .unset, .unset, .unset, .unset] [(.long (q1 &&& (2305843009213693951 : Int64))), (.ref b225)])) rfl (by rw [hml]; rfl) (Steps.refl _) (argsL := [(.long (q1 &&& (2305843009213693951 : Int64)))]) (rest := []) (lenOf pd_2 rfl) rfl (by show 2 * 0 + _ ≤ _; exact Nat.le_of_eq rfl) (hb hby at_121) (fun _ _ => ⟨rfl, (rfl : T233.heap = T233.heap), (by decide : 1 + 0 ≤ _), (by decide : 3 + 0 ≤ _)⟩)
      dsimp only [Pt.U, Pt.locs, Pt.cells, Pt.slots] at X241 l241 y241 z241 st241 hQ241
      subst l241 y241 z241
      obtain ⟨rfl, Nq241, Kq241, f243, f244, f245⟩ := hQ241
      have N246 := Fr.app N238 Nq241
      have f247 := (f239.keep Kq241)
      have Z248 : n0 ≤ T241.heap.size := (Nat.le_trans Z240 Kq241.1)
      refine OFin.to (S' := T241.setTop (mkF m 124 #[.val (.long q0), .second, .val (.long q1), .second, .val (.long q2), .second, .val (.long q3), .second, .val (.int p4), .val (.long (q0 &&& (2305843009213693951 : Int64))), .second, .val (.long (q1 &&& (2305843009213693951 : Int64))), .second, .val (.long (q2 &&& (2305843009213693951 : Int64))), .second, .val (.long (q3 &&& (2305843009213693951 : Int64))), .second, .val (.int (3 : Int32)), .val (.int (0 : Int32)), .val (.ref b225), .val (.int (1 : Int32)), .unset, .unset, .unset, .unset, .unset, .unset] [])) st241 ?_
      refine OFin.of (S' := T241.setTop (mkF m 134 #[.val (.long q0), .second, .val (.long q1), .second, .val (.long q2), .second, .val (.long q3), .second, .val (.int p4), .val (.long (q0 &&& (2305843009213693951 : Int64))), .second, .val (.long (q1 &&& (2305843009213693951 : Int64))), .second, .val (.long (q2 &&& (2305843009213693951 : Int64))), .second, .val (.long (q3 &&& (2305843009213693951 : Int64))), .second, .val (.int (3 : Int32)), .val (.int (0 : Int32)), .val (.ref b225), .val (.int (1 : Int32)), .unset, .unset, .unset, .unset, .unset, .unset] [(.long (q2 &&& (2305843009213693951 : Int64))), (.ref b225)])) (fun t ht => ?_) ?_
      · refine XS.iload X241.here hx rfl (hb hby at_124) rfl ?_
        show Steps p.tables e below (T241.setTop (mkF m 126 _ [(.int (3 : Int32))])) _
        refine XS.iconst X241.here hx rfl (hb hby at_126) ?_
        show Steps p.tables e below (T241.setTop (mkF m 127 _ [(.int (3 : Int32)), (.int (3 : Int32))])) _
        refine XS.icmpNo X241.here hx rfl (hb hby at_127) rfl (flt (by decide : ¬ ((3 : Int32) < (3 : Int32)))).1 ?_
        show Steps p.tables e below (T241.setTop (mkF m 130 _ [])) _
        refine XS.aload X241.here hx rfl (hb hby at_130) rfl rfl ?_
        show Steps p.tables e below (T241.setTop (mkF m 132 _ [(.ref b225)])) _
        refine XS.lload X241.here hx rfl (hb hby at_132) rfl ?_
        exact ht
      obtain ⟨cq250, kq250, q250a, q250b, q250c⟩ := isOf hZ (rfl : T241.heap = T241.heap) f247
      obtain ⟨_, _, ⟨T249, L249, k249, n249⟩, -, X249, ⟨Lc249, hQ249, l249, y249, z249⟩, st249⟩ := X241.virtualBack hx (y := (⟨"com/example/kindred_mesh/kindredmesh/peer/SearchTime", "served", "(J)V"⟩ : MethodName)) (z := (⟨"com/example/kindred_mesh/kindredmesh/peer/SearchTime", "served", "(J)V"⟩ : MethodName)) hown (mvT hZ (hw _ (List.mem_of_getElem? (i := 10) rfl))) (mvT hZ (hw _ (List.mem_of_getElem? (i := 11) rfl))) (notFace_of_selects (args := #[]) (mvT hZ (hw _ (List.mem_of_getElem? (i := 13) rfl)))) (mvT hZ (hw _ (List.mem_of_getElem? (i := 13) rfl))) (mvT hZ (hw _ (List.mem_of_getElem? (i := 12) rfl))) (by decide) (backOf (W := 0) (rmSv l Z _ hw [] b225 (q2 &&& (2305843009213693951 : Int64)) (2 : Int64) (((0 : Int64) + (q0 &&& (2305843009213693951 : Int64))) + (q1 &&& (2305843009213693951 : Int64))) 0 T241.heap n0 Z248 f247 f243 f244 f245 g226) hZ (hw _ (List.mem_of_getElem? (i := 14) rfl)) (hw _ (List.mem_of_getElem? (i := 3) rfl)) (by decide) (by decide)) q250a q250c (g := (mkF m 134 #[.val (.long q0), .second, .val (.long q1), .second, .val (.long q2), .second, .val (.long q3), .second, .val (.int p4), .val (.long (q0 &&& (2305843009213693951 : Int64))), .second, .val (.long (q1 &&& (2305843009213693951 : Int64))), .second, .val (.long (q2 &&& (2305843009213693951 : Int64))), .second, .val (.long (q3 &&& (2305843009213693951 : Int64))), .second, .val (.int (3 : Int32)), .val (.int (0 : Int32)), .val (.ref b225), .val (.int (1 : Int32)), .unset, .unset, .unset, .unset, .unset, .unset] [(.long (q2 &&& (2305843009213693951 : Int64))), (.ref b225)])) rfl (by rw [hml]; rfl) (Steps.refl _) (argsL := [(.long (q2 &&& (2305843009213693951 : Int64)))]) (rest := []) (lenOf pd_2 rfl) rfl (by show 2 * 0 + _ ≤ _; exact Nat.le_of_eq rfl) (hb hby at_134) (fun _ _ => ⟨rfl, (rfl : T241.heap = T241.heap), (by decide : 1 + 0 ≤ _), (by decide : 3 + 0 ≤ _)⟩)
      dsimp only [Pt.U, Pt.locs, Pt.cells, Pt.slots] at X249 l249 y249 z249 st249 hQ249
      subst l249 y249 z249
      obtain ⟨rfl, Nq249, Kq249, f251, f252, f253⟩ := hQ249
      have N254 := Fr.app N246 Nq249
      have f255 := (f247.keep Kq249)
      have Z256 : n0 ≤ T249.heap.size := (Nat.le_trans Z248 Kq249.1)
      refine OFin.to (S' := T249.setTop (mkF m 137 #[.val (.long q0), .second, .val (.long q1), .second, .val (.long q2), .second, .val (.long q3), .second, .val (.int p4), .val (.long (q0 &&& (2305843009213693951 : Int64))), .second, .val (.long (q1 &&& (2305843009213693951 : Int64))), .second, .val (.long (q2 &&& (2305843009213693951 : Int64))), .second, .val (.long (q3 &&& (2305843009213693951 : Int64))), .second, .val (.int (3 : Int32)), .val (.int (0 : Int32)), .val (.ref b225), .val (.int (1 : Int32)), .unset, .unset, .unset, .unset, .unset, .unset] [])) st249 ?_
      refine OFin.of (S' := T249.setTop (mkF m 139 #[.val (.long q0), .second, .val (.long q1), .second, .val (.long q2), .second, .val (.long q3), .second, .val (.int p4), .val (.long (q0 &&& (2305843009213693951 : Int64))), .second, .val (.long (q1 &&& (2305843009213693951 : Int64))), .second, .val (.long (q2 &&& (2305843009213693951 : Int64))), .second, .val (.long (q3 &&& (2305843009213693951 : Int64))), .second, .val (.int (3 : Int32)), .val (.int (0 : Int32)), .val (.ref b225), .val (.int (1 : Int32)), .unset, .unset, .unset, .unset, .unset, .unset] [(.ref b225)])) (fun t ht => ?_) ?_
      · refine XS.aload X249.here hx rfl (hb hby at_137) rfl rfl ?_
        exact ht
      obtain ⟨cq258, kq258, q258a, q258b, q258c⟩ := isOf hZ (rfl : T249.heap = T249.heap) f255
      obtain ⟨_, _, ⟨T257, L257, k257, n257⟩, -, X257, ⟨Lc257, hQ257, l257, y257, z257⟩, st257⟩ := X249.virtualBack hx (y := (⟨"com/example/kindred_mesh/kindredmesh/peer/SearchTime", "newPeriod", "()V"⟩ : MethodName)) (z := (⟨"com/example/kindred_mesh/kindredmesh/peer/SearchTime", "newPeriod", "()V"⟩ : MethodName)) hown (mvT hZ (hw _ (List.mem_of_getElem? (i := 19) rfl))) (mvT hZ (hw _ (List.mem_of_getElem? (i := 20) rfl))) (notFace_of_selects (args := #[]) (mvT hZ (hw _ (List.mem_of_getElem? (i := 22) rfl)))) (mvT hZ (hw _ (List.mem_of_getElem? (i := 22) rfl))) (mvT hZ (hw _ (List.mem_of_getElem? (i := 21) rfl))) (by decide) (backOf (W := 0) (rmNp1 l Z _ hw [] b225 (3 : Int64) ((((0 : Int64) + (q0 &&& (2305843009213693951 : Int64))) + (q1 &&& (2305843009213693951 : Int64))) + (q2 &&& (2305843009213693951 : Int64))) 0 T249.heap n0 Z256 f255 f251 f252 f253 g226 (by decide) (own_nn _ (by decide))) hZ (hw _ (List.mem_of_getElem? (i := 23) rfl)) (hw _ (List.mem_of_getElem? (i := 3) rfl)) (by decide) (by decide)) q258a q258c (g := (mkF m 139 #[.val (.long q0), .second, .val (.long q1), .second, .val (.long q2), .second, .val (.long q3), .second, .val (.int p4), .val (.long (q0 &&& (2305843009213693951 : Int64))), .second, .val (.long (q1 &&& (2305843009213693951 : Int64))), .second, .val (.long (q2 &&& (2305843009213693951 : Int64))), .second, .val (.long (q3 &&& (2305843009213693951 : Int64))), .second, .val (.int (3 : Int32)), .val (.int (0 : Int32)), .val (.ref b225), .val (.int (1 : Int32)), .unset, .unset, .unset, .unset, .unset, .unset] [(.ref b225)])) rfl (by rw [hml]; rfl) (Steps.refl _) (argsL := []) (rest := []) (lenOf pd_0 rfl) rfl (by show 2 * 0 + _ ≤ _; exact Nat.le_of_eq rfl) (hb hby at_139) (fun _ _ => ⟨rfl, (rfl : T249.heap = T249.heap), (by decide : 1 + 0 ≤ _), (by decide : 3 + 0 ≤ _)⟩)
      dsimp only [Pt.U, Pt.locs, Pt.cells, Pt.slots] at X257 l257 y257 z257 st257 hQ257
      subst l257 y257 z257
      obtain ⟨rfl, Nq257, Kq257, f259, f260, f261⟩ := hQ257
      have N262 := Fr.app N254 Nq257
      have f263 := (f255.keep Kq257)
      have Z264 : n0 ≤ T257.heap.size := (Nat.le_trans Z256 Kq257.1)
      refine OFin.to (S' := T257.setTop (mkF m 142 #[.val (.long q0), .second, .val (.long q1), .second, .val (.long q2), .second, .val (.long q3), .second, .val (.int p4), .val (.long (q0 &&& (2305843009213693951 : Int64))), .second, .val (.long (q1 &&& (2305843009213693951 : Int64))), .second, .val (.long (q2 &&& (2305843009213693951 : Int64))), .second, .val (.long (q3 &&& (2305843009213693951 : Int64))), .second, .val (.int (3 : Int32)), .val (.int (0 : Int32)), .val (.ref b225), .val (.int (1 : Int32)), .unset, .unset, .unset, .unset, .unset, .unset] [])) st257 ?_
      refine OFin.of (S' := T257.setTop (mkF m 202 #[.val (.long q0), .second, .val (.long q1), .second, .val (.long q2), .second, .val (.long q3), .second, .val (.int p4), .val (.long (q0 &&& (2305843009213693951 : Int64))), .second, .val (.long (q1 &&& (2305843009213693951 : Int64))), .second, .val (.long (q2 &&& (2305843009213693951 : Int64))), .second, .val (.long (q3 &&& (2305843009213693951 : Int64))), .second, .val (.int (3 : Int32)), .val (.int (0 : Int32)), .val (.ref b225), .val (.int (1 : Int32)), .val (.long (((q0 &&& (2305843009213693951 : Int64)) + (q1 &&& (2305843009213693951 : Int64))) + (q2 &&& (2305843009213693951 : Int64)))), .second, .val (.double (FP.ddiv (FP.l2d (((q0 &&& (2305843009213693951 : Int64)) + (q1 &&& (2305843009213693951 : Int64))) + (q2 &&& (2305843009213693951 : Int64)))) (FP.i2d (3 : Int32)))), .second, .unset, .unset] [(.ref b225)])) (fun t ht => ?_) ?_
      · refine XS.iload X257.here hx rfl (hb hby at_142) rfl ?_
        show Steps p.tables e below (T257.setTop (mkF m 144 _ [(.int (3 : Int32))])) _
        refine XS.iconst X257.here hx rfl (hb hby at_144) ?_
        show Steps p.tables e below (T257.setTop (mkF m 145 _ [(.int (1 : Int32)), (.int (3 : Int32))])) _
        refine XS.icmpNo X257.here hx rfl (hb hby at_145) rfl (flt (by decide : ¬ ((3 : Int32) < (1 : Int32)))).1 ?_
        show Steps p.tables e below (T257.setTop (mkF m 148 _ [])) _
        refine XS.lload X257.here hx rfl (hb hby at_148) rfl ?_
        show Steps p.tables e below (T257.setTop (mkF m 150 _ [(.long (q0 &&& (2305843009213693951 : Int64)))])) _
        refine XS.goto X257.here hx rfl (pc0 := 150) (pc' := 154) rfl (hb hby at_150) (by decide) (by decide) ?_
        show Steps p.tables e below (T257.setTop (mkF m 154 _ [(.long (q0 &&& (2305843009213693951 : Int64)))])) _
        refine XS.iload X257.here hx rfl (hb hby at_154) rfl ?_
        show Steps p.tables e below (T257.setTop (mkF m 156 _ [(.int (3 : Int32)), (.long (q0 &&& (2305843009213693951 : Int64)))])) _
        refine XS.iconst X257.here hx rfl (hb hby at_156) ?_
        show Steps p.tables e below (T257.setTop (mkF m 157 _ [(.int (2 : Int32)), (.int (3 : Int32)), (.long (q0 &&& (2305843009213693951 : Int64)))])) _
        refine XS.icmpNo X257.here hx rfl (hb hby at_157) rfl (flt (by decide : ¬ ((3 : Int32) < (2 : Int32)))).1 ?_
        show Steps p.tables e below (T257.setTop (mkF m 160 _ [(.long (q0 &&& (2305843009213693951 : Int64)))])) _
        refine XS.lload X257.here hx rfl (hb hby at_160) rfl ?_
        show Steps p.tables e below (T257.setTop (mkF m 162 _ [(.long (q1 &&& (2305843009213693951 : Int64))), (.long (q0 &&& (2305843009213693951 : Int64)))])) _
        refine XS.goto X257.here hx rfl (pc0 := 162) (pc' := 166) rfl (hb hby at_162) (by decide) (by decide) ?_
        show Steps p.tables e below (T257.setTop (mkF m 166 _ [(.long (q1 &&& (2305843009213693951 : Int64))), (.long (q0 &&& (2305843009213693951 : Int64)))])) _
        refine XS.ladd X257.here hx rfl (hb hby at_166) rfl ?_
        show Steps p.tables e below (T257.setTop (mkF m 167 _ [(.long ((q0 &&& (2305843009213693951 : Int64)) + (q1 &&& (2305843009213693951 : Int64))))])) _
        refine XS.iload X257.here hx rfl (hb hby at_167) rfl ?_
        show Steps p.tables e below (T257.setTop (mkF m 169 _ [(.int (3 : Int32)), (.long ((q0 &&& (2305843009213693951 : Int64)) + (q1 &&& (2305843009213693951 : Int64))))])) _
        refine XS.iconst X257.here hx rfl (hb hby at_169) ?_
        show Steps p.tables e below (T257.setTop (mkF m 170 _ [(.int (3 : Int32)), (.int (3 : Int32)), (.long ((q0 &&& (2305843009213693951 : Int64)) + (q1 &&& (2305843009213693951 : Int64))))])) _
        refine XS.icmpNo X257.here hx rfl (hb hby at_170) rfl (flt (by decide : ¬ ((3 : Int32) < (3 : Int32)))).1 ?_
        show Steps p.tables e below (T257.setTop (mkF m 173 _ [(.long ((q0 &&& (2305843009213693951 : Int64)) + (q1 &&& (2305843009213693951 : Int64))))])) _
        refine XS.lload X257.here hx rfl (hb hby at_173) rfl ?_
        show Steps p.tables e below (T257.setTop (mkF m 175 _ [(.long (q2 &&& (2305843009213693951 : Int64))), (.long ((q0 &&& (2305843009213693951 : Int64)) + (q1 &&& (2305843009213693951 : Int64))))])) _
        refine XS.goto X257.here hx rfl (pc0 := 175) (pc' := 179) rfl (hb hby at_175) (by decide) (by decide) ?_
        show Steps p.tables e below (T257.setTop (mkF m 179 _ [(.long (q2 &&& (2305843009213693951 : Int64))), (.long ((q0 &&& (2305843009213693951 : Int64)) + (q1 &&& (2305843009213693951 : Int64))))])) _
        refine XS.ladd X257.here hx rfl (hb hby at_179) rfl ?_
        show Steps p.tables e below (T257.setTop (mkF m 180 _ [(.long (((q0 &&& (2305843009213693951 : Int64)) + (q1 &&& (2305843009213693951 : Int64))) + (q2 &&& (2305843009213693951 : Int64))))])) _
        refine XS.lstore X257.here hx rfl (hb hby at_180) rfl (l' := #[.val (.long q0), .second, .val (.long q1), .second, .val (.long q2), .second, .val (.long q3), .second, .val (.int p4), .val (.long (q0 &&& (2305843009213693951 : Int64))), .second, .val (.long (q1 &&& (2305843009213693951 : Int64))), .second, .val (.long (q2 &&& (2305843009213693951 : Int64))), .second, .val (.long (q3 &&& (2305843009213693951 : Int64))), .second, .val (.int (3 : Int32)), .val (.int (0 : Int32)), .val (.ref b225), .val (.int (1 : Int32)), .val (.long (((q0 &&& (2305843009213693951 : Int64)) + (q1 &&& (2305843009213693951 : Int64))) + (q2 &&& (2305843009213693951 : Int64)))), .second, .unset, .unset, .unset, .unset]) rfl ?_
        show Steps p.tables e below (T257.setTop (mkF m 182 #[.val (.long q0), .second, .val (.long q1), .second, .val (.long q2), .second, .val (.long q3), .second, .val (.int p4), .val (.long (q0 &&& (2305843009213693951 : Int64))), .second, .val (.long (q1 &&& (2305843009213693951 : Int64))), .second, .val (.long (q2 &&& (2305843009213693951 : Int64))), .second, .val (.long (q3 &&& (2305843009213693951 : Int64))), .second, .val (.int (3 : Int32)), .val (.int (0 : Int32)), .val (.ref b225), .val (.int (1 : Int32)), .val (.long (((q0 &&& (2305843009213693951 : Int64)) + (q1 &&& (2305843009213693951 : Int64))) + (q2 &&& (2305843009213693951 : Int64)))), .second, .unset, .unset, .unset, .unset] [])) _
        refine XS.iload X257.here hx rfl (hb hby at_182) rfl ?_
        show Steps p.tables e below (T257.setTop (mkF m 184 _ [(.int (3 : Int32))])) _
        refine XS.ifYes X257.here hx rfl (pc0 := 184) (pc' := 191) rfl (hb hby at_184) rfl ((if0 _ _).trans (feq (by decide : ¬ ((3 : Int32) = (0 : Int32)))).2) (by decide) (by decide) ?_
        show Steps p.tables e below (T257.setTop (mkF m 191 _ [])) _
        refine XS.lload X257.here hx rfl (hb hby at_191) rfl ?_
        show Steps p.tables e below (T257.setTop (mkF m 193 _ [(.long (((q0 &&& (2305843009213693951 : Int64)) + (q1 &&& (2305843009213693951 : Int64))) + (q2 &&& (2305843009213693951 : Int64))))])) _
        refine XS.l2dS X257.here hx rfl (hb hby at_193) rfl rfl ?_
        show Steps p.tables e below (T257.setTop (mkF m 194 _ [(.double (FP.l2d (((q0 &&& (2305843009213693951 : Int64)) + (q1 &&& (2305843009213693951 : Int64))) + (q2 &&& (2305843009213693951 : Int64)))))])) _
        refine XS.iload X257.here hx rfl (hb hby at_194) rfl ?_
        show Steps p.tables e below (T257.setTop (mkF m 196 _ [(.int (3 : Int32)), (.double (FP.l2d (((q0 &&& (2305843009213693951 : Int64)) + (q1 &&& (2305843009213693951 : Int64))) + (q2 &&& (2305843009213693951 : Int64)))))])) _
        refine XS.i2dS X257.here hx rfl (hb hby at_196) rfl rfl ?_
        show Steps p.tables e below (T257.setTop (mkF m 197 _ [(.double (FP.i2d (3 : Int32))), (.double (FP.l2d (((q0 &&& (2305843009213693951 : Int64)) + (q1 &&& (2305843009213693951 : Int64))) + (q2 &&& (2305843009213693951 : Int64)))))])) _
        refine XS.ddivS X257.here hx rfl (hb hby at_197) rfl (own_nni _ (by decide)) rfl ?_
        show Steps p.tables e below (T257.setTop (mkF m 198 _ [(.double (FP.ddiv (FP.l2d (((q0 &&& (2305843009213693951 : Int64)) + (q1 &&& (2305843009213693951 : Int64))) + (q2 &&& (2305843009213693951 : Int64)))) (FP.i2d (3 : Int32))))])) _
        refine XS.dstore X257.here hx rfl (hb hby at_198) rfl (l' := #[.val (.long q0), .second, .val (.long q1), .second, .val (.long q2), .second, .val (.long q3), .second, .val (.int p4), .val (.long (q0 &&& (2305843009213693951 : Int64))), .second, .val (.long (q1 &&& (2305843009213693951 : Int64))), .second, .val (.long (q2 &&& (2305843009213693951 : Int64))), .second, .val (.long (q3 &&& (2305843009213693951 : Int64))), .second, .val (.int (3 : Int32)), .val (.int (0 : Int32)), .val (.ref b225), .val (.int (1 : Int32)), .val (.long (((q0 &&& (2305843009213693951 : Int64)) + (q1 &&& (2305843009213693951 : Int64))) + (q2 &&& (2305843009213693951 : Int64)))), .second, .val (.double (FP.ddiv (FP.l2d (((q0 &&& (2305843009213693951 : Int64)) + (q1 &&& (2305843009213693951 : Int64))) + (q2 &&& (2305843009213693951 : Int64)))) (FP.i2d (3 : Int32)))), .second, .unset, .unset]) rfl ?_
        show Steps p.tables e below (T257.setTop (mkF m 200 #[.val (.long q0), .second, .val (.long q1), .second, .val (.long q2), .second, .val (.long q3), .second, .val (.int p4), .val (.long (q0 &&& (2305843009213693951 : Int64))), .second, .val (.long (q1 &&& (2305843009213693951 : Int64))), .second, .val (.long (q2 &&& (2305843009213693951 : Int64))), .second, .val (.long (q3 &&& (2305843009213693951 : Int64))), .second, .val (.int (3 : Int32)), .val (.int (0 : Int32)), .val (.ref b225), .val (.int (1 : Int32)), .val (.long (((q0 &&& (2305843009213693951 : Int64)) + (q1 &&& (2305843009213693951 : Int64))) + (q2 &&& (2305843009213693951 : Int64)))), .second, .val (.double (FP.ddiv (FP.l2d (((q0 &&& (2305843009213693951 : Int64)) + (q1 &&& (2305843009213693951 : Int64))) + (q2 &&& (2305843009213693951 : Int64)))) (FP.i2d (3 : Int32)))), .second, .unset, .unset] [])) _
        refine XS.aload X257.here hx rfl (hb hby at_200) rfl rfl ?_
        exact ht
      obtain ⟨cq266, kq266, q266a, q266b, q266c⟩ := isOf hZ (rfl : T257.heap = T257.heap) f263
      obtain ⟨_, _, ⟨T265, L265, k265, n265⟩, -, X265, ⟨Lc265, hQ265, l265, y265, z265⟩, st265⟩ := X257.virtualBack hx (y := (⟨"com/example/kindred_mesh/kindredmesh/peer/SearchTime", "lastMean", "()D"⟩ : MethodName)) (z := (⟨"com/example/kindred_mesh/kindredmesh/peer/SearchTime", "lastMean", "()D"⟩ : MethodName)) hown (mvT hZ (hw _ (List.mem_of_getElem? (i := 26) rfl))) (mvT hZ (hw _ (List.mem_of_getElem? (i := 27) rfl))) (notFace_of_selects (args := #[]) (mvT hZ (hw _ (List.mem_of_getElem? (i := 29) rfl)))) (mvT hZ (hw _ (List.mem_of_getElem? (i := 29) rfl))) (mvT hZ (hw _ (List.mem_of_getElem? (i := 28) rfl))) (by decide) (backOf (W := 0) (rmLm l Z _ hw [] b225 (FP.ddiv (FP.l2d ((((0 : Int64) + (q0 &&& (2305843009213693951 : Int64))) + (q1 &&& (2305843009213693951 : Int64))) + (q2 &&& (2305843009213693951 : Int64)))) (FP.l2d (3 : Int64))) T257.heap n0 Z264 f261) hZ (hw _ (List.mem_of_getElem? (i := 30) rfl)) (hw _ (List.mem_of_getElem? (i := 3) rfl)) (by decide) (by decide)) q266a q266c (g := (mkF m 202 #[.val (.long q0), .second, .val (.long q1), .second, .val (.long q2), .second, .val (.long q3), .second, .val (.int p4), .val (.long (q0 &&& (2305843009213693951 : Int64))), .second, .val (.long (q1 &&& (2305843009213693951 : Int64))), .second, .val (.long (q2 &&& (2305843009213693951 : Int64))), .second, .val (.long (q3 &&& (2305843009213693951 : Int64))), .second, .val (.int (3 : Int32)), .val (.int (0 : Int32)), .val (.ref b225), .val (.int (1 : Int32)), .val (.long (((q0 &&& (2305843009213693951 : Int64)) + (q1 &&& (2305843009213693951 : Int64))) + (q2 &&& (2305843009213693951 : Int64)))), .second, .val (.double (FP.ddiv (FP.l2d (((q0 &&& (2305843009213693951 : Int64)) + (q1 &&& (2305843009213693951 : Int64))) + (q2 &&& (2305843009213693951 : Int64)))) (FP.i2d (3 : Int32)))), .second, .unset, .unset] [(.ref b225)])) rfl (by rw [hml]; rfl) (Steps.refl _) (argsL := []) (rest := []) (lenOf pd_1 rfl) rfl (by show 2 * 0 + _ ≤ _; exact Nat.le_of_eq rfl) (hb hby at_202) (fun _ _ => ⟨rfl, (rfl : T257.heap = T257.heap), (by decide : 1 + 0 ≤ _), (by decide : 3 + 0 ≤ _)⟩)
      dsimp only [Pt.U, Pt.locs, Pt.cells, Pt.slots] at X265 l265 y265 z265 st265 hQ265
      subst l265 y265 z265
      obtain ⟨rfl, Nq265, hs265⟩ := hQ265
      have N267 := Fr.app N262 Nq265
      refine OFin.to (S' := T265.setTop (mkF m 205 #[.val (.long q0), .second, .val (.long q1), .second, .val (.long q2), .second, .val (.long q3), .second, .val (.int p4), .val (.long (q0 &&& (2305843009213693951 : Int64))), .second, .val (.long (q1 &&& (2305843009213693951 : Int64))), .second, .val (.long (q2 &&& (2305843009213693951 : Int64))), .second, .val (.long (q3 &&& (2305843009213693951 : Int64))), .second, .val (.int (3 : Int32)), .val (.int (0 : Int32)), .val (.ref b225), .val (.int (1 : Int32)), .val (.long (((q0 &&& (2305843009213693951 : Int64)) + (q1 &&& (2305843009213693951 : Int64))) + (q2 &&& (2305843009213693951 : Int64)))), .second, .val (.double (FP.ddiv (FP.l2d (((q0 &&& (2305843009213693951 : Int64)) + (q1 &&& (2305843009213693951 : Int64))) + (q2 &&& (2305843009213693951 : Int64)))) (FP.i2d (3 : Int32)))), .second, .unset, .unset] [(.double (FP.ddiv (FP.l2d ((((0 : Int64) + (q0 &&& (2305843009213693951 : Int64))) + (q1 &&& (2305843009213693951 : Int64))) + (q2 &&& (2305843009213693951 : Int64)))) (FP.l2d (3 : Int64))))])) st265 ?_
      refine OFin.of (S' := T265.setTop (mkF m 232 #[.val (.long q0), .second, .val (.long q1), .second, .val (.long q2), .second, .val (.long q3), .second, .val (.int p4), .val (.long (q0 &&& (2305843009213693951 : Int64))), .second, .val (.long (q1 &&& (2305843009213693951 : Int64))), .second, .val (.long (q2 &&& (2305843009213693951 : Int64))), .second, .val (.long (q3 &&& (2305843009213693951 : Int64))), .second, .val (.int (3 : Int32)), .val (.int (0 : Int32)), .val (.ref b225), .val (.int (1 : Int32)), .val (.long (((q0 &&& (2305843009213693951 : Int64)) + (q1 &&& (2305843009213693951 : Int64))) + (q2 &&& (2305843009213693951 : Int64)))), .second, .val (.double (FP.ddiv (FP.l2d (((q0 &&& (2305843009213693951 : Int64)) + (q1 &&& (2305843009213693951 : Int64))) + (q2 &&& (2305843009213693951 : Int64)))) (FP.i2d (3 : Int32)))), .second, .val (.double (FP.ddiv (FP.l2d ((((0 : Int64) + (q0 &&& (2305843009213693951 : Int64))) + (q1 &&& (2305843009213693951 : Int64))) + (q2 &&& (2305843009213693951 : Int64)))) (FP.l2d (3 : Int64)))), .second] [(.int (1 : Int32))])) (fun t ht => ?_) ?_
      · refine XS.dstore X265.here hx rfl (hb hby at_205) rfl (l' := #[.val (.long q0), .second, .val (.long q1), .second, .val (.long q2), .second, .val (.long q3), .second, .val (.int p4), .val (.long (q0 &&& (2305843009213693951 : Int64))), .second, .val (.long (q1 &&& (2305843009213693951 : Int64))), .second, .val (.long (q2 &&& (2305843009213693951 : Int64))), .second, .val (.long (q3 &&& (2305843009213693951 : Int64))), .second, .val (.int (3 : Int32)), .val (.int (0 : Int32)), .val (.ref b225), .val (.int (1 : Int32)), .val (.long (((q0 &&& (2305843009213693951 : Int64)) + (q1 &&& (2305843009213693951 : Int64))) + (q2 &&& (2305843009213693951 : Int64)))), .second, .val (.double (FP.ddiv (FP.l2d (((q0 &&& (2305843009213693951 : Int64)) + (q1 &&& (2305843009213693951 : Int64))) + (q2 &&& (2305843009213693951 : Int64)))) (FP.i2d (3 : Int32)))), .second, .val (.double (FP.ddiv (FP.l2d ((((0 : Int64) + (q0 &&& (2305843009213693951 : Int64))) + (q1 &&& (2305843009213693951 : Int64))) + (q2 &&& (2305843009213693951 : Int64)))) (FP.l2d (3 : Int64)))), .second]) rfl ?_
        show Steps p.tables e below (T265.setTop (mkF m 207 #[.val (.long q0), .second, .val (.long q1), .second, .val (.long q2), .second, .val (.long q3), .second, .val (.int p4), .val (.long (q0 &&& (2305843009213693951 : Int64))), .second, .val (.long (q1 &&& (2305843009213693951 : Int64))), .second, .val (.long (q2 &&& (2305843009213693951 : Int64))), .second, .val (.long (q3 &&& (2305843009213693951 : Int64))), .second, .val (.int (3 : Int32)), .val (.int (0 : Int32)), .val (.ref b225), .val (.int (1 : Int32)), .val (.long (((q0 &&& (2305843009213693951 : Int64)) + (q1 &&& (2305843009213693951 : Int64))) + (q2 &&& (2305843009213693951 : Int64)))), .second, .val (.double (FP.ddiv (FP.l2d (((q0 &&& (2305843009213693951 : Int64)) + (q1 &&& (2305843009213693951 : Int64))) + (q2 &&& (2305843009213693951 : Int64)))) (FP.i2d (3 : Int32)))), .second, .val (.double (FP.ddiv (FP.l2d ((((0 : Int64) + (q0 &&& (2305843009213693951 : Int64))) + (q1 &&& (2305843009213693951 : Int64))) + (q2 &&& (2305843009213693951 : Int64)))) (FP.l2d (3 : Int64)))), .second] [])) _
        refine XS.iload X265.here hx rfl (hb hby at_207) rfl ?_
        show Steps p.tables e below (T265.setTop (mkF m 209 _ [(.int (1 : Int32))])) _
        refine XS.ifNo X265.here hx rfl (hb hby at_209) rfl ((if0 _ _).trans (feq (by decide : ¬ ((1 : Int32) = (0 : Int32)))).1) ?_
        show Steps p.tables e below (T265.setTop (mkF m 212 _ [])) _
        refine XS.dload X265.here hx rfl (hb hby at_212) rfl ?_
        show Steps p.tables e below (T265.setTop (mkF m 214 _ [(.double (FP.ddiv (FP.l2d ((((0 : Int64) + (q0 &&& (2305843009213693951 : Int64))) + (q1 &&& (2305843009213693951 : Int64))) + (q2 &&& (2305843009213693951 : Int64)))) (FP.l2d (3 : Int64))))])) _
        refine XS.dload X265.here hx rfl (hb hby at_214) rfl ?_
        show Steps p.tables e below (T265.setTop (mkF m 216 _ [(.double (FP.ddiv (FP.l2d (((q0 &&& (2305843009213693951 : Int64)) + (q1 &&& (2305843009213693951 : Int64))) + (q2 &&& (2305843009213693951 : Int64)))) (FP.i2d (3 : Int32)))), (.double (FP.ddiv (FP.l2d ((((0 : Int64) + (q0 &&& (2305843009213693951 : Int64))) + (q1 &&& (2305843009213693951 : Int64))) + (q2 &&& (2305843009213693951 : Int64)))) (FP.l2d (3 : Int64))))])) _
        refine XS.dcmpS X265.here hx rfl (hb hby at_216) rfl rfl ?_
        show Steps p.tables e below (T265.setTop (mkF m 217 _ [(.int (cmpValue (FP.dcmp (FP.ddiv (FP.l2d ((((0 : Int64) + (q0 &&& (2305843009213693951 : Int64))) + (q1 &&& (2305843009213693951 : Int64))) + (q2 &&& (2305843009213693951 : Int64)))) (FP.l2d (3 : Int64))) (FP.ddiv (FP.l2d (((q0 &&& (2305843009213693951 : Int64)) + (q1 &&& (2305843009213693951 : Int64))) + (q2 &&& (2305843009213693951 : Int64)))) (FP.i2d (3 : Int32)))) .l))])) _
        refine XS.ifNo X265.here hx rfl (hb hby at_217) rfl ((if0 _ _).trans (teq (dcmpV_eq (own_e3 _ _ _) (own_nn _ (by decide)) .l : (cmpValue (FP.dcmp (FP.ddiv (FP.l2d ((((0 : Int64) + (q0 &&& (2305843009213693951 : Int64))) + (q1 &&& (2305843009213693951 : Int64))) + (q2 &&& (2305843009213693951 : Int64)))) (FP.l2d (3 : Int64))) (FP.ddiv (FP.l2d (((q0 &&& (2305843009213693951 : Int64)) + (q1 &&& (2305843009213693951 : Int64))) + (q2 &&& (2305843009213693951 : Int64)))) (FP.i2d (3 : Int32)))) .l) = (0 : Int32))).2) ?_
        show Steps p.tables e below (T265.setTop (mkF m 220 _ [])) _
        refine XS.dload X265.here hx rfl (hb hby at_220) rfl ?_
        show Steps p.tables e below (T265.setTop (mkF m 222 _ [(.double (FP.ddiv (FP.l2d ((((0 : Int64) + (q0 &&& (2305843009213693951 : Int64))) + (q1 &&& (2305843009213693951 : Int64))) + (q2 &&& (2305843009213693951 : Int64)))) (FP.l2d (3 : Int64))))])) _
        refine XS.dconst0 X265.here hx rfl (hb hby at_222) rfl ?_
        show Steps p.tables e below (T265.setTop (mkF m 223 _ [(.double FP.dconst0), (.double (FP.ddiv (FP.l2d ((((0 : Int64) + (q0 &&& (2305843009213693951 : Int64))) + (q1 &&& (2305843009213693951 : Int64))) + (q2 &&& (2305843009213693951 : Int64)))) (FP.l2d (3 : Int64))))])) _
        refine XS.dcmpS X265.here hx rfl (hb hby at_223) rfl rfl ?_
        show Steps p.tables e below (T265.setTop (mkF m 224 _ [(.int (cmpValue (FP.dcmp (FP.ddiv (FP.l2d ((((0 : Int64) + (q0 &&& (2305843009213693951 : Int64))) + (q1 &&& (2305843009213693951 : Int64))) + (q2 &&& (2305843009213693951 : Int64)))) (FP.l2d (3 : Int64))) FP.dconst0) .l))])) _
        refine XS.ifNo X265.here hx rfl (hb hby at_224) rfl ((if0 _ _).trans (flt (own_ge0 (own_p3 _ _ _) (by decide) : ¬ ((cmpValue (FP.dcmp (FP.ddiv (FP.l2d ((((0 : Int64) + (q0 &&& (2305843009213693951 : Int64))) + (q1 &&& (2305843009213693951 : Int64))) + (q2 &&& (2305843009213693951 : Int64)))) (FP.l2d (3 : Int64))) FP.dconst0) .l) < (0 : Int32)))).1) ?_
        show Steps p.tables e below (T265.setTop (mkF m 227 _ [])) _
        refine XS.iconst X265.here hx rfl (hb hby at_227) ?_
        show Steps p.tables e below (T265.setTop (mkF m 228 _ [(.int (1 : Int32))])) _
        refine XS.goto X265.here hx rfl (pc0 := 228) (pc' := 232) rfl (hb hby at_228) (by decide) (by decide) ?_
        exact ht
      exact OFin.retB X265 hx hlk (t := .boolean) (by simp) hret (hb hby at_232) (by decide) (by decide) (by rw [hs265]; exact ⟨rfl, N267⟩)
    · refine OFin.of (S' := s₁.setTop (mkF m 50 #[.val (.long q0), .second, .val (.long q1), .second, .val (.long q2), .second, .val (.long q3), .second, .val (.int p4), .val (.long (q0 &&& (2305843009213693951 : Int64))), .second, .val (.long (q1 &&& (2305843009213693951 : Int64))), .second, .val (.long (q2 &&& (2305843009213693951 : Int64))), .second, .val (.long (q3 &&& (2305843009213693951 : Int64))), .second, .val (.int (3 : Int32)), .val (.int (1 : Int32)), .unset, .unset, .unset, .unset, .unset, .unset, .unset, .unset] [])) (fun t ht => ?_) ?_
      · refine XS.ifNo X0.here hx rfl (hb hby at_40) rfl ((if0 _ _).trans (feq (hc224 : ¬ ((p4 &&& (4 : Int32)) = (0 : Int32)))).1) ?_
        show Steps p.tables e below (s₁.setTop (mkF m 43 _ [])) _
        refine XS.iconst X0.here hx rfl (hb hby at_43) ?_
        show Steps p.tables e below (s₁.setTop (mkF m 44 _ [(.int (1 : Int32))])) _
        refine XS.goto X0.here hx rfl (pc0 := 44) (pc' := 48) rfl (hb hby at_44) (by decide) (by decide) ?_
        show Steps p.tables e below (s₁.setTop (mkF m 48 _ [(.int (1 : Int32))])) _
        refine XS.istore X0.here hx rfl (hb hby at_48) rfl (l' := #[.val (.long q0), .second, .val (.long q1), .second, .val (.long q2), .second, .val (.long q3), .second, .val (.int p4), .val (.long (q0 &&& (2305843009213693951 : Int64))), .second, .val (.long (q1 &&& (2305843009213693951 : Int64))), .second, .val (.long (q2 &&& (2305843009213693951 : Int64))), .second, .val (.long (q3 &&& (2305843009213693951 : Int64))), .second, .val (.int (3 : Int32)), .val (.int (1 : Int32)), .unset, .unset, .unset, .unset, .unset, .unset, .unset, .unset]) rfl ?_
        exact ht
      obtain ⟨T268, h268, X268, e268, E268, A268, D268, -, st268⟩ := newO X0 hx hZ hown (hw _ (List.mem_of_getElem? (i := 1) rfl)) (hw _ (List.mem_of_getElem? (i := 2) rfl)) (hw _ (List.mem_of_getElem? (i := 3) rfl)) e0 (g := (mkF m 50 #[.val (.long q0), .second, .val (.long q1), .second, .val (.long q2), .second, .val (.long q3), .second, .val (.int p4), .val (.long (q0 &&& (2305843009213693951 : Int64))), .second, .val (.long (q1 &&& (2305843009213693951 : Int64))), .second, .val (.long (q2 &&& (2305843009213693951 : Int64))), .second, .val (.long (q3 &&& (2305843009213693951 : Int64))), .second, .val (.int (3 : Int32)), .val (.int (1 : Int32)), .unset, .unset, .unset, .unset, .unset, .unset, .unset, .unset] [])) rfl (hb hby at_50) (by decide) (by decide)
      obtain ⟨b268, gq268⟩ : ∃ z, z = h0.size := ⟨_, rfl⟩
      rw [← gq268] at A268 D268 st268
      have g269 : n0 ≤ b268 := (Nat.le_trans Z0 (Nat.le_of_eq gq268.symm))
      have Z270 : n0 ≤ h268.size := (Nat.le_trans Z0 E268.1)
      have f271 : Fld Z h268 b268 "com/example/kindred_mesh/kindredmesh/peer/SearchTime" "served" "J" (.long (0 : Int64)) := D268 (Or.inl (hw _ (List.mem_of_getElem? (i := 16) rfl))) (ty := .long) (by decide)
      have f272 : Fld Z h268 b268 "com/example/kindred_mesh/kindredmesh/peer/SearchTime" "total" "J" (.long (0 : Int64)) := D268 (Or.inl (hw _ (List.mem_of_getElem? (i := 18) rfl))) (ty := .long) (by decide)
      have f273 : Fld Z h268 b268 "com/example/kindred_mesh/kindredmesh/peer/SearchTime" "lastMean" "D" (.double 0) := D268 (Or.inl (hw _ (List.mem_of_getElem? (i := 25) rfl))) (ty := .double) (by decide)
      refine OFin.of (S' := T268.setTop (mkF m 53 #[.val (.long q0), .second, .val (.long q1), .second, .val (.long q2), .second, .val (.long q3), .second, .val (.int p4), .val (.long (q0 &&& (2305843009213693951 : Int64))), .second, .val (.long (q1 &&& (2305843009213693951 : Int64))), .second, .val (.long (q2 &&& (2305843009213693951 : Int64))), .second, .val (.long (q3 &&& (2305843009213693951 : Int64))), .second, .val (.int (3 : Int32)), .val (.int (1 : Int32)), .unset, .unset, .unset, .unset, .unset, .unset, .unset, .unset] [(.ref b268)])) (fun t ht => st268 t ht) ?_
      refine OFin.of (S' := T268.setTop (mkF m 54 #[.val (.long q0), .second, .val (.long q1), .second, .val (.long q2), .second, .val (.long q3), .second, .val (.int p4), .val (.long (q0 &&& (2305843009213693951 : Int64))), .second, .val (.long (q1 &&& (2305843009213693951 : Int64))), .second, .val (.long (q2 &&& (2305843009213693951 : Int64))), .second, .val (.long (q3 &&& (2305843009213693951 : Int64))), .second, .val (.int (3 : Int32)), .val (.int (1 : Int32)), .unset, .unset, .unset, .unset, .unset, .unset, .unset, .unset] [(.ref b268), (.ref b268)])) (fun t ht => ?_) ?_
      · refine XS.dup X268.here hx rfl (hb hby at_53) rfl rfl ?_
        exact ht
      obtain ⟨_, _, ⟨T274, L274, k274, n274⟩, -, X274, ⟨Lc274, hQ274, l274, y274, z274⟩, st274⟩ := X268.specialBack hx (y := (⟨"com/example/kindred_mesh/kindredmesh/peer/SearchTime", "<init>", "()V"⟩ : MethodName)) rfl hown (mvT hZ (hw _ (List.mem_of_getElem? (i := 4) rfl))) (mvT hZ (hw _ (List.mem_of_getElem? (i := 5) rfl))) (mvT hZ (hw _ (List.mem_of_getElem? (i := 6) rfl))) (by decide) (backOf (W := 1) (rmIni l Z _ hw [] b268 h268 n0 Z270 ) hZ (hw _ (List.mem_of_getElem? (i := 6) rfl)) (hw _ (List.mem_of_getElem? (i := 3) rfl)) (by decide) (by decide)) (g := (mkF m 54 #[.val (.long q0), .second, .val (.long q1), .second, .val (.long q2), .second, .val (.long q3), .second, .val (.int p4), .val (.long (q0 &&& (2305843009213693951 : Int64))), .second, .val (.long (q1 &&& (2305843009213693951 : Int64))), .second, .val (.long (q2 &&& (2305843009213693951 : Int64))), .second, .val (.long (q3 &&& (2305843009213693951 : Int64))), .second, .val (.int (3 : Int32)), .val (.int (1 : Int32)), .unset, .unset, .unset, .unset, .unset, .unset, .unset, .unset] [(.ref b268), (.ref b268)])) rfl (by rw [hml]; rfl) (Steps.refl _) (a := b268) (argsL := []) (rest := [(.ref b268)]) (lenOf pd_0 rfl) rfl (by show 2 * 0 + _ ≤ _; exact Nat.le_of_eq rfl) (hb hby at_54) (fun _ _ => ⟨rfl, e268, (by decide : 1 + 0 ≤ _), (by decide : 3 + 0 ≤ _)⟩)
      dsimp only [Pt.U, Pt.locs, Pt.cells, Pt.slots] at X274 l274 y274 z274 st274 hQ274
      subst l274 y274 z274
      obtain ⟨rfl, Nq274, hs274⟩ := hQ274
      have N275 := Fr.app N0 Nq274
      refine OFin.to (S' := T274.setTop (mkF m 57 #[.val (.long q0), .second, .val (.long q1), .second, .val (.long q2), .second, .val (.long q3), .second, .val (.int p4), .val (.long (q0 &&& (2305843009213693951 : Int64))), .second, .val (.long (q1 &&& (2305843009213693951 : Int64))), .second, .val (.long (q2 &&& (2305843009213693951 : Int64))), .second, .val (.long (q3 &&& (2305843009213693951 : Int64))), .second, .val (.int (3 : Int32)), .val (.int (1 : Int32)), .unset, .unset, .unset, .unset, .unset, .unset, .unset, .unset] [(.ref b268)])) st274 ?_
      refine OFin.of (S' := T274.setTop (mkF m 71 #[.val (.long q0), .second, .val (.long q1), .second, .val (.long q2), .second, .val (.long q3), .second, .val (.int p4), .val (.long (q0 &&& (2305843009213693951 : Int64))), .second, .val (.long (q1 &&& (2305843009213693951 : Int64))), .second, .val (.long (q2 &&& (2305843009213693951 : Int64))), .second, .val (.long (q3 &&& (2305843009213693951 : Int64))), .second, .val (.int (3 : Int32)), .val (.int (1 : Int32)), .val (.ref b268), .val (.int (1 : Int32)), .unset, .unset, .unset, .unset, .unset, .unset] [(.long (q3 &&& (2305843009213693951 : Int64))), (.ref b268)])) (fun t ht => ?_) ?_
      · refine XS.astore X274.here hx rfl (hb hby at_57) rfl rfl (l' := #[.val (.long q0), .second, .val (.long q1), .second, .val (.long q2), .second, .val (.long q3), .second, .val (.int p4), .val (.long (q0 &&& (2305843009213693951 : Int64))), .second, .val (.long (q1 &&& (2305843009213693951 : Int64))), .second, .val (.long (q2 &&& (2305843009213693951 : Int64))), .second, .val (.long (q3 &&& (2305843009213693951 : Int64))), .second, .val (.int (3 : Int32)), .val (.int (1 : Int32)), .val (.ref b268), .unset, .unset, .unset, .unset, .unset, .unset, .unset]) rfl ?_
        show Steps p.tables e below (T274.setTop (mkF m 59 #[.val (.long q0), .second, .val (.long q1), .second, .val (.long q2), .second, .val (.long q3), .second, .val (.int p4), .val (.long (q0 &&& (2305843009213693951 : Int64))), .second, .val (.long (q1 &&& (2305843009213693951 : Int64))), .second, .val (.long (q2 &&& (2305843009213693951 : Int64))), .second, .val (.long (q3 &&& (2305843009213693951 : Int64))), .second, .val (.int (3 : Int32)), .val (.int (1 : Int32)), .val (.ref b268), .unset, .unset, .unset, .unset, .unset, .unset, .unset] [])) _
        refine XS.iconst X274.here hx rfl (hb hby at_59) ?_
        show Steps p.tables e below (T274.setTop (mkF m 60 _ [(.int (1 : Int32))])) _
        refine XS.istore X274.here hx rfl (hb hby at_60) rfl (l' := #[.val (.long q0), .second, .val (.long q1), .second, .val (.long q2), .second, .val (.long q3), .second, .val (.int p4), .val (.long (q0 &&& (2305843009213693951 : Int64))), .second, .val (.long (q1 &&& (2305843009213693951 : Int64))), .second, .val (.long (q2 &&& (2305843009213693951 : Int64))), .second, .val (.long (q3 &&& (2305843009213693951 : Int64))), .second, .val (.int (3 : Int32)), .val (.int (1 : Int32)), .val (.ref b268), .val (.int (1 : Int32)), .unset, .unset, .unset, .unset, .unset, .unset]) rfl ?_
        show Steps p.tables e below (T274.setTop (mkF m 62 #[.val (.long q0), .second, .val (.long q1), .second, .val (.long q2), .second, .val (.long q3), .second, .val (.int p4), .val (.long (q0 &&& (2305843009213693951 : Int64))), .second, .val (.long (q1 &&& (2305843009213693951 : Int64))), .second, .val (.long (q2 &&& (2305843009213693951 : Int64))), .second, .val (.long (q3 &&& (2305843009213693951 : Int64))), .second, .val (.int (3 : Int32)), .val (.int (1 : Int32)), .val (.ref b268), .val (.int (1 : Int32)), .unset, .unset, .unset, .unset, .unset, .unset] [])) _
        refine XS.iload X274.here hx rfl (hb hby at_62) rfl ?_
        show Steps p.tables e below (T274.setTop (mkF m 64 _ [(.int (1 : Int32))])) _
        refine XS.ifNo X274.here hx rfl (hb hby at_64) rfl ((if0 _ _).trans (feq (by decide : ¬ ((1 : Int32) = (0 : Int32)))).1) ?_
        show Steps p.tables e below (T274.setTop (mkF m 67 _ [])) _
        refine XS.aload X274.here hx rfl (hb hby at_67) rfl rfl ?_
        show Steps p.tables e below (T274.setTop (mkF m 69 _ [(.ref b268)])) _
        refine XS.lload X274.here hx rfl (hb hby at_69) rfl ?_
        exact ht
      obtain ⟨cq277, kq277, q277a, q277b, q277c⟩ := isOf hZ hs274 A268
      obtain ⟨_, _, ⟨T276, L276, k276, n276⟩, -, X276, ⟨Lc276, hQ276, l276, y276, z276⟩, st276⟩ := X274.virtualBack hx (y := (⟨"com/example/kindred_mesh/kindredmesh/peer/SearchTime", "served", "(J)V"⟩ : MethodName)) (z := (⟨"com/example/kindred_mesh/kindredmesh/peer/SearchTime", "served", "(J)V"⟩ : MethodName)) hown (mvT hZ (hw _ (List.mem_of_getElem? (i := 10) rfl))) (mvT hZ (hw _ (List.mem_of_getElem? (i := 11) rfl))) (notFace_of_selects (args := #[]) (mvT hZ (hw _ (List.mem_of_getElem? (i := 13) rfl)))) (mvT hZ (hw _ (List.mem_of_getElem? (i := 13) rfl))) (mvT hZ (hw _ (List.mem_of_getElem? (i := 12) rfl))) (by decide) (backOf (W := 0) (rmSv l Z _ hw [] b268 (q3 &&& (2305843009213693951 : Int64)) (0 : Int64) (0 : Int64) 0 h268 n0 Z270 A268 f271 f272 f273 g269) hZ (hw _ (List.mem_of_getElem? (i := 14) rfl)) (hw _ (List.mem_of_getElem? (i := 3) rfl)) (by decide) (by decide)) q277a q277c (g := (mkF m 71 #[.val (.long q0), .second, .val (.long q1), .second, .val (.long q2), .second, .val (.long q3), .second, .val (.int p4), .val (.long (q0 &&& (2305843009213693951 : Int64))), .second, .val (.long (q1 &&& (2305843009213693951 : Int64))), .second, .val (.long (q2 &&& (2305843009213693951 : Int64))), .second, .val (.long (q3 &&& (2305843009213693951 : Int64))), .second, .val (.int (3 : Int32)), .val (.int (1 : Int32)), .val (.ref b268), .val (.int (1 : Int32)), .unset, .unset, .unset, .unset, .unset, .unset] [(.long (q3 &&& (2305843009213693951 : Int64))), (.ref b268)])) rfl (by rw [hml]; rfl) (Steps.refl _) (argsL := [(.long (q3 &&& (2305843009213693951 : Int64)))]) (rest := []) (lenOf pd_2 rfl) rfl (by show 2 * 0 + _ ≤ _; exact Nat.le_of_eq rfl) (hb hby at_71) (fun _ _ => ⟨rfl, hs274, (by decide : 1 + 0 ≤ _), (by decide : 3 + 0 ≤ _)⟩)
      dsimp only [Pt.U, Pt.locs, Pt.cells, Pt.slots] at X276 l276 y276 z276 st276 hQ276
      subst l276 y276 z276
      obtain ⟨rfl, Nq276, Kq276, f278, f279, f280⟩ := hQ276
      have N281 := Fr.app N275 Nq276
      have f282 := (A268.keep Kq276)
      have Z283 : n0 ≤ T276.heap.size := (Nat.le_trans Z270 Kq276.1)
      refine OFin.to (S' := T276.setTop (mkF m 74 #[.val (.long q0), .second, .val (.long q1), .second, .val (.long q2), .second, .val (.long q3), .second, .val (.int p4), .val (.long (q0 &&& (2305843009213693951 : Int64))), .second, .val (.long (q1 &&& (2305843009213693951 : Int64))), .second, .val (.long (q2 &&& (2305843009213693951 : Int64))), .second, .val (.long (q3 &&& (2305843009213693951 : Int64))), .second, .val (.int (3 : Int32)), .val (.int (1 : Int32)), .val (.ref b268), .val (.int (1 : Int32)), .unset, .unset, .unset, .unset, .unset, .unset] [])) st276 ?_
      refine OFin.of (S' := T276.setTop (mkF m 76 #[.val (.long q0), .second, .val (.long q1), .second, .val (.long q2), .second, .val (.long q3), .second, .val (.int p4), .val (.long (q0 &&& (2305843009213693951 : Int64))), .second, .val (.long (q1 &&& (2305843009213693951 : Int64))), .second, .val (.long (q2 &&& (2305843009213693951 : Int64))), .second, .val (.long (q3 &&& (2305843009213693951 : Int64))), .second, .val (.int (3 : Int32)), .val (.int (1 : Int32)), .val (.ref b268), .val (.int (1 : Int32)), .unset, .unset, .unset, .unset, .unset, .unset] [(.ref b268)])) (fun t ht => ?_) ?_
      · refine XS.aload X276.here hx rfl (hb hby at_74) rfl rfl ?_
        exact ht
      obtain ⟨cq285, kq285, q285a, q285b, q285c⟩ := isOf hZ (rfl : T276.heap = T276.heap) f282
      obtain ⟨_, _, ⟨T284, L284, k284, n284⟩, -, X284, ⟨Lc284, hQ284, l284, y284, z284⟩, st284⟩ := X276.virtualBack hx (y := (⟨"com/example/kindred_mesh/kindredmesh/peer/SearchTime", "newPeriod", "()V"⟩ : MethodName)) (z := (⟨"com/example/kindred_mesh/kindredmesh/peer/SearchTime", "newPeriod", "()V"⟩ : MethodName)) hown (mvT hZ (hw _ (List.mem_of_getElem? (i := 19) rfl))) (mvT hZ (hw _ (List.mem_of_getElem? (i := 20) rfl))) (notFace_of_selects (args := #[]) (mvT hZ (hw _ (List.mem_of_getElem? (i := 22) rfl)))) (mvT hZ (hw _ (List.mem_of_getElem? (i := 22) rfl))) (mvT hZ (hw _ (List.mem_of_getElem? (i := 21) rfl))) (by decide) (backOf (W := 0) (rmNp1 l Z _ hw [] b268 (1 : Int64) ((0 : Int64) + (q3 &&& (2305843009213693951 : Int64))) 0 T276.heap n0 Z283 f282 f278 f279 f280 g269 (by decide) (own_nn _ (by decide))) hZ (hw _ (List.mem_of_getElem? (i := 23) rfl)) (hw _ (List.mem_of_getElem? (i := 3) rfl)) (by decide) (by decide)) q285a q285c (g := (mkF m 76 #[.val (.long q0), .second, .val (.long q1), .second, .val (.long q2), .second, .val (.long q3), .second, .val (.int p4), .val (.long (q0 &&& (2305843009213693951 : Int64))), .second, .val (.long (q1 &&& (2305843009213693951 : Int64))), .second, .val (.long (q2 &&& (2305843009213693951 : Int64))), .second, .val (.long (q3 &&& (2305843009213693951 : Int64))), .second, .val (.int (3 : Int32)), .val (.int (1 : Int32)), .val (.ref b268), .val (.int (1 : Int32)), .unset, .unset, .unset, .unset, .unset, .unset] [(.ref b268)])) rfl (by rw [hml]; rfl) (Steps.refl _) (argsL := []) (rest := []) (lenOf pd_0 rfl) rfl (by show 2 * 0 + _ ≤ _; exact Nat.le_of_eq rfl) (hb hby at_76) (fun _ _ => ⟨rfl, (rfl : T276.heap = T276.heap), (by decide : 1 + 0 ≤ _), (by decide : 3 + 0 ≤ _)⟩)
      dsimp only [Pt.U, Pt.locs, Pt.cells, Pt.slots] at X284 l284 y284 z284 st284 hQ284
      subst l284 y284 z284
      obtain ⟨rfl, Nq284, Kq284, f286, f287, f288⟩ := hQ284
      have N289 := Fr.app N281 Nq284
      have f290 := (f282.keep Kq284)
      have Z291 : n0 ≤ T284.heap.size := (Nat.le_trans Z283 Kq284.1)
      refine OFin.to (S' := T284.setTop (mkF m 79 #[.val (.long q0), .second, .val (.long q1), .second, .val (.long q2), .second, .val (.long q3), .second, .val (.int p4), .val (.long (q0 &&& (2305843009213693951 : Int64))), .second, .val (.long (q1 &&& (2305843009213693951 : Int64))), .second, .val (.long (q2 &&& (2305843009213693951 : Int64))), .second, .val (.long (q3 &&& (2305843009213693951 : Int64))), .second, .val (.int (3 : Int32)), .val (.int (1 : Int32)), .val (.ref b268), .val (.int (1 : Int32)), .unset, .unset, .unset, .unset, .unset, .unset] [])) st284 ?_
      refine OFin.of (S' := T284.setTop (mkF m 81 #[.val (.long q0), .second, .val (.long q1), .second, .val (.long q2), .second, .val (.long q3), .second, .val (.int p4), .val (.long (q0 &&& (2305843009213693951 : Int64))), .second, .val (.long (q1 &&& (2305843009213693951 : Int64))), .second, .val (.long (q2 &&& (2305843009213693951 : Int64))), .second, .val (.long (q3 &&& (2305843009213693951 : Int64))), .second, .val (.int (3 : Int32)), .val (.int (1 : Int32)), .val (.ref b268), .val (.int (1 : Int32)), .unset, .unset, .unset, .unset, .unset, .unset] [(.ref b268)])) (fun t ht => ?_) ?_
      · refine XS.aload X284.here hx rfl (hb hby at_79) rfl rfl ?_
        exact ht
      obtain ⟨cq293, kq293, q293a, q293b, q293c⟩ := isOf hZ (rfl : T284.heap = T284.heap) f290
      obtain ⟨_, _, ⟨T292, L292, k292, n292⟩, -, X292, ⟨Lc292, hQ292, l292, y292, z292⟩, st292⟩ := X284.virtualBack hx (y := (⟨"com/example/kindred_mesh/kindredmesh/peer/SearchTime", "lastMean", "()D"⟩ : MethodName)) (z := (⟨"com/example/kindred_mesh/kindredmesh/peer/SearchTime", "lastMean", "()D"⟩ : MethodName)) hown (mvT hZ (hw _ (List.mem_of_getElem? (i := 26) rfl))) (mvT hZ (hw _ (List.mem_of_getElem? (i := 27) rfl))) (notFace_of_selects (args := #[]) (mvT hZ (hw _ (List.mem_of_getElem? (i := 29) rfl)))) (mvT hZ (hw _ (List.mem_of_getElem? (i := 29) rfl))) (mvT hZ (hw _ (List.mem_of_getElem? (i := 28) rfl))) (by decide) (backOf (W := 0) (rmLm l Z _ hw [] b268 (FP.ddiv (FP.l2d ((0 : Int64) + (q3 &&& (2305843009213693951 : Int64)))) (FP.l2d (1 : Int64))) T284.heap n0 Z291 f288) hZ (hw _ (List.mem_of_getElem? (i := 30) rfl)) (hw _ (List.mem_of_getElem? (i := 3) rfl)) (by decide) (by decide)) q293a q293c (g := (mkF m 81 #[.val (.long q0), .second, .val (.long q1), .second, .val (.long q2), .second, .val (.long q3), .second, .val (.int p4), .val (.long (q0 &&& (2305843009213693951 : Int64))), .second, .val (.long (q1 &&& (2305843009213693951 : Int64))), .second, .val (.long (q2 &&& (2305843009213693951 : Int64))), .second, .val (.long (q3 &&& (2305843009213693951 : Int64))), .second, .val (.int (3 : Int32)), .val (.int (1 : Int32)), .val (.ref b268), .val (.int (1 : Int32)), .unset, .unset, .unset, .unset, .unset, .unset] [(.ref b268)])) rfl (by rw [hml]; rfl) (Steps.refl _) (argsL := []) (rest := []) (lenOf pd_1 rfl) rfl (by show 2 * 0 + _ ≤ _; exact Nat.le_of_eq rfl) (hb hby at_81) (fun _ _ => ⟨rfl, (rfl : T284.heap = T284.heap), (by decide : 1 + 0 ≤ _), (by decide : 3 + 0 ≤ _)⟩)
      dsimp only [Pt.U, Pt.locs, Pt.cells, Pt.slots] at X292 l292 y292 z292 st292 hQ292
      subst l292 y292 z292
      obtain ⟨rfl, Nq292, hs292⟩ := hQ292
      have N294 := Fr.app N289 Nq292
      refine OFin.to (S' := T292.setTop (mkF m 84 #[.val (.long q0), .second, .val (.long q1), .second, .val (.long q2), .second, .val (.long q3), .second, .val (.int p4), .val (.long (q0 &&& (2305843009213693951 : Int64))), .second, .val (.long (q1 &&& (2305843009213693951 : Int64))), .second, .val (.long (q2 &&& (2305843009213693951 : Int64))), .second, .val (.long (q3 &&& (2305843009213693951 : Int64))), .second, .val (.int (3 : Int32)), .val (.int (1 : Int32)), .val (.ref b268), .val (.int (1 : Int32)), .unset, .unset, .unset, .unset, .unset, .unset] [(.double (FP.ddiv (FP.l2d ((0 : Int64) + (q3 &&& (2305843009213693951 : Int64)))) (FP.l2d (1 : Int64))))])) st292 ?_
      refine OFin.of (S' := T292.setTop (mkF m 108 #[.val (.long q0), .second, .val (.long q1), .second, .val (.long q2), .second, .val (.long q3), .second, .val (.int p4), .val (.long (q0 &&& (2305843009213693951 : Int64))), .second, .val (.long (q1 &&& (2305843009213693951 : Int64))), .second, .val (.long (q2 &&& (2305843009213693951 : Int64))), .second, .val (.long (q3 &&& (2305843009213693951 : Int64))), .second, .val (.int (3 : Int32)), .val (.int (1 : Int32)), .val (.ref b268), .val (.int (1 : Int32)), .unset, .unset, .unset, .unset, .unset, .unset] [(.long (q0 &&& (2305843009213693951 : Int64))), (.ref b268)])) (fun t ht => ?_) ?_
      · refine XS.lload X292.here hx rfl (hb hby at_84) rfl ?_
        show Steps p.tables e below (T292.setTop (mkF m 86 _ [(.long (q3 &&& (2305843009213693951 : Int64))), (.double (FP.ddiv (FP.l2d ((0 : Int64) + (q3 &&& (2305843009213693951 : Int64)))) (FP.l2d (1 : Int64))))])) _
        refine XS.l2dS X292.here hx rfl (hb hby at_86) rfl rfl ?_
        show Steps p.tables e below (T292.setTop (mkF m 87 _ [(.double (FP.l2d (q3 &&& (2305843009213693951 : Int64)))), (.double (FP.ddiv (FP.l2d ((0 : Int64) + (q3 &&& (2305843009213693951 : Int64)))) (FP.l2d (1 : Int64))))])) _
        refine XS.dcmpS X292.here hx rfl (hb hby at_87) rfl rfl ?_
        show Steps p.tables e below (T292.setTop (mkF m 88 _ [(.int (cmpValue (FP.dcmp (FP.ddiv (FP.l2d ((0 : Int64) + (q3 &&& (2305843009213693951 : Int64)))) (FP.l2d (1 : Int64))) (FP.l2d (q3 &&& (2305843009213693951 : Int64)))) .l))])) _
        refine XS.ifNo X292.here hx rfl (hb hby at_88) rfl ((if0 _ _).trans (teq (dcmpV_eq (own_div1 _) (own_nn _ (by decide)) .l : (cmpValue (FP.dcmp (FP.ddiv (FP.l2d ((0 : Int64) + (q3 &&& (2305843009213693951 : Int64)))) (FP.l2d (1 : Int64))) (FP.l2d (q3 &&& (2305843009213693951 : Int64)))) .l) = (0 : Int32))).2) ?_
        show Steps p.tables e below (T292.setTop (mkF m 91 _ [])) _
        refine XS.iconst X292.here hx rfl (hb hby at_91) ?_
        show Steps p.tables e below (T292.setTop (mkF m 92 _ [(.int (1 : Int32))])) _
        refine XS.goto X292.here hx rfl (pc0 := 92) (pc' := 96) rfl (hb hby at_92) (by decide) (by decide) ?_
        show Steps p.tables e below (T292.setTop (mkF m 96 _ [(.int (1 : Int32))])) _
        refine XS.istore X292.here hx rfl (hb hby at_96) rfl (l' := #[.val (.long q0), .second, .val (.long q1), .second, .val (.long q2), .second, .val (.long q3), .second, .val (.int p4), .val (.long (q0 &&& (2305843009213693951 : Int64))), .second, .val (.long (q1 &&& (2305843009213693951 : Int64))), .second, .val (.long (q2 &&& (2305843009213693951 : Int64))), .second, .val (.long (q3 &&& (2305843009213693951 : Int64))), .second, .val (.int (3 : Int32)), .val (.int (1 : Int32)), .val (.ref b268), .val (.int (1 : Int32)), .unset, .unset, .unset, .unset, .unset, .unset]) rfl ?_
        show Steps p.tables e below (T292.setTop (mkF m 98 _ [])) _
        refine XS.iload X292.here hx rfl (hb hby at_98) rfl ?_
        show Steps p.tables e below (T292.setTop (mkF m 100 _ [(.int (3 : Int32))])) _
        refine XS.iconst X292.here hx rfl (hb hby at_100) ?_
        show Steps p.tables e below (T292.setTop (mkF m 101 _ [(.int (1 : Int32)), (.int (3 : Int32))])) _
        refine XS.icmpNo X292.here hx rfl (hb hby at_101) rfl (flt (by decide : ¬ ((3 : Int32) < (1 : Int32)))).1 ?_
        show Steps p.tables e below (T292.setTop (mkF m 104 _ [])) _
        refine XS.aload X292.here hx rfl (hb hby at_104) rfl rfl ?_
        show Steps p.tables e below (T292.setTop (mkF m 106 _ [(.ref b268)])) _
        refine XS.lload X292.here hx rfl (hb hby at_106) rfl ?_
        exact ht
      obtain ⟨cq296, kq296, q296a, q296b, q296c⟩ := isOf hZ hs292 f290
      obtain ⟨_, _, ⟨T295, L295, k295, n295⟩, -, X295, ⟨Lc295, hQ295, l295, y295, z295⟩, st295⟩ := X292.virtualBack hx (y := (⟨"com/example/kindred_mesh/kindredmesh/peer/SearchTime", "served", "(J)V"⟩ : MethodName)) (z := (⟨"com/example/kindred_mesh/kindredmesh/peer/SearchTime", "served", "(J)V"⟩ : MethodName)) hown (mvT hZ (hw _ (List.mem_of_getElem? (i := 10) rfl))) (mvT hZ (hw _ (List.mem_of_getElem? (i := 11) rfl))) (notFace_of_selects (args := #[]) (mvT hZ (hw _ (List.mem_of_getElem? (i := 13) rfl)))) (mvT hZ (hw _ (List.mem_of_getElem? (i := 13) rfl))) (mvT hZ (hw _ (List.mem_of_getElem? (i := 12) rfl))) (by decide) (backOf (W := 0) (rmSv l Z _ hw [] b268 (q0 &&& (2305843009213693951 : Int64)) (0 : Int64) (0 : Int64) (FP.ddiv (FP.l2d ((0 : Int64) + (q3 &&& (2305843009213693951 : Int64)))) (FP.l2d (1 : Int64))) T284.heap n0 Z291 f290 f286 f287 f288 g269) hZ (hw _ (List.mem_of_getElem? (i := 14) rfl)) (hw _ (List.mem_of_getElem? (i := 3) rfl)) (by decide) (by decide)) q296a q296c (g := (mkF m 108 #[.val (.long q0), .second, .val (.long q1), .second, .val (.long q2), .second, .val (.long q3), .second, .val (.int p4), .val (.long (q0 &&& (2305843009213693951 : Int64))), .second, .val (.long (q1 &&& (2305843009213693951 : Int64))), .second, .val (.long (q2 &&& (2305843009213693951 : Int64))), .second, .val (.long (q3 &&& (2305843009213693951 : Int64))), .second, .val (.int (3 : Int32)), .val (.int (1 : Int32)), .val (.ref b268), .val (.int (1 : Int32)), .unset, .unset, .unset, .unset, .unset, .unset] [(.long (q0 &&& (2305843009213693951 : Int64))), (.ref b268)])) rfl (by rw [hml]; rfl) (Steps.refl _) (argsL := [(.long (q0 &&& (2305843009213693951 : Int64)))]) (rest := []) (lenOf pd_2 rfl) rfl (by show 2 * 0 + _ ≤ _; exact Nat.le_of_eq rfl) (hb hby at_108) (fun _ _ => ⟨rfl, hs292, (by decide : 1 + 0 ≤ _), (by decide : 3 + 0 ≤ _)⟩)
      dsimp only [Pt.U, Pt.locs, Pt.cells, Pt.slots] at X295 l295 y295 z295 st295 hQ295
      subst l295 y295 z295
      obtain ⟨rfl, Nq295, Kq295, f297, f298, f299⟩ := hQ295
      have N300 := Fr.app N294 Nq295
      have f301 := (f290.keep Kq295)
      have Z302 : n0 ≤ T295.heap.size := (Nat.le_trans Z291 Kq295.1)
      refine OFin.to (S' := T295.setTop (mkF m 111 #[.val (.long q0), .second, .val (.long q1), .second, .val (.long q2), .second, .val (.long q3), .second, .val (.int p4), .val (.long (q0 &&& (2305843009213693951 : Int64))), .second, .val (.long (q1 &&& (2305843009213693951 : Int64))), .second, .val (.long (q2 &&& (2305843009213693951 : Int64))), .second, .val (.long (q3 &&& (2305843009213693951 : Int64))), .second, .val (.int (3 : Int32)), .val (.int (1 : Int32)), .val (.ref b268), .val (.int (1 : Int32)), .unset, .unset, .unset, .unset, .unset, .unset] [])) st295 ?_
      refine OFin.of (S' := T295.setTop (mkF m 121 #[.val (.long q0), .second, .val (.long q1), .second, .val (.long q2), .second, .val (.long q3), .second, .val (.int p4), .val (.long (q0 &&& (2305843009213693951 : Int64))), .second, .val (.long (q1 &&& (2305843009213693951 : Int64))), .second, .val (.long (q2 &&& (2305843009213693951 : Int64))), .second, .val (.long (q3 &&& (2305843009213693951 : Int64))), .second, .val (.int (3 : Int32)), .val (.int (1 : Int32)), .val (.ref b268), .val (.int (1 : Int32)), .unset, .unset, .unset, .unset, .unset, .unset] [(.long (q1 &&& (2305843009213693951 : Int64))), (.ref b268)])) (fun t ht => ?_) ?_
      · refine XS.iload X295.here hx rfl (hb hby at_111) rfl ?_
        show Steps p.tables e below (T295.setTop (mkF m 113 _ [(.int (3 : Int32))])) _
        refine XS.iconst X295.here hx rfl (hb hby at_113) ?_
        show Steps p.tables e below (T295.setTop (mkF m 114 _ [(.int (2 : Int32)), (.int (3 : Int32))])) _
        refine XS.icmpNo X295.here hx rfl (hb hby at_114) rfl (flt (by decide : ¬ ((3 : Int32) < (2 : Int32)))).1 ?_
        show Steps p.tables e below (T295.setTop (mkF m 117 _ [])) _
        refine XS.aload X295.here hx rfl (hb hby at_117) rfl rfl ?_
        show Steps p.tables e below (T295.setTop (mkF m 119 _ [(.ref b268)])) _
        refine XS.lload X295.here hx rfl (hb hby at_119) rfl ?_
        exact ht
      obtain ⟨cq304, kq304, q304a, q304b, q304c⟩ := isOf hZ (rfl : T295.heap = T295.heap) f301
      obtain ⟨_, _, ⟨T303, L303, k303, n303⟩, -, X303, ⟨Lc303, hQ303, l303, y303, z303⟩, st303⟩ := X295.virtualBack hx (y := (⟨"com/example/kindred_mesh/kindredmesh/peer/SearchTime", "served", "(J)V"⟩ : MethodName)) (z := (⟨"com/example/kindred_mesh/kindredmesh/peer/SearchTime", "served", "(J)V"⟩ : MethodName)) hown (mvT hZ (hw _ (List.mem_of_getElem? (i := 10) rfl))) (mvT hZ (hw _ (List.mem_of_getElem? (i := 11) rfl))) (notFace_of_selects (args := #[]) (mvT hZ (hw _ (List.mem_of_getElem? (i := 13) rfl)))) (mvT hZ (hw _ (List.mem_of_getElem? (i := 13) rfl))) (mvT hZ (hw _ (List.mem_of_getElem? (i := 12) rfl))) (by decide) (backOf (W := 0) (rmSv l Z _ hw [] b268 (q1 &&& (2305843009213693951 : Int64)) (1 : Int64) ((0 : Int64) + (q0 &&& (2305843009213693951 : Int64))) (FP.ddiv (FP.l2d ((0 : Int64) + (q3 &&& (2305843009213693951 : Int64)))) (FP.l2d (1 : Int64))) T295.heap n0 Z302 f301 f297 f298 f299 g269) hZ (hw _ (List.mem_of_getElem? (i := 14) rfl)) (hw _ (List.mem_of_getElem? (i := 3) rfl)) (by decide) (by decide)) q304a q304c (g := (mkF m 121 #[.val (.long q0), .second, .val (.long q1), .second, .val (.long q2), .second, .val (.long q3), .second, .val (.int p4), .val (.long (q0 &&& (2305843009213693951 : Int64))), .second, .val (.long (q1 &&& (2305843009213693951 : Int64))), .second, .val (.long (q2 &&& (2305843009213693951 : Int64))), .second, .val (.long (q3 &&& (2305843009213693951 : Int64))), .second, .val (.int (3 : Int32)), .val (.int (1 : Int32)), .val (.ref b268), .val (.int (1 : Int32)), .unset, .unset, .unset, .unset, .unset, .unset] [(.long (q1 &&& (2305843009213693951 : Int64))), (.ref b268)])) rfl (by rw [hml]; rfl) (Steps.refl _) (argsL := [(.long (q1 &&& (2305843009213693951 : Int64)))]) (rest := []) (lenOf pd_2 rfl) rfl (by show 2 * 0 + _ ≤ _; exact Nat.le_of_eq rfl) (hb hby at_121) (fun _ _ => ⟨rfl, (rfl : T295.heap = T295.heap), (by decide : 1 + 0 ≤ _), (by decide : 3 + 0 ≤ _)⟩)
      dsimp only [Pt.U, Pt.locs, Pt.cells, Pt.slots] at X303 l303 y303 z303 st303 hQ303
      subst l303 y303 z303
      obtain ⟨rfl, Nq303, Kq303, f305, f306, f307⟩ := hQ303
      have N308 := Fr.app N300 Nq303
      have f309 := (f301.keep Kq303)
      have Z310 : n0 ≤ T303.heap.size := (Nat.le_trans Z302 Kq303.1)
      refine OFin.to (S' := T303.setTop (mkF m 124 #[.val (.long q0), .second, .val (.long q1), .second, .val (.long q2), .second, .val (.long q3), .second, .val (.int p4), .val (.long (q0 &&& (2305843009213693951 : Int64))), .second, .val (.long (q1 &&& (2305843009213693951 : Int64))), .second, .val (.long (q2 &&& (2305843009213693951 : Int64))), .second, .val (.long (q3 &&& (2305843009213693951 : Int64))), .second, .val (.int (3 : Int32)), .val (.int (1 : Int32)), .val (.ref b268), .val (.int (1 : Int32)), .unset, .unset, .unset, .unset, .unset, .unset] [])) st303 ?_
      refine OFin.of (S' := T303.setTop (mkF m 134 #[.val (.long q0), .second, .val (.long q1), .second, .val (.long q2), .second, .val (.long q3), .second, .val (.int p4), .val (.long (q0 &&& (2305843009213693951 : Int64))), .second, .val (.long (q1 &&& (2305843009213693951 : Int64))), .second, .val (.long (q2 &&& (2305843009213693951 : Int64))), .second, .val (.long (q3 &&& (2305843009213693951 : Int64))), .second, .val (.int (3 : Int32)), .val (.int (1 : Int32)), .val (.ref b268), .val (.int (1 : Int32)), .unset, .unset, .unset, .unset, .unset, .unset] [(.long (q2 &&& (2305843009213693951 : Int64))), (.ref b268)])) (fun t ht => ?_) ?_
      · refine XS.iload X303.here hx rfl (hb hby at_124) rfl ?_
        show Steps p.tables e below (T303.setTop (mkF m 126 _ [(.int (3 : Int32))])) _
        refine XS.iconst X303.here hx rfl (hb hby at_126) ?_
        show Steps p.tables e below (T303.setTop (mkF m 127 _ [(.int (3 : Int32)), (.int (3 : Int32))])) _
        refine XS.icmpNo X303.here hx rfl (hb hby at_127) rfl (flt (by decide : ¬ ((3 : Int32) < (3 : Int32)))).1 ?_
        show Steps p.tables e below (T303.setTop (mkF m 130 _ [])) _
        refine XS.aload X303.here hx rfl (hb hby at_130) rfl rfl ?_
        show Steps p.tables e below (T303.setTop (mkF m 132 _ [(.ref b268)])) _
        refine XS.lload X303.here hx rfl (hb hby at_132) rfl ?_
        exact ht
      obtain ⟨cq312, kq312, q312a, q312b, q312c⟩ := isOf hZ (rfl : T303.heap = T303.heap) f309
      obtain ⟨_, _, ⟨T311, L311, k311, n311⟩, -, X311, ⟨Lc311, hQ311, l311, y311, z311⟩, st311⟩ := X303.virtualBack hx (y := (⟨"com/example/kindred_mesh/kindredmesh/peer/SearchTime", "served", "(J)V"⟩ : MethodName)) (z := (⟨"com/example/kindred_mesh/kindredmesh/peer/SearchTime", "served", "(J)V"⟩ : MethodName)) hown (mvT hZ (hw _ (List.mem_of_getElem? (i := 10) rfl))) (mvT hZ (hw _ (List.mem_of_getElem? (i := 11) rfl))) (notFace_of_selects (args := #[]) (mvT hZ (hw _ (List.mem_of_getElem? (i := 13) rfl)))) (mvT hZ (hw _ (List.mem_of_getElem? (i := 13) rfl))) (mvT hZ (hw _ (List.mem_of_getElem? (i := 12) rfl))) (by decide) (backOf (W := 0) (rmSv l Z _ hw [] b268 (q2 &&& (2305843009213693951 : Int64)) (2 : Int64) (((0 : Int64) + (q0 &&& (2305843009213693951 : Int64))) + (q1 &&& (2305843009213693951 : Int64))) (FP.ddiv (FP.l2d ((0 : Int64) + (q3 &&& (2305843009213693951 : Int64)))) (FP.l2d (1 : Int64))) T303.heap n0 Z310 f309 f305 f306 f307 g269) hZ (hw _ (List.mem_of_getElem? (i := 14) rfl)) (hw _ (List.mem_of_getElem? (i := 3) rfl)) (by decide) (by decide)) q312a q312c (g := (mkF m 134 #[.val (.long q0), .second, .val (.long q1), .second, .val (.long q2), .second, .val (.long q3), .second, .val (.int p4), .val (.long (q0 &&& (2305843009213693951 : Int64))), .second, .val (.long (q1 &&& (2305843009213693951 : Int64))), .second, .val (.long (q2 &&& (2305843009213693951 : Int64))), .second, .val (.long (q3 &&& (2305843009213693951 : Int64))), .second, .val (.int (3 : Int32)), .val (.int (1 : Int32)), .val (.ref b268), .val (.int (1 : Int32)), .unset, .unset, .unset, .unset, .unset, .unset] [(.long (q2 &&& (2305843009213693951 : Int64))), (.ref b268)])) rfl (by rw [hml]; rfl) (Steps.refl _) (argsL := [(.long (q2 &&& (2305843009213693951 : Int64)))]) (rest := []) (lenOf pd_2 rfl) rfl (by show 2 * 0 + _ ≤ _; exact Nat.le_of_eq rfl) (hb hby at_134) (fun _ _ => ⟨rfl, (rfl : T303.heap = T303.heap), (by decide : 1 + 0 ≤ _), (by decide : 3 + 0 ≤ _)⟩)
      dsimp only [Pt.U, Pt.locs, Pt.cells, Pt.slots] at X311 l311 y311 z311 st311 hQ311
      subst l311 y311 z311
      obtain ⟨rfl, Nq311, Kq311, f313, f314, f315⟩ := hQ311
      have N316 := Fr.app N308 Nq311
      have f317 := (f309.keep Kq311)
      have Z318 : n0 ≤ T311.heap.size := (Nat.le_trans Z310 Kq311.1)
      refine OFin.to (S' := T311.setTop (mkF m 137 #[.val (.long q0), .second, .val (.long q1), .second, .val (.long q2), .second, .val (.long q3), .second, .val (.int p4), .val (.long (q0 &&& (2305843009213693951 : Int64))), .second, .val (.long (q1 &&& (2305843009213693951 : Int64))), .second, .val (.long (q2 &&& (2305843009213693951 : Int64))), .second, .val (.long (q3 &&& (2305843009213693951 : Int64))), .second, .val (.int (3 : Int32)), .val (.int (1 : Int32)), .val (.ref b268), .val (.int (1 : Int32)), .unset, .unset, .unset, .unset, .unset, .unset] [])) st311 ?_
      refine OFin.of (S' := T311.setTop (mkF m 139 #[.val (.long q0), .second, .val (.long q1), .second, .val (.long q2), .second, .val (.long q3), .second, .val (.int p4), .val (.long (q0 &&& (2305843009213693951 : Int64))), .second, .val (.long (q1 &&& (2305843009213693951 : Int64))), .second, .val (.long (q2 &&& (2305843009213693951 : Int64))), .second, .val (.long (q3 &&& (2305843009213693951 : Int64))), .second, .val (.int (3 : Int32)), .val (.int (1 : Int32)), .val (.ref b268), .val (.int (1 : Int32)), .unset, .unset, .unset, .unset, .unset, .unset] [(.ref b268)])) (fun t ht => ?_) ?_
      · refine XS.aload X311.here hx rfl (hb hby at_137) rfl rfl ?_
        exact ht
      obtain ⟨cq320, kq320, q320a, q320b, q320c⟩ := isOf hZ (rfl : T311.heap = T311.heap) f317
      obtain ⟨_, _, ⟨T319, L319, k319, n319⟩, -, X319, ⟨Lc319, hQ319, l319, y319, z319⟩, st319⟩ := X311.virtualBack hx (y := (⟨"com/example/kindred_mesh/kindredmesh/peer/SearchTime", "newPeriod", "()V"⟩ : MethodName)) (z := (⟨"com/example/kindred_mesh/kindredmesh/peer/SearchTime", "newPeriod", "()V"⟩ : MethodName)) hown (mvT hZ (hw _ (List.mem_of_getElem? (i := 19) rfl))) (mvT hZ (hw _ (List.mem_of_getElem? (i := 20) rfl))) (notFace_of_selects (args := #[]) (mvT hZ (hw _ (List.mem_of_getElem? (i := 22) rfl)))) (mvT hZ (hw _ (List.mem_of_getElem? (i := 22) rfl))) (mvT hZ (hw _ (List.mem_of_getElem? (i := 21) rfl))) (by decide) (backOf (W := 0) (rmNp1 l Z _ hw [] b268 (3 : Int64) ((((0 : Int64) + (q0 &&& (2305843009213693951 : Int64))) + (q1 &&& (2305843009213693951 : Int64))) + (q2 &&& (2305843009213693951 : Int64))) (FP.ddiv (FP.l2d ((0 : Int64) + (q3 &&& (2305843009213693951 : Int64)))) (FP.l2d (1 : Int64))) T311.heap n0 Z318 f317 f313 f314 f315 g269 (by decide) (own_nn _ (by decide))) hZ (hw _ (List.mem_of_getElem? (i := 23) rfl)) (hw _ (List.mem_of_getElem? (i := 3) rfl)) (by decide) (by decide)) q320a q320c (g := (mkF m 139 #[.val (.long q0), .second, .val (.long q1), .second, .val (.long q2), .second, .val (.long q3), .second, .val (.int p4), .val (.long (q0 &&& (2305843009213693951 : Int64))), .second, .val (.long (q1 &&& (2305843009213693951 : Int64))), .second, .val (.long (q2 &&& (2305843009213693951 : Int64))), .second, .val (.long (q3 &&& (2305843009213693951 : Int64))), .second, .val (.int (3 : Int32)), .val (.int (1 : Int32)), .val (.ref b268), .val (.int (1 : Int32)), .unset, .unset, .unset, .unset, .unset, .unset] [(.ref b268)])) rfl (by rw [hml]; rfl) (Steps.refl _) (argsL := []) (rest := []) (lenOf pd_0 rfl) rfl (by show 2 * 0 + _ ≤ _; exact Nat.le_of_eq rfl) (hb hby at_139) (fun _ _ => ⟨rfl, (rfl : T311.heap = T311.heap), (by decide : 1 + 0 ≤ _), (by decide : 3 + 0 ≤ _)⟩)
      dsimp only [Pt.U, Pt.locs, Pt.cells, Pt.slots] at X319 l319 y319 z319 st319 hQ319
      subst l319 y319 z319
      obtain ⟨rfl, Nq319, Kq319, f321, f322, f323⟩ := hQ319
      have N324 := Fr.app N316 Nq319
      have f325 := (f317.keep Kq319)
      have Z326 : n0 ≤ T319.heap.size := (Nat.le_trans Z318 Kq319.1)
      refine OFin.to (S' := T319.setTop (mkF m 142 #[.val (.long q0), .second, .val (.long q1), .second, .val (.long q2), .second, .val (.long q3), .second, .val (.int p4), .val (.long (q0 &&& (2305843009213693951 : Int64))), .second, .val (.long (q1 &&& (2305843009213693951 : Int64))), .second, .val (.long (q2 &&& (2305843009213693951 : Int64))), .second, .val (.long (q3 &&& (2305843009213693951 : Int64))), .second, .val (.int (3 : Int32)), .val (.int (1 : Int32)), .val (.ref b268), .val (.int (1 : Int32)), .unset, .unset, .unset, .unset, .unset, .unset] [])) st319 ?_
      refine OFin.of (S' := T319.setTop (mkF m 202 #[.val (.long q0), .second, .val (.long q1), .second, .val (.long q2), .second, .val (.long q3), .second, .val (.int p4), .val (.long (q0 &&& (2305843009213693951 : Int64))), .second, .val (.long (q1 &&& (2305843009213693951 : Int64))), .second, .val (.long (q2 &&& (2305843009213693951 : Int64))), .second, .val (.long (q3 &&& (2305843009213693951 : Int64))), .second, .val (.int (3 : Int32)), .val (.int (1 : Int32)), .val (.ref b268), .val (.int (1 : Int32)), .val (.long (((q0 &&& (2305843009213693951 : Int64)) + (q1 &&& (2305843009213693951 : Int64))) + (q2 &&& (2305843009213693951 : Int64)))), .second, .val (.double (FP.ddiv (FP.l2d (((q0 &&& (2305843009213693951 : Int64)) + (q1 &&& (2305843009213693951 : Int64))) + (q2 &&& (2305843009213693951 : Int64)))) (FP.i2d (3 : Int32)))), .second, .unset, .unset] [(.ref b268)])) (fun t ht => ?_) ?_
      · refine XS.iload X319.here hx rfl (hb hby at_142) rfl ?_
        show Steps p.tables e below (T319.setTop (mkF m 144 _ [(.int (3 : Int32))])) _
        refine XS.iconst X319.here hx rfl (hb hby at_144) ?_
        show Steps p.tables e below (T319.setTop (mkF m 145 _ [(.int (1 : Int32)), (.int (3 : Int32))])) _
        refine XS.icmpNo X319.here hx rfl (hb hby at_145) rfl (flt (by decide : ¬ ((3 : Int32) < (1 : Int32)))).1 ?_
        show Steps p.tables e below (T319.setTop (mkF m 148 _ [])) _
        refine XS.lload X319.here hx rfl (hb hby at_148) rfl ?_
        show Steps p.tables e below (T319.setTop (mkF m 150 _ [(.long (q0 &&& (2305843009213693951 : Int64)))])) _
        refine XS.goto X319.here hx rfl (pc0 := 150) (pc' := 154) rfl (hb hby at_150) (by decide) (by decide) ?_
        show Steps p.tables e below (T319.setTop (mkF m 154 _ [(.long (q0 &&& (2305843009213693951 : Int64)))])) _
        refine XS.iload X319.here hx rfl (hb hby at_154) rfl ?_
        show Steps p.tables e below (T319.setTop (mkF m 156 _ [(.int (3 : Int32)), (.long (q0 &&& (2305843009213693951 : Int64)))])) _
        refine XS.iconst X319.here hx rfl (hb hby at_156) ?_
        show Steps p.tables e below (T319.setTop (mkF m 157 _ [(.int (2 : Int32)), (.int (3 : Int32)), (.long (q0 &&& (2305843009213693951 : Int64)))])) _
        refine XS.icmpNo X319.here hx rfl (hb hby at_157) rfl (flt (by decide : ¬ ((3 : Int32) < (2 : Int32)))).1 ?_
        show Steps p.tables e below (T319.setTop (mkF m 160 _ [(.long (q0 &&& (2305843009213693951 : Int64)))])) _
        refine XS.lload X319.here hx rfl (hb hby at_160) rfl ?_
        show Steps p.tables e below (T319.setTop (mkF m 162 _ [(.long (q1 &&& (2305843009213693951 : Int64))), (.long (q0 &&& (2305843009213693951 : Int64)))])) _
        refine XS.goto X319.here hx rfl (pc0 := 162) (pc' := 166) rfl (hb hby at_162) (by decide) (by decide) ?_
        show Steps p.tables e below (T319.setTop (mkF m 166 _ [(.long (q1 &&& (2305843009213693951 : Int64))), (.long (q0 &&& (2305843009213693951 : Int64)))])) _
        refine XS.ladd X319.here hx rfl (hb hby at_166) rfl ?_
        show Steps p.tables e below (T319.setTop (mkF m 167 _ [(.long ((q0 &&& (2305843009213693951 : Int64)) + (q1 &&& (2305843009213693951 : Int64))))])) _
        refine XS.iload X319.here hx rfl (hb hby at_167) rfl ?_
        show Steps p.tables e below (T319.setTop (mkF m 169 _ [(.int (3 : Int32)), (.long ((q0 &&& (2305843009213693951 : Int64)) + (q1 &&& (2305843009213693951 : Int64))))])) _
        refine XS.iconst X319.here hx rfl (hb hby at_169) ?_
        show Steps p.tables e below (T319.setTop (mkF m 170 _ [(.int (3 : Int32)), (.int (3 : Int32)), (.long ((q0 &&& (2305843009213693951 : Int64)) + (q1 &&& (2305843009213693951 : Int64))))])) _
        refine XS.icmpNo X319.here hx rfl (hb hby at_170) rfl (flt (by decide : ¬ ((3 : Int32) < (3 : Int32)))).1 ?_
        show Steps p.tables e below (T319.setTop (mkF m 173 _ [(.long ((q0 &&& (2305843009213693951 : Int64)) + (q1 &&& (2305843009213693951 : Int64))))])) _
        refine XS.lload X319.here hx rfl (hb hby at_173) rfl ?_
        show Steps p.tables e below (T319.setTop (mkF m 175 _ [(.long (q2 &&& (2305843009213693951 : Int64))), (.long ((q0 &&& (2305843009213693951 : Int64)) + (q1 &&& (2305843009213693951 : Int64))))])) _
        refine XS.goto X319.here hx rfl (pc0 := 175) (pc' := 179) rfl (hb hby at_175) (by decide) (by decide) ?_
        show Steps p.tables e below (T319.setTop (mkF m 179 _ [(.long (q2 &&& (2305843009213693951 : Int64))), (.long ((q0 &&& (2305843009213693951 : Int64)) + (q1 &&& (2305843009213693951 : Int64))))])) _
        refine XS.ladd X319.here hx rfl (hb hby at_179) rfl ?_
        show Steps p.tables e below (T319.setTop (mkF m 180 _ [(.long (((q0 &&& (2305843009213693951 : Int64)) + (q1 &&& (2305843009213693951 : Int64))) + (q2 &&& (2305843009213693951 : Int64))))])) _
        refine XS.lstore X319.here hx rfl (hb hby at_180) rfl (l' := #[.val (.long q0), .second, .val (.long q1), .second, .val (.long q2), .second, .val (.long q3), .second, .val (.int p4), .val (.long (q0 &&& (2305843009213693951 : Int64))), .second, .val (.long (q1 &&& (2305843009213693951 : Int64))), .second, .val (.long (q2 &&& (2305843009213693951 : Int64))), .second, .val (.long (q3 &&& (2305843009213693951 : Int64))), .second, .val (.int (3 : Int32)), .val (.int (1 : Int32)), .val (.ref b268), .val (.int (1 : Int32)), .val (.long (((q0 &&& (2305843009213693951 : Int64)) + (q1 &&& (2305843009213693951 : Int64))) + (q2 &&& (2305843009213693951 : Int64)))), .second, .unset, .unset, .unset, .unset]) rfl ?_
        show Steps p.tables e below (T319.setTop (mkF m 182 #[.val (.long q0), .second, .val (.long q1), .second, .val (.long q2), .second, .val (.long q3), .second, .val (.int p4), .val (.long (q0 &&& (2305843009213693951 : Int64))), .second, .val (.long (q1 &&& (2305843009213693951 : Int64))), .second, .val (.long (q2 &&& (2305843009213693951 : Int64))), .second, .val (.long (q3 &&& (2305843009213693951 : Int64))), .second, .val (.int (3 : Int32)), .val (.int (1 : Int32)), .val (.ref b268), .val (.int (1 : Int32)), .val (.long (((q0 &&& (2305843009213693951 : Int64)) + (q1 &&& (2305843009213693951 : Int64))) + (q2 &&& (2305843009213693951 : Int64)))), .second, .unset, .unset, .unset, .unset] [])) _
        refine XS.iload X319.here hx rfl (hb hby at_182) rfl ?_
        show Steps p.tables e below (T319.setTop (mkF m 184 _ [(.int (3 : Int32))])) _
        refine XS.ifYes X319.here hx rfl (pc0 := 184) (pc' := 191) rfl (hb hby at_184) rfl ((if0 _ _).trans (feq (by decide : ¬ ((3 : Int32) = (0 : Int32)))).2) (by decide) (by decide) ?_
        show Steps p.tables e below (T319.setTop (mkF m 191 _ [])) _
        refine XS.lload X319.here hx rfl (hb hby at_191) rfl ?_
        show Steps p.tables e below (T319.setTop (mkF m 193 _ [(.long (((q0 &&& (2305843009213693951 : Int64)) + (q1 &&& (2305843009213693951 : Int64))) + (q2 &&& (2305843009213693951 : Int64))))])) _
        refine XS.l2dS X319.here hx rfl (hb hby at_193) rfl rfl ?_
        show Steps p.tables e below (T319.setTop (mkF m 194 _ [(.double (FP.l2d (((q0 &&& (2305843009213693951 : Int64)) + (q1 &&& (2305843009213693951 : Int64))) + (q2 &&& (2305843009213693951 : Int64)))))])) _
        refine XS.iload X319.here hx rfl (hb hby at_194) rfl ?_
        show Steps p.tables e below (T319.setTop (mkF m 196 _ [(.int (3 : Int32)), (.double (FP.l2d (((q0 &&& (2305843009213693951 : Int64)) + (q1 &&& (2305843009213693951 : Int64))) + (q2 &&& (2305843009213693951 : Int64)))))])) _
        refine XS.i2dS X319.here hx rfl (hb hby at_196) rfl rfl ?_
        show Steps p.tables e below (T319.setTop (mkF m 197 _ [(.double (FP.i2d (3 : Int32))), (.double (FP.l2d (((q0 &&& (2305843009213693951 : Int64)) + (q1 &&& (2305843009213693951 : Int64))) + (q2 &&& (2305843009213693951 : Int64)))))])) _
        refine XS.ddivS X319.here hx rfl (hb hby at_197) rfl (own_nni _ (by decide)) rfl ?_
        show Steps p.tables e below (T319.setTop (mkF m 198 _ [(.double (FP.ddiv (FP.l2d (((q0 &&& (2305843009213693951 : Int64)) + (q1 &&& (2305843009213693951 : Int64))) + (q2 &&& (2305843009213693951 : Int64)))) (FP.i2d (3 : Int32))))])) _
        refine XS.dstore X319.here hx rfl (hb hby at_198) rfl (l' := #[.val (.long q0), .second, .val (.long q1), .second, .val (.long q2), .second, .val (.long q3), .second, .val (.int p4), .val (.long (q0 &&& (2305843009213693951 : Int64))), .second, .val (.long (q1 &&& (2305843009213693951 : Int64))), .second, .val (.long (q2 &&& (2305843009213693951 : Int64))), .second, .val (.long (q3 &&& (2305843009213693951 : Int64))), .second, .val (.int (3 : Int32)), .val (.int (1 : Int32)), .val (.ref b268), .val (.int (1 : Int32)), .val (.long (((q0 &&& (2305843009213693951 : Int64)) + (q1 &&& (2305843009213693951 : Int64))) + (q2 &&& (2305843009213693951 : Int64)))), .second, .val (.double (FP.ddiv (FP.l2d (((q0 &&& (2305843009213693951 : Int64)) + (q1 &&& (2305843009213693951 : Int64))) + (q2 &&& (2305843009213693951 : Int64)))) (FP.i2d (3 : Int32)))), .second, .unset, .unset]) rfl ?_
        show Steps p.tables e below (T319.setTop (mkF m 200 #[.val (.long q0), .second, .val (.long q1), .second, .val (.long q2), .second, .val (.long q3), .second, .val (.int p4), .val (.long (q0 &&& (2305843009213693951 : Int64))), .second, .val (.long (q1 &&& (2305843009213693951 : Int64))), .second, .val (.long (q2 &&& (2305843009213693951 : Int64))), .second, .val (.long (q3 &&& (2305843009213693951 : Int64))), .second, .val (.int (3 : Int32)), .val (.int (1 : Int32)), .val (.ref b268), .val (.int (1 : Int32)), .val (.long (((q0 &&& (2305843009213693951 : Int64)) + (q1 &&& (2305843009213693951 : Int64))) + (q2 &&& (2305843009213693951 : Int64)))), .second, .val (.double (FP.ddiv (FP.l2d (((q0 &&& (2305843009213693951 : Int64)) + (q1 &&& (2305843009213693951 : Int64))) + (q2 &&& (2305843009213693951 : Int64)))) (FP.i2d (3 : Int32)))), .second, .unset, .unset] [])) _
        refine XS.aload X319.here hx rfl (hb hby at_200) rfl rfl ?_
        exact ht
      obtain ⟨cq328, kq328, q328a, q328b, q328c⟩ := isOf hZ (rfl : T319.heap = T319.heap) f325
      obtain ⟨_, _, ⟨T327, L327, k327, n327⟩, -, X327, ⟨Lc327, hQ327, l327, y327, z327⟩, st327⟩ := X319.virtualBack hx (y := (⟨"com/example/kindred_mesh/kindredmesh/peer/SearchTime", "lastMean", "()D"⟩ : MethodName)) (z := (⟨"com/example/kindred_mesh/kindredmesh/peer/SearchTime", "lastMean", "()D"⟩ : MethodName)) hown (mvT hZ (hw _ (List.mem_of_getElem? (i := 26) rfl))) (mvT hZ (hw _ (List.mem_of_getElem? (i := 27) rfl))) (notFace_of_selects (args := #[]) (mvT hZ (hw _ (List.mem_of_getElem? (i := 29) rfl)))) (mvT hZ (hw _ (List.mem_of_getElem? (i := 29) rfl))) (mvT hZ (hw _ (List.mem_of_getElem? (i := 28) rfl))) (by decide) (backOf (W := 0) (rmLm l Z _ hw [] b268 (FP.ddiv (FP.l2d ((((0 : Int64) + (q0 &&& (2305843009213693951 : Int64))) + (q1 &&& (2305843009213693951 : Int64))) + (q2 &&& (2305843009213693951 : Int64)))) (FP.l2d (3 : Int64))) T319.heap n0 Z326 f323) hZ (hw _ (List.mem_of_getElem? (i := 30) rfl)) (hw _ (List.mem_of_getElem? (i := 3) rfl)) (by decide) (by decide)) q328a q328c (g := (mkF m 202 #[.val (.long q0), .second, .val (.long q1), .second, .val (.long q2), .second, .val (.long q3), .second, .val (.int p4), .val (.long (q0 &&& (2305843009213693951 : Int64))), .second, .val (.long (q1 &&& (2305843009213693951 : Int64))), .second, .val (.long (q2 &&& (2305843009213693951 : Int64))), .second, .val (.long (q3 &&& (2305843009213693951 : Int64))), .second, .val (.int (3 : Int32)), .val (.int (1 : Int32)), .val (.ref b268), .val (.int (1 : Int32)), .val (.long (((q0 &&& (2305843009213693951 : Int64)) + (q1 &&& (2305843009213693951 : Int64))) + (q2 &&& (2305843009213693951 : Int64)))), .second, .val (.double (FP.ddiv (FP.l2d (((q0 &&& (2305843009213693951 : Int64)) + (q1 &&& (2305843009213693951 : Int64))) + (q2 &&& (2305843009213693951 : Int64)))) (FP.i2d (3 : Int32)))), .second, .unset, .unset] [(.ref b268)])) rfl (by rw [hml]; rfl) (Steps.refl _) (argsL := []) (rest := []) (lenOf pd_1 rfl) rfl (by show 2 * 0 + _ ≤ _; exact Nat.le_of_eq rfl) (hb hby at_202) (fun _ _ => ⟨rfl, (rfl : T319.heap = T319.heap), (by decide : 1 + 0 ≤ _), (by decide : 3 + 0 ≤ _)⟩)
      dsimp only [Pt.U, Pt.locs, Pt.cells, Pt.slots] at X327 l327 y327 z327 st327 hQ327
      subst l327 y327 z327
      obtain ⟨rfl, Nq327, hs327⟩ := hQ327
      have N329 := Fr.app N324 Nq327
      refine OFin.to (S' := T327.setTop (mkF m 205 #[.val (.long q0), .second, .val (.long q1), .second, .val (.long q2), .second, .val (.long q3), .second, .val (.int p4), .val (.long (q0 &&& (2305843009213693951 : Int64))), .second, .val (.long (q1 &&& (2305843009213693951 : Int64))), .second, .val (.long (q2 &&& (2305843009213693951 : Int64))), .second, .val (.long (q3 &&& (2305843009213693951 : Int64))), .second, .val (.int (3 : Int32)), .val (.int (1 : Int32)), .val (.ref b268), .val (.int (1 : Int32)), .val (.long (((q0 &&& (2305843009213693951 : Int64)) + (q1 &&& (2305843009213693951 : Int64))) + (q2 &&& (2305843009213693951 : Int64)))), .second, .val (.double (FP.ddiv (FP.l2d (((q0 &&& (2305843009213693951 : Int64)) + (q1 &&& (2305843009213693951 : Int64))) + (q2 &&& (2305843009213693951 : Int64)))) (FP.i2d (3 : Int32)))), .second, .unset, .unset] [(.double (FP.ddiv (FP.l2d ((((0 : Int64) + (q0 &&& (2305843009213693951 : Int64))) + (q1 &&& (2305843009213693951 : Int64))) + (q2 &&& (2305843009213693951 : Int64)))) (FP.l2d (3 : Int64))))])) st327 ?_
      refine OFin.of (S' := T327.setTop (mkF m 232 #[.val (.long q0), .second, .val (.long q1), .second, .val (.long q2), .second, .val (.long q3), .second, .val (.int p4), .val (.long (q0 &&& (2305843009213693951 : Int64))), .second, .val (.long (q1 &&& (2305843009213693951 : Int64))), .second, .val (.long (q2 &&& (2305843009213693951 : Int64))), .second, .val (.long (q3 &&& (2305843009213693951 : Int64))), .second, .val (.int (3 : Int32)), .val (.int (1 : Int32)), .val (.ref b268), .val (.int (1 : Int32)), .val (.long (((q0 &&& (2305843009213693951 : Int64)) + (q1 &&& (2305843009213693951 : Int64))) + (q2 &&& (2305843009213693951 : Int64)))), .second, .val (.double (FP.ddiv (FP.l2d (((q0 &&& (2305843009213693951 : Int64)) + (q1 &&& (2305843009213693951 : Int64))) + (q2 &&& (2305843009213693951 : Int64)))) (FP.i2d (3 : Int32)))), .second, .val (.double (FP.ddiv (FP.l2d ((((0 : Int64) + (q0 &&& (2305843009213693951 : Int64))) + (q1 &&& (2305843009213693951 : Int64))) + (q2 &&& (2305843009213693951 : Int64)))) (FP.l2d (3 : Int64)))), .second] [(.int (1 : Int32))])) (fun t ht => ?_) ?_
      · refine XS.dstore X327.here hx rfl (hb hby at_205) rfl (l' := #[.val (.long q0), .second, .val (.long q1), .second, .val (.long q2), .second, .val (.long q3), .second, .val (.int p4), .val (.long (q0 &&& (2305843009213693951 : Int64))), .second, .val (.long (q1 &&& (2305843009213693951 : Int64))), .second, .val (.long (q2 &&& (2305843009213693951 : Int64))), .second, .val (.long (q3 &&& (2305843009213693951 : Int64))), .second, .val (.int (3 : Int32)), .val (.int (1 : Int32)), .val (.ref b268), .val (.int (1 : Int32)), .val (.long (((q0 &&& (2305843009213693951 : Int64)) + (q1 &&& (2305843009213693951 : Int64))) + (q2 &&& (2305843009213693951 : Int64)))), .second, .val (.double (FP.ddiv (FP.l2d (((q0 &&& (2305843009213693951 : Int64)) + (q1 &&& (2305843009213693951 : Int64))) + (q2 &&& (2305843009213693951 : Int64)))) (FP.i2d (3 : Int32)))), .second, .val (.double (FP.ddiv (FP.l2d ((((0 : Int64) + (q0 &&& (2305843009213693951 : Int64))) + (q1 &&& (2305843009213693951 : Int64))) + (q2 &&& (2305843009213693951 : Int64)))) (FP.l2d (3 : Int64)))), .second]) rfl ?_
        show Steps p.tables e below (T327.setTop (mkF m 207 #[.val (.long q0), .second, .val (.long q1), .second, .val (.long q2), .second, .val (.long q3), .second, .val (.int p4), .val (.long (q0 &&& (2305843009213693951 : Int64))), .second, .val (.long (q1 &&& (2305843009213693951 : Int64))), .second, .val (.long (q2 &&& (2305843009213693951 : Int64))), .second, .val (.long (q3 &&& (2305843009213693951 : Int64))), .second, .val (.int (3 : Int32)), .val (.int (1 : Int32)), .val (.ref b268), .val (.int (1 : Int32)), .val (.long (((q0 &&& (2305843009213693951 : Int64)) + (q1 &&& (2305843009213693951 : Int64))) + (q2 &&& (2305843009213693951 : Int64)))), .second, .val (.double (FP.ddiv (FP.l2d (((q0 &&& (2305843009213693951 : Int64)) + (q1 &&& (2305843009213693951 : Int64))) + (q2 &&& (2305843009213693951 : Int64)))) (FP.i2d (3 : Int32)))), .second, .val (.double (FP.ddiv (FP.l2d ((((0 : Int64) + (q0 &&& (2305843009213693951 : Int64))) + (q1 &&& (2305843009213693951 : Int64))) + (q2 &&& (2305843009213693951 : Int64)))) (FP.l2d (3 : Int64)))), .second] [])) _
        refine XS.iload X327.here hx rfl (hb hby at_207) rfl ?_
        show Steps p.tables e below (T327.setTop (mkF m 209 _ [(.int (1 : Int32))])) _
        refine XS.ifNo X327.here hx rfl (hb hby at_209) rfl ((if0 _ _).trans (feq (by decide : ¬ ((1 : Int32) = (0 : Int32)))).1) ?_
        show Steps p.tables e below (T327.setTop (mkF m 212 _ [])) _
        refine XS.dload X327.here hx rfl (hb hby at_212) rfl ?_
        show Steps p.tables e below (T327.setTop (mkF m 214 _ [(.double (FP.ddiv (FP.l2d ((((0 : Int64) + (q0 &&& (2305843009213693951 : Int64))) + (q1 &&& (2305843009213693951 : Int64))) + (q2 &&& (2305843009213693951 : Int64)))) (FP.l2d (3 : Int64))))])) _
        refine XS.dload X327.here hx rfl (hb hby at_214) rfl ?_
        show Steps p.tables e below (T327.setTop (mkF m 216 _ [(.double (FP.ddiv (FP.l2d (((q0 &&& (2305843009213693951 : Int64)) + (q1 &&& (2305843009213693951 : Int64))) + (q2 &&& (2305843009213693951 : Int64)))) (FP.i2d (3 : Int32)))), (.double (FP.ddiv (FP.l2d ((((0 : Int64) + (q0 &&& (2305843009213693951 : Int64))) + (q1 &&& (2305843009213693951 : Int64))) + (q2 &&& (2305843009213693951 : Int64)))) (FP.l2d (3 : Int64))))])) _
        refine XS.dcmpS X327.here hx rfl (hb hby at_216) rfl rfl ?_
        show Steps p.tables e below (T327.setTop (mkF m 217 _ [(.int (cmpValue (FP.dcmp (FP.ddiv (FP.l2d ((((0 : Int64) + (q0 &&& (2305843009213693951 : Int64))) + (q1 &&& (2305843009213693951 : Int64))) + (q2 &&& (2305843009213693951 : Int64)))) (FP.l2d (3 : Int64))) (FP.ddiv (FP.l2d (((q0 &&& (2305843009213693951 : Int64)) + (q1 &&& (2305843009213693951 : Int64))) + (q2 &&& (2305843009213693951 : Int64)))) (FP.i2d (3 : Int32)))) .l))])) _
        refine XS.ifNo X327.here hx rfl (hb hby at_217) rfl ((if0 _ _).trans (teq (dcmpV_eq (own_e3 _ _ _) (own_nn _ (by decide)) .l : (cmpValue (FP.dcmp (FP.ddiv (FP.l2d ((((0 : Int64) + (q0 &&& (2305843009213693951 : Int64))) + (q1 &&& (2305843009213693951 : Int64))) + (q2 &&& (2305843009213693951 : Int64)))) (FP.l2d (3 : Int64))) (FP.ddiv (FP.l2d (((q0 &&& (2305843009213693951 : Int64)) + (q1 &&& (2305843009213693951 : Int64))) + (q2 &&& (2305843009213693951 : Int64)))) (FP.i2d (3 : Int32)))) .l) = (0 : Int32))).2) ?_
        show Steps p.tables e below (T327.setTop (mkF m 220 _ [])) _
        refine XS.dload X327.here hx rfl (hb hby at_220) rfl ?_
        show Steps p.tables e below (T327.setTop (mkF m 222 _ [(.double (FP.ddiv (FP.l2d ((((0 : Int64) + (q0 &&& (2305843009213693951 : Int64))) + (q1 &&& (2305843009213693951 : Int64))) + (q2 &&& (2305843009213693951 : Int64)))) (FP.l2d (3 : Int64))))])) _
        refine XS.dconst0 X327.here hx rfl (hb hby at_222) rfl ?_
        show Steps p.tables e below (T327.setTop (mkF m 223 _ [(.double FP.dconst0), (.double (FP.ddiv (FP.l2d ((((0 : Int64) + (q0 &&& (2305843009213693951 : Int64))) + (q1 &&& (2305843009213693951 : Int64))) + (q2 &&& (2305843009213693951 : Int64)))) (FP.l2d (3 : Int64))))])) _
        refine XS.dcmpS X327.here hx rfl (hb hby at_223) rfl rfl ?_
        show Steps p.tables e below (T327.setTop (mkF m 224 _ [(.int (cmpValue (FP.dcmp (FP.ddiv (FP.l2d ((((0 : Int64) + (q0 &&& (2305843009213693951 : Int64))) + (q1 &&& (2305843009213693951 : Int64))) + (q2 &&& (2305843009213693951 : Int64)))) (FP.l2d (3 : Int64))) FP.dconst0) .l))])) _
        refine XS.ifNo X327.here hx rfl (hb hby at_224) rfl ((if0 _ _).trans (flt (own_ge0 (own_p3 _ _ _) (by decide) : ¬ ((cmpValue (FP.dcmp (FP.ddiv (FP.l2d ((((0 : Int64) + (q0 &&& (2305843009213693951 : Int64))) + (q1 &&& (2305843009213693951 : Int64))) + (q2 &&& (2305843009213693951 : Int64)))) (FP.l2d (3 : Int64))) FP.dconst0) .l) < (0 : Int32)))).1) ?_
        show Steps p.tables e below (T327.setTop (mkF m 227 _ [])) _
        refine XS.iconst X327.here hx rfl (hb hby at_227) ?_
        show Steps p.tables e below (T327.setTop (mkF m 228 _ [(.int (1 : Int32))])) _
        refine XS.goto X327.here hx rfl (pc0 := 228) (pc' := 232) rfl (hb hby at_228) (by decide) (by decide) ?_
        exact ht
      exact OFin.retB X327 hx hlk (t := .boolean) (by simp) hret (hb hby at_232) (by decide) (by decide) (by rw [hs327]; exact ⟨rfl, N329⟩)
set_option maxRecDepth 65536 in
set_option maxHeartbeats 40000000 in
theorem comes_1 {Post : Tables → Env → Array Value → State → Outcome → State → Prop} (hpost : ∀ tb e args s v u, (limb_1_1.after args s (.returned v) u = true ∧ limb_1_2.after args s (.returned v) u = true ∧ True) → FrameEnd s (.returned v) u (Jvm.fieldLocs frame_1_writes args s ++ Jvm.arrayLocs frame_1_arrays args s ++ Jvm.staticLocs frame_1_statics s) 16 128 → Post tb e args s (.returned v) u) :
    ArmFor flags0 classFile x code maxLocals ret World_1 tables_1 room_1 Calls_1 rest_1 Pre_1 Post := by
  intro l hfl _ _ p e ha hc hk s m args below hf hA hF happ hP
  obtain ⟨hcalls, hrest, hpre⟩ := hP
  obtain ⟨-, -, -, hnamed, -, -, -, hat⟩ := (Spec.applies_iff hf).mp happ
  obtain ⟨hg, hn⟩ := and_e (Cond.before_iff.mp (show (Jvm.Cond.and given_1 narrow_1).before args s = true from hpre))
  obtain ⟨gg0, hg0⟩ := and_e hg
  obtain ⟨gg1, hg1⟩ := and_e hg0
  obtain ⟨gg2, hg2⟩ := and_e hg1
  obtain ⟨gg3, hg3⟩ := and_e hg2
  obtain ⟨gg4, hg4⟩ := and_e hg3
  obtain ⟨w0, w1, w2, w3, w4, rfl⟩ : ∃ w0 w1 w2 w3 w4 : Value, args = #[w0, w1, w2, w3, w4] := by
    have hs : args.size = 5 := by simpa [Cond.value, given_1] using gg0
    obtain ⟨L⟩ := args
    match L, hs with
    | [w0, w1, w2, w3, w4], _ => exact ⟨w0, w1, w2, w3, w4, rfl⟩
  have hw := fun d (hd : d ∈ tables_1) => atoms_spec (ws := Jvm.Cond.code x code maxLocals ret :: tables_1) hat d (List.mem_cons_of_mem _ hd)
  have hfit : Fit s := fun {y c} hc i hi => by
    obtain ⟨ha, rfl⟩ := Array.getElem?_eq_some_iff.mp hc
    have q := List.all_eq_true.mp ((Array.all_eq_true_iff_forall_mem.mp hF) _ (Array.getElem_mem ha)) i (List.mem_range.mpr hi)
    simpa [Array.getElem?_eq_getElem hi] using q
  obtain ⟨i0, ei0⟩ := isL_v gg1
  obtain rfl : w0 = (.long i0) := Option.some.inj ei0
  obtain ⟨i1, ei1⟩ := isL_v gg2
  obtain rfl : w1 = (.long i1) := Option.some.inj ei1
  obtain ⟨i2, ei2⟩ := isL_v gg3
  obtain rfl : w2 = (.long i2) := Option.some.inj ei2
  obtain ⟨i3, ei3⟩ := isL_v gg4
  obtain rfl : w3 = (.long i3) := Option.some.inj ei3
  obtain ⟨i4, ei4⟩ := is_v hg4
  obtain rfl : w4 = (.int i4) := Option.some.inj ei4

  obtain ⟨n, o, h1, h2, h3, _, L, rfl, ⟨rfl, N⟩, hq⟩ := rm0 l s _ hw tables_1 i0 i1 i2 i3 i4  s.heap s.heap.size (Nat.le_refl _)  p e ha hc hk s m _ below hf ((Spec.applies_iff_loose hf).mp happ).1 ⟨rfl, State.Warmed39.refl s, rfl⟩ trivial
  refine ⟨n, _, h1, h2, h3, hpost _ _ _ _ _ _ ⟨Cond.after_iff.mpr rfl, Cond.after_iff.mpr (eq_i res_at (Term.int_eval (1)) rfl), trivial⟩ ⟨hq.1, hq.2.1, (hq.2.2.sift fun y hy => Or.inr (N y hy)).mono (by decide) (by decide)⟩⟩
theorem main_1_1 : Claimed_1_1 := comes_1 fun _ _ _ _ _ _ h hF => ⟨h.1, hF⟩
theorem main_1_2 : Claimed_1_2 := comes_1 fun _ _ _ _ _ _ h hF => ⟨h.2.1, hF⟩
end Jvm.Pilot.@@N@@
namespace Jvm.Pilot.@@N@@
open Jvm Jvm.ClassFile Sem Op Lib Jvm.Free Jvm.Stand Jvm.Pilot.@@N@@.Jvm.D
/-! MADE BY PROGRAM (witnessworld.py) out of the Statement's table words and the real class files: 9 classes; the members and pool entries that the words name. The judged class is class 1, her method 1. -/
namespace start1
open Jvm.ClassFile
def u (s : String) : CpInfo := .utf8 (stringToUtf16 s)
/-- a pool by its gaps: so many unusable entries, then the entry; so many at the end -/
def gap : Nat → List CpInfo → List CpInfo
  | 0, r => r
  | n + 1, r => .unusable :: gap n r
def poolList (es : List (Nat × CpInfo)) (last : Nat) : List CpInfo := es.foldr (fun e r => gap e.1 (e.2 :: r)) (gap last [])
def pool (es : List (Nat × CpInfo)) (last : Nat) : Array CpInfo := ⟨poolList es last⟩
def fileOf (pool : Array CpInfo) (this : Nat) (attrs : Array Attribute := #[]) (ms : Array MethodInfo := #[]) (fl : Nat := 33) (sup : Nat := 0) (ifs : Array Nat := #[]) (fds : Array FieldInfo := #[]) : ClassFile where
  minorVersion := 0
  majorVersion := 65
  constantPool := pool
  accessFlags := fl
  thisClass := this
  superClass := sup
  interfaces := ifs
  fields := fds
  methods := ms
  attributes := attrs
def plain (name : String) (sup : Option ClassId) : Class where
  name := name
  kind := .ordinary
  loader := none
  accessFlags := 33
  super := sup
  interfaces := #[]
  cf := none
  fields := #[]
  methods := #[]
  instanceTypes := #[]
  staticTypes := #[]
  resolved := #[]
  callSites := []
  init := .initialized
  statics := none
  mirror := none

def pool0 : Array CpInfo := pool [(5, u "<init>"), (0, u "()V"), (1, .class_ 10), (1, u "java/lang/Object")] 113

def k0c0 : Code := { maxStack := 0, maxLocals := 1, code := object_method_1_code, exceptionTable := #[], attributes := #[] }
def k0m0 : Method := { name := "<init>", desc := "()V", sig := { parameters := [], returnType := none }, accessFlags := 1, code := some k0c0 }
/-- java/lang/Object -/
def k0 : Class := { plain "java/lang/Object" none with
  accessFlags := 33
  interfaces := #[]
  cf := some (fileOf pool0 8 #[] #[{ accessFlags := 1, nameIndex := 5, descriptorIndex := 6, attributes := #[] }] 33 0 #[] #[])
  fields := #[]
  methods := #[k0m0]
  instanceTypes := #[]
  staticTypes := #[]
  resolved := Array.replicate 124 none
  statics := none }

def pool1 : Array CpInfo := pool [(2, .class_ 4), (0, .nameAndType 5 6), (0, u "java/lang/Object"), (0, u "<init>"), (0, u "()V"), (0, .class_ 8), (0, u "com/example/kindred_mesh/kindredmesh/peer/SearchTimeServedPinLaw"), (0, .long 2305843009213693951), (1, .class_ 12), (0, u "com/example/kindred_mesh/kindredmesh/peer/SearchTime"), (0, .methodref 11 3), (0, .methodref 11 15), (0, .nameAndType 16 17), (0, u "served"), (0, u "(J)V"), (0, .methodref 11 19), (0, .nameAndType 20 6), (0, u "newPeriod"), (0, .methodref 11 22), (0, .nameAndType 23 24), (0, u "lastMean"), (0, u "()D"), (0, u "M"), (0, u "J"), (3, u "law"), (0, u "(JJJJI)Z")] 3

def k1m0 : Method := { name := "<init>", desc := "()V", sig := { parameters := [], returnType := none }, accessFlags := 1, code := none }
def k1c1 : Code := { maxStack := 4, maxLocals := 27, code := code, exceptionTable := #[], attributes := #[] }
def k1m1 : Method := { name := "law", desc := "(JJJJI)Z", sig := { parameters := [.long, .long, .long, .long, .int], returnType := some .boolean }, accessFlags := 9, code := some k1c1 }
/-- com/example/kindred_mesh/kindredmesh/peer/SearchTimeServedPinLaw -/
def k1 : Class := { plain "com/example/kindred_mesh/kindredmesh/peer/SearchTimeServedPinLaw" (some 0) with
  accessFlags := 49
  interfaces := #[]
  cf := some (fileOf pool1 7 #[] #[{ accessFlags := 1, nameIndex := 5, descriptorIndex := 6, attributes := #[] }, { accessFlags := 9, nameIndex := 30, descriptorIndex := 31, attributes := #[] }] 49 2 #[] #[{ accessFlags := 26, nameIndex := 25, descriptorIndex := 26, attributes := #[] }])
  fields := #[{ name := "M", type := .long, accessFlags := 26, slot := 0, constantValue := 0 }]
  methods := #[k1m0, k1m1]
  instanceTypes := #[]
  staticTypes := #[.long]
  resolved := Array.replicate 35 none
  statics := none }

def pool2 : Array CpInfo := pool [(1, .methodref 2 3), (0, .class_ 4), (0, .nameAndType 5 6), (0, u "java/lang/Object"), (0, u "<init>"), (0, u "()V"), (0, .fieldref 8 9), (0, .class_ 10), (0, .nameAndType 11 12), (0, u "com/example/kindred_mesh/kindredmesh/peer/SearchTime"), (0, u "served"), (0, u "J"), (0, .fieldref 8 14), (0, .nameAndType 15 12), (0, u "total"), (0, .fieldref 8 17), (0, .nameAndType 18 19), (0, u "lastMean"), (0, u "D"), (2, u "(J)V"), (0, u "newPeriod"), (2, u "()D")] 2

def k2c0 : Code := { maxStack := 1, maxLocals := 1, code := prog_71_method_1_code, exceptionTable := #[], attributes := #[] }
def k2m0 : Method := { name := "<init>", desc := "()V", sig := { parameters := [], returnType := none }, accessFlags := 1, code := some k2c0 }
def k2c1 : Code := { maxStack := 5, maxLocals := 3, code := prog_71_method_2_code, exceptionTable := #[], attributes := #[] }
def k2m1 : Method := { name := "served", desc := "(J)V", sig := { parameters := [.long], returnType := none }, accessFlags := 1, code := some k2c1 }
def k2c2 : Code := { maxStack := 5, maxLocals := 1, code := prog_71_method_3_code, exceptionTable := #[], attributes := #[] }
def k2m2 : Method := { name := "newPeriod", desc := "()V", sig := { parameters := [], returnType := none }, accessFlags := 1, code := some k2c2 }
def k2c3 : Code := { maxStack := 2, maxLocals := 1, code := prog_71_method_5_code, exceptionTable := #[], attributes := #[] }
def k2m3 : Method := { name := "lastMean", desc := "()D", sig := { parameters := [], returnType := some .double }, accessFlags := 1, code := some k2c3 }
/-- com/example/kindred_mesh/kindredmesh/peer/SearchTime -/
def k2 : Class := { plain "com/example/kindred_mesh/kindredmesh/peer/SearchTime" (some 0) with
  accessFlags := 33
  interfaces := #[]
  cf := some (fileOf pool2 8 #[] #[{ accessFlags := 1, nameIndex := 5, descriptorIndex := 6, attributes := #[] }, { accessFlags := 1, nameIndex := 11, descriptorIndex := 22, attributes := #[] }, { accessFlags := 1, nameIndex := 23, descriptorIndex := 6, attributes := #[] }, { accessFlags := 1, nameIndex := 18, descriptorIndex := 26, attributes := #[] }] 33 2 #[] #[{ accessFlags := 2, nameIndex := 11, descriptorIndex := 12, attributes := #[] }, { accessFlags := 2, nameIndex := 15, descriptorIndex := 12, attributes := #[] }, { accessFlags := 2, nameIndex := 18, descriptorIndex := 19, attributes := #[] }])
  fields := #[{ name := "served", type := .long, accessFlags := 2, slot := 0, constantValue := 0 }, { name := "total", type := .long, accessFlags := 2, slot := 1, constantValue := 0 }, { name := "lastMean", type := .double, accessFlags := 2, slot := 2, constantValue := 0 }]
  methods := #[k2m0, k2m1, k2m2, k2m3]
  instanceTypes := #[.long, .long, .double]
  staticTypes := #[]
  resolved := Array.replicate 29 none
  statics := none }

def pool3 : Array CpInfo := pool [(1, u "java/lang/Cloneable"), (0, .class_ 1), (0, u "java/lang/Object"), (0, .class_ 3)] 3

/-- java/lang/Cloneable -/
def k3 : Class := { plain "java/lang/Cloneable" (some 0) with
  accessFlags := 1537
  interfaces := #[]
  cf := some (fileOf pool3 2 #[] #[] 1537 4 #[] #[])
  fields := #[]
  methods := #[]
  instanceTypes := #[]
  staticTypes := #[]
  resolved := Array.replicate 8 none
  statics := none }

def pool4 : Array CpInfo := pool [(1, u "java/io/Serializable"), (0, .class_ 1), (0, u "java/lang/Object"), (0, .class_ 3)] 3

/-- java/io/Serializable -/
def k4 : Class := { plain "java/io/Serializable" (some 0) with
  accessFlags := 1537
  interfaces := #[]
  cf := some (fileOf pool4 2 #[] #[] 1537 4 #[] #[])
  fields := #[]
  methods := #[]
  instanceTypes := #[]
  staticTypes := #[]
  resolved := Array.replicate 8 none
  statics := none }

/-- the primitive byte -/
def k5 : Class := { plain "byte" none with kind := .primitive 'B', accessFlags := 0x411 }
/-- [B -/
def k6 : Class := { plain "[B" (some 0) with kind := .array 5 .byte, interfaces := #[3, 4], accessFlags := 1041 }

/-- the primitive int -/
def k7 : Class := { plain "int" none with kind := .primitive 'I', accessFlags := 0x411 }
/-- [I -/
def k8 : Class := { plain "[I" (some 0) with kind := .array 7 .int, interfaces := #[3, 4], accessFlags := 1041 }

def heap : Heap := #[]
def classes : Array Class := #[k0, k1, k2, k3, k4, k5, k6, k7, k8]
def interned : List (Array UInt16 × Addr) := []
def slotsUsed : Nat := 0
def theMethod : MethodId := ⟨1, 1⟩
def args0 : Array Value := #[.long 5, .long 5, .long 5, .long 5, .int 5]
def aboutOver (below : List Frame) : State where
  vm := { classes := classes, interned := interned.toArray }
  heap := heap
  slotsUsed := slotsUsed
  threads := #[{ frames := .invoking theMethod args0 :: below }]
def below0 : List Frame := [.native { method := ⟨0, 0⟩, args := #[] }]
def about1 : State := aboutOver below0
def p0 : Program := .bare "" "" ""
def e0 : Env := launch0.env 0 0 0
theorem w_frames : about1.frames = Frame.invoking theMethod args0 :: below0 := rfl
set_option maxRecDepth 65536 in
theorem w_args : argsFit about1.vm theMethod args0 = true := by decide +kernel
set_option maxRecDepth 65536 in
theorem w_heap : heapFits about1 = true := by decide +kernel
set_option maxRecDepth 65536 in
theorem w_runnable : about1.curStatus? = some .runnable := by decide +kernel
set_option maxRecDepth 65536 in
theorem w_alone : about1.alone = true := by decide +kernel
set_option maxRecDepth 65536 in
theorem w_named : about1.methodNamed? x = some theMethod := by decide +kernel
set_option maxRecDepth 65536 in
theorem w_hears : about1.hears theMethod below0 = true := by decide +kernel
set_option maxRecDepth 65536 in
theorem w_ripe : about1.ripe theMethod args0 below0 = true := by decide +kernel
theorem w_running : about1.status = .running := rfl
set_option maxRecDepth 65536 in
theorem w_room : about1.hasRoom e0.platform room_1 = true :=
  launch0.hasRoom_least _ room_1 (by decide +kernel) (by decide +kernel) (by decide +kernel) (by decide +kernel) (by decide +kernel) (by decide +kernel)
theorem allAtoms_all (ts : List Jvm.Cond) (a : Array Jvm.Value) (st : Jvm.State) : (allAtoms ts).before a st = ts.all (fun c => c.before a st) := by
  induction ts with
  | nil => rfl
  | cons c t ih =>
    show (Jvm.Cond.and c (allAtoms t)).before a st = _
    rw [Jvm.Cond.before_and, ih, List.all_cons]
def words1 : List Jvm.Cond := Jvm.Cond.code x code maxLocals ret :: tables_1
/-- a 'code' word, met by the world's own term for the bytes: nothing is compared byte by byte -/
theorem code_word {y : MethodName} {bytes : ByteArray} {mx : Nat} {rt : Option FieldType} {a : Array Value} {s : State} {m : MethodId} {meth : Method} {c : Code} (h1 : s.methodNamed? y = some m) (h2 : s.vm.method? m = some meth) (h3 : meth.code = some c) (h4 : c.code = bytes)
    (h5 : (c.maxLocals == mx && c.exceptionTable.isEmpty && decide (c.maxStack ≤ mostOperands) && decide (meth.sig.returnType = rt) && !meth.locks && decide (parseMethodDescriptor y.desc = some meth.sig)) = true) : (Jvm.Cond.code y bytes mx rt).before a s = true := by
  simp only [Bool.and_eq_true, beq_iff_eq, Bool.not_eq_true', decide_eq_true_eq] at h5
  obtain ⟨⟨⟨⟨⟨g1, g2⟩, g3⟩, g4⟩, g5⟩, g6⟩ := h5
  simp [Cond.before, Cond.holds, Cond.value, h1, h2, h3, h4, g1, g2, g3, g4, g5, g6]
def isCode : Jvm.Cond → Bool
  | .code _ _ _ _ => true
  | _ => false
theorem all_split {L : List Jvm.Cond} {P : Jvm.Cond → Bool} (h1 : L.all (fun c => isCode c || P c) = true) (h2 : ∀ c ∈ L.filter isCode, P c = true) : L.all P = true := by
  refine List.all_eq_true.mpr fun c hc => ?_
  have h := List.all_eq_true.mp h1 c hc
  rcases Bool.eq_false_or_eq_true (isCode c) with hi | hi
  · exact h2 c (List.mem_filter.mpr ⟨hc, hi⟩)
  · simpa [hi] using h
set_option maxRecDepth 65536 in
theorem w_c0 : (Jvm.Cond.code x code maxLocals ret).before args0 about1 = true := code_word (m := ⟨1, 1⟩) (meth := k1m1) (c := k1c1) (by decide +kernel) rfl rfl rfl (by decide +kernel)
set_option maxRecDepth 65536 in
theorem w_c1 : (Jvm.Cond.code ({ cls := "com/example/kindred_mesh/kindredmesh/peer/SearchTime", name := "<init>", desc := "()V" } : Jvm.MethodName) prog_71_method_1_code (1 : Nat) (Option.none : Option Jvm.ClassFile.FieldType)).before args0 about1 = true := code_word (m := ⟨2, 0⟩) (meth := k2m0) (c := k2c0) (by decide +kernel) rfl rfl rfl (by decide +kernel)
set_option maxRecDepth 65536 in
theorem w_c2 : (Jvm.Cond.code ({ cls := "java/lang/Object", name := "<init>", desc := "()V" } : Jvm.MethodName) object_method_1_code (1 : Nat) (Option.none : Option Jvm.ClassFile.FieldType)).before args0 about1 = true := code_word (m := ⟨0, 0⟩) (meth := k0m0) (c := k0c0) (by decide +kernel) rfl rfl rfl (by decide +kernel)
set_option maxRecDepth 65536 in
theorem w_c3 : (Jvm.Cond.code ({ cls := "com/example/kindred_mesh/kindredmesh/peer/SearchTime", name := "served", desc := "(J)V" } : Jvm.MethodName) prog_71_method_2_code (3 : Nat) (Option.none : Option Jvm.ClassFile.FieldType)).before args0 about1 = true := code_word (m := ⟨2, 1⟩) (meth := k2m1) (c := k2c1) (by decide +kernel) rfl rfl rfl (by decide +kernel)
set_option maxRecDepth 65536 in
theorem w_c4 : (Jvm.Cond.code ({ cls := "com/example/kindred_mesh/kindredmesh/peer/SearchTime", name := "newPeriod", desc := "()V" } : Jvm.MethodName) prog_71_method_3_code (1 : Nat) (Option.none : Option Jvm.ClassFile.FieldType)).before args0 about1 = true := code_word (m := ⟨2, 2⟩) (meth := k2m2) (c := k2c2) (by decide +kernel) rfl rfl rfl (by decide +kernel)
set_option maxRecDepth 65536 in
theorem w_c5 : (Jvm.Cond.code ({ cls := "com/example/kindred_mesh/kindredmesh/peer/SearchTime", name := "lastMean", desc := "()D" } : Jvm.MethodName) prog_71_method_5_code (1 : Nat) (Option.some Jvm.ClassFile.FieldType.double)).before args0 about1 = true := code_word (m := ⟨2, 3⟩) (meth := k2m3) (c := k2c3) (by decide +kernel) rfl rfl rfl (by decide +kernel)
def codes1 : List Jvm.Cond := [Jvm.Cond.code x code maxLocals ret, Jvm.Cond.code ({ cls := "com/example/kindred_mesh/kindredmesh/peer/SearchTime", name := "<init>", desc := "()V" } : Jvm.MethodName) prog_71_method_1_code (1 : Nat) (Option.none : Option Jvm.ClassFile.FieldType), Jvm.Cond.code ({ cls := "java/lang/Object", name := "<init>", desc := "()V" } : Jvm.MethodName) object_method_1_code (1 : Nat) (Option.none : Option Jvm.ClassFile.FieldType), Jvm.Cond.code ({ cls := "com/example/kindred_mesh/kindredmesh/peer/SearchTime", name := "served", desc := "(J)V" } : Jvm.MethodName) prog_71_method_2_code (3 : Nat) (Option.none : Option Jvm.ClassFile.FieldType), Jvm.Cond.code ({ cls := "com/example/kindred_mesh/kindredmesh/peer/SearchTime", name := "newPeriod", desc := "()V" } : Jvm.MethodName) prog_71_method_3_code (1 : Nat) (Option.none : Option Jvm.ClassFile.FieldType), Jvm.Cond.code ({ cls := "com/example/kindred_mesh/kindredmesh/peer/SearchTime", name := "lastMean", desc := "()D" } : Jvm.MethodName) prog_71_method_5_code (1 : Nat) (Option.some Jvm.ClassFile.FieldType.double)]
set_option maxRecDepth 65536 in
theorem codes_eq : words1.filter isCode = codes1 := rfl
theorem w_codes : ∀ c ∈ words1.filter isCode, c.before args0 about1 = true := by
  rw [codes_eq]
  intro c hc
  simp only [codes1, List.mem_cons, List.not_mem_nil, or_false] at hc
  rcases hc with rfl | rfl | rfl | rfl | rfl | rfl
  · exact w_c0
  · exact w_c1
  · exact w_c2
  · exact w_c3
  · exact w_c4
  · exact w_c5
set_option maxRecDepth 65536 in
theorem w_t1 : (words1.take 24).all (fun c => isCode c || c.before args0 about1) = true := by decide +kernel
set_option maxRecDepth 65536 in
theorem w_t2 : (words1.drop 24).all (fun c => isCode c || c.before args0 about1) = true := by decide +kernel
theorem w_tables : (allAtoms (Jvm.Cond.code x code maxLocals ret :: tables_1)).before args0 about1 = true := by
  rw [allAtoms_all]
  show words1.all (fun c => c.before args0 about1) = true
  refine all_split ?_ w_codes
  rw [← List.take_append_drop 24 words1, List.all_append, w_t1, w_t2]
  rfl
set_option maxRecDepth 65536 in
theorem w_case : (Jvm.Cond.and given_1 narrow_1).before args0 about1 = true := by decide +kernel
theorem w_applies : (headSpec (Jvm.Cond.code x code maxLocals ret :: tables_1) room_1).applies x e0.platform about1 = true :=
  (Spec.applies_iff w_frames).mpr ⟨w_running, w_runnable, w_alone, w_named, w_hears, w_ripe, w_room, w_tables⟩
theorem atStart : AtStart classFile x code maxLocals ret World_1 tables_1 room_1 Calls_1 rest_1 Pre_1 launch0 p0 e0 about1 theMethod args0 below0 :=
  ⟨lists_1, trivial, launch0.admits_env _ _ _, launch0.least_env, fairChoices_fair.cas, fairChoices_fair.clock, w_frames, w_args, w_heap, w_applies, trivial, trivial, w_case⟩
end start1
theorem witness_1 : WitnessClaimed_1 := ⟨start1.p0, start1.e0, start1.about1, start1.theMethod, start1.args0, start1.below0, start1.atStart⟩
end Jvm.Pilot.@@N@@
