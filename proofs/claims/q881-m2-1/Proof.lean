import JvmDerived
import JvmDerived.Pilot.@@N@@Statement
import JvmDerived.Pilot.@@N@@Code
set_option linter.unusedVariables false
set_option linter.unusedSimpArgs false
namespace Jvm.RoadKit
open Sem ClassFile Op Lib Jvm.Stand Jvm.Free Jvm.LawKit
section OwnNew
variable {p : Program} {l : Launch} {e : Env} {R : Room} {s : State} {m : MethodId} {args : Array Value} {below : List Frame} {meth : Method} {c : Code} {T : State} {locs : List Loc} {cells slots : Nat}
theorem retI (X : Stand p l e R s m args below meth c T locs cells slots) (hx : p.tables.exec = Jvm.exec) {pc : Nat} {Ls : Array Slot} {z : Int32} {rest : List Value} (hret : meth.sig.returnType = some .int) (hd : decode c.code pc = .ok (.ireturn, 1)) {fs : List Frame}
    (hl : ∀ (f : JFrame) (acts : List Action), f.method = m → f.locked = none → f.entered = [] → (doReturn e (T.setTop f) acts (some (.int z))).1 = T.setFrames fs) : Steps p.tables e below (T.setTop (mkF m pc Ls (.int z :: rest))) (T.setFrames fs) := by
  have hm' : T.vm.method? m = some meth := X.method'
  have hn : narrow .int (.int z) = .int z := rfl
  show Steps p.tables e below (T.setTop { method := m, pc := pc, locals := Ls, stack := _ :: rest, locked := none }) _
  jvm_step X.here [X.here.top, hx, hd, hm', hret, hn]
  first | (intro acts; rw [hl _ acts rfl rfl rfl]) | rw [hl _ _ rfl rfl rfl]
  exact Steps.refl _
/-- from S the run comes to an end of this invocation at which K holds -/
def OFin (p : Program) (e : Env) (below : List Frame) (K : Outcome → State → Prop) (S : State) : Prop := ∃ s₂ o, Steps p.tables e below S s₂ ∧ s₂.status = .running ∧ Ended s₂ below o ∧ K o s₂
theorem OFin.of {K : Outcome → State → Prop} {S S' : State} (h : ∀ t, Steps p.tables e below S' t → Steps p.tables e below S t) (k : OFin p e below K S') : OFin p e below K S := by
  obtain ⟨t, o, a, b⟩ := k; exact ⟨t, o, h t a, b⟩
theorem OFin.to {K : Outcome → State → Prop} {S S' : State} (h : Steps p.tables e below S S') (k : OFin p e below K S') : OFin p e below K S := by
  obtain ⟨t, o, a, b⟩ := k; exact ⟨t, o, h.trans a, b⟩
abbrev KPost (s : State) (Q : Option Value → Heap → List Loc → Prop) (C D : Nat) : Outcome → State → Prop := fun o U' => ∃ v L, o = .returned v ∧ Q v U'.heap L ∧ FrameEnd s o U' L C D
theorem OFin.retI (X : Stand p l e R s m args below meth c T locs cells slots) (hx : p.tables.exec = Jvm.exec) (hlk : meth.locks = false) {pc : Nat} {Ls : Array Slot} {z : Int32} {rest : List Value} {Q : Option Value → Heap → List Loc → Prop} {C D : Nat} (hret : meth.sig.returnType = some .int) (hd : decode c.code pc = .ok (.ireturn, 1)) (hC : cells ≤ C) (hD : slots ≤ D) (hQ : Q (some (.int z)) T.heap locs) :
    OFin p e below (KPost s Q C D) (T.setTop (mkF m pc Ls (.int z :: rest))) := by
  obtain ⟨fs, hr, hrun, hended, hW, hsame⟩ := X.leave (v := some (.int z)) (fun h => by rw [hret] at h; cases h) hlk
  exact ⟨_, _, Jvm.RoadKit.retI X hx hret hd hr, hrun, hended, _, _, rfl, hQ, ⟨_, rfl⟩, hW, hsame.mono hC hD⟩
theorem OFin.retB (X : Stand p l e R s m args below meth c T locs cells slots) (hx : p.tables.exec = Jvm.exec) (hlk : meth.locks = false) {pc : Nat} {Ls : Array Slot} {z : Int32} {rest : List Value} {Q : Option Value → Heap → List Loc → Prop} {C D : Nat} {t : FieldType} (ht : t = .boolean ∨ t = .byte ∨ t = .char ∨ t = .short) (hret : meth.sig.returnType = some t) (hd : decode c.code pc = .ok (.ireturn, 1)) (hC : cells ≤ C) (hD : slots ≤ D) (hQ : Q (some (.int (nar t z))) T.heap locs) :
    OFin p e below (KPost s Q C D) (T.setTop (mkF m pc Ls (.int z :: rest))) := by
  obtain ⟨fs, hr, hrun, hended, hW, hsame⟩ := X.leave (v := some (.int (nar t z))) (fun h => by rw [hret] at h; cases h) hlk
  exact ⟨_, _, retN X hx hret ht hd hr, hrun, hended, _, _, rfl, hQ, ⟨_, rfl⟩, hW, hsame.mono hC hD⟩
theorem OFin.retJ (X : Stand p l e R s m args below meth c T locs cells slots) (hx : p.tables.exec = Jvm.exec) (hlk : meth.locks = false) {pc : Nat} {Ls : Array Slot} {z : Int64} {Q : Option Value → Heap → List Loc → Prop} {C D : Nat} (hret : meth.sig.returnType = some .long) (hd : decode c.code pc = .ok (.lreturn, 1)) (hC : cells ≤ C) (hD : slots ≤ D) (hQ : Q (some (.long z)) T.heap locs) :
    OFin p e below (KPost s Q C D) (T.setTop (mkF m pc Ls [.long z])) := by
  obtain ⟨fs, hr, hrun, hended, hW, hsame⟩ := X.leave (v := some (.long z)) (fun h => by rw [hret] at h; cases h) hlk
  exact ⟨_, _, X.lreturnOut hx hret hd hr, hrun, hended, _, _, rfl, hQ, ⟨_, rfl⟩, hW, hsame.mono hC hD⟩
theorem OFin.retA (X : Stand p l e R s m args below meth c T locs cells slots) (hx : p.tables.exec = Jvm.exec) (hlk : meth.locks = false) {pc : Nat} {Ls : Array Slot} {z : Value} {Q : Option Value → Heap → List Loc → Prop} {C D : Nat} {t : FieldType} (ht : t.isReference = true) (hz : z.isRef = true) (hret : meth.sig.returnType = some t) (hd : decode c.code pc = .ok (.areturn, 1)) (hC : cells ≤ C) (hD : slots ≤ D) (hQ : Q (some z) T.heap locs) :
    OFin p e below (KPost s Q C D) (T.setTop (mkF m pc Ls [z])) := by
  obtain ⟨fs, hr, hrun, hended, hW, hsame⟩ := X.leave (v := some z) (fun h => by rw [hret] at h; cases h) hlk
  exact ⟨_, _, X.areturnOut hx hz hret ht hd hr, hrun, hended, _, _, rfl, hQ, ⟨_, rfl⟩, hW, hsame.mono hC hD⟩
theorem OFin.retD (X : Stand p l e R s m args below meth c T locs cells slots) (hx : p.tables.exec = Jvm.exec) (hlk : meth.locks = false) {pc : Nat} {Ls : Array Slot} {z : UInt64} {rest : List Value} {Q : Option Value → Heap → List Loc → Prop} {C D : Nat} (hret : meth.sig.returnType = some .double) (hd : decode c.code pc = .ok (.dreturn, 1)) (hC : cells ≤ C) (hD : slots ≤ D) (hQ : Q (some (.double z)) T.heap locs) :
    OFin p e below (KPost s Q C D) (T.setTop (mkF m pc Ls (.double z :: rest))) := by
  obtain ⟨fs, hr, hrun, hended, hW, hsame⟩ := X.leave (v := some (.double z)) (fun h => by rw [hret] at h; cases h) hlk
  exact ⟨_, _, retOut X hx hret rfl (Or.inr (Or.inr (Or.inl ⟨rfl, rfl, z, rfl⟩))) hd hr, hrun, hended, _, _, rfl, hQ, ⟨_, rfl⟩, hW, hsame.mono hC hD⟩
theorem OFin.retV (X : Stand p l e R s m args below meth c T locs cells slots) (hx : p.tables.exec = Jvm.exec) (hlk : meth.locks = false) {pc : Nat} {Ls : Array Slot} {Q : Option Value → Heap → List Loc → Prop} {C D : Nat} (hret : meth.sig.returnType = none) (hd : decode c.code pc = .ok (.return_, 1)) (hC : cells ≤ C) (hD : slots ≤ D) (hQ : Q none T.heap locs) :
    OFin p e below (KPost s Q C D) (T.setTop (mkF m pc Ls [])) := by
  obtain ⟨fs, hr, hrun, hended, hW, hsame⟩ := X.leave (v := none) (fun _ => rfl) hlk
  exact ⟨_, _, X.returnOut hx hret hd hr, hrun, hended, _, _, rfl, hQ, ⟨_, rfl⟩, hW, hsame.mono hC hD⟩
abbrev KPostW (s : State) (Q : Option Value → Heap → List Loc → Prop) (C D : Nat) : Outcome → State → Prop := fun o U' => ∃ v L, o = .returned v ∧ Q v U'.heap L ∧ ReturnedEndW s o U' L C D
theorem OFin.retBW {vm₁ : Vm} {k : Nat} (X : Stand p l e R (s.setVm vm₁) m args below meth c T locs cells slots) (hS : s.Since vm₁ k) (hk : k ≤ T.heap.size) (hx : p.tables.exec = Jvm.exec) (hlk : meth.locks = false) {pc : Nat} {Ls : Array Slot} {z : Int32} {rest : List Value} {Q : Option Value → Heap → List Loc → Prop} {C D : Nat} {t : FieldType} (ht : t = .boolean ∨ t = .byte ∨ t = .char ∨ t = .short) (hret : meth.sig.returnType = some t) (hd : decode c.code pc = .ok (.ireturn, 1)) (hC : cells ≤ C) (hD : slots ≤ D) (hQ : Q (some (.int (nar t z))) T.heap locs) :
    OFin p e below (KPostW s Q C D) (T.setTop (mkF m pc Ls (.int z :: rest))) := by
  obtain ⟨fs, hr, hrun, hended, h1, h2, h3, h4⟩ := X.leaveW hS hk (v := some (.int (nar t z))) (fun h => by rw [hret] at h; cases h) hlk
  exact ⟨_, _, retN X hx hret ht hd hr, hrun, hended, _, _, rfl, hQ, ⟨_, rfl⟩, h2, h3, h4.mono hC hD⟩
theorem own_alen {Z : State} {h : Heap} {a : Addr} {cl : Cell} {ty : FieldType} {z : Int32} {g : JFrame} {rest : List Value} {target : State} (X : Stand p l e R s m args below meth c T locs cells slots) (hx : p.tables.exec = Jvm.exec) (hZ : Z.Warmed39 s.vm) (eT : T.heap = h) (A : Arr Z h a cl ty) (S : cl.slots.size = z.toNatClampNeg) (q : ¬ z < 0) (hg : g.method = m) (hs : g.stack = .ref a :: rest) (hd : decode c.code g.pc = .ok (.arraylength, 1))
    (hr : Steps p.tables e below (T.setTop { g with pc := g.pc + 1, stack := .int z :: rest }) target) : Steps p.tables e below (T.setTop g) target := by
  refine X.arraylength hx (by rw [eT]; exact A.1) (State.isArrayOf_alike hZ.alike A.2.1) hg hs hd _ ?_
  rw [len_of S q]; exact hr
def OwnNoSta (h : Heap) (ws : List Addr) : Prop := ∀ x ∈ ws, ∀ cell : Cell, h[x]? = some cell → cell.vm.isStatics = false
theorem own_sn0 {h : Heap} : OwnNoSta h [] := fun _ q => nomatch q
theorem own_snS {Z : State} {h : Heap} {a : Addr} {C : String} {ws : List Addr} (E : Exa Z h a C) (r : OwnNoSta h ws) : OwnNoSta h (a :: ws) := fun x q cell hc => by
  rcases List.mem_cons.mp q with rfl | q
  · obtain ⟨c', _, h1, -, -, h4, -⟩ := E; cases h1.symm.trans hc; exact h4
  · exact r x q cell hc
theorem own_snV {Z : State} {h : Heap} {a : Addr} {k : ClassId} {ty : FieldType} {z : Int32} {vs : List Value} {dv : Value} {ws : List Addr} (F : Arv Z h a k ty z vs dv) (r : OwnNoSta h ws) : OwnNoSta h (a :: ws) := fun x q cell hc => by
  rcases List.mem_cons.mp q with rfl | q
  · obtain ⟨c', A, -⟩ := F; cases A.1.symm.trans hc; exact A.plain
  · exact r x q cell hc
theorem own_staKeep {Z : State} {h h' : Heap} {C n d : String} {v : Value} {ws : List Addr} (F : Sta Z h C n d v) (K : Keep h h' ws) (q : OwnNoSta h ws) : Sta Z h' C n d v := by
  obtain ⟨cf, i, k, f, st, cell, h1, h2, h3, h4, h5, h6, h7⟩ := F
  refine ⟨cf, i, k, f, st, cell, h1, h2, h3, h4, K.2.1 st cell h5 (fun z => ?_), h6, h7⟩
  have := q st z cell h5
  rw [this] at h6; cases h6
theorem own_pop2L {tb : Tables} [Ours tb] {e : Env} {below : List Frame} {T target : State} {m : MethodId} {c : Code} {g : JFrame} (h : At T m c below) (hx : tb.exec = Jvm.exec) (hg : g.method = m) {x : Int64} {rest : List Value} (hd : decode c.code g.pc = .ok (.pop2, 1)) (hs : g.stack = .long x :: rest)
    (hr : Steps tb e below (T.setTop { g with pc := g.pc + 1, stack := rest }) target) : Steps tb e below (T.setTop g) target := by
  subst hg
  jvm_step h [h.top, hx, hd, hs, Value.category]
  exact hr
def OwnMet (E : Int32) (h0 : Heap) (n0 : Nat) (v : Option Value) (h : Heap) (L : List Loc) : Prop := v = some (.int E) ∧ Fr n0 L ∧ h = h0
end OwnNew
end Jvm.RoadKit
namespace Jvm.Pilot.@@N@@
open Jvm Jvm.ClassFile Sem Op Lib Jvm.Free Jvm.Stand Jvm.LawKit Jvm.RoadKit Bundle Jvm.Pilot.@@N@@.Jvm.D
theorem pd_0 : parseMethodDescriptor "()D" = some ⟨[], some .double⟩ := by decide +kernel
theorem pd_1 : parseMethodDescriptor "(II)I" = some ⟨[.int, .int], some .int⟩ := by decide +kernel
theorem pd_2 : parseMethodDescriptor "(I)V" = some ⟨[.int], none⟩ := by decide +kernel
def own_min (x y : Int32) : Int32 := if y < x then y else x
def own_max (x y : Int32) : Int32 := if x < y then y else x
theorem own_and3 (x : Int32) : x &&& (3 : Int32) = (0 : Int32) ∨ x &&& (3 : Int32) = (1 : Int32) ∨ x &&& (3 : Int32) = (2 : Int32) ∨ x &&& (3 : Int32) = (3 : Int32) := by
  have h2 := c_mask x 3 2 (by decide) (by decide)
  generalize x &&& 3 = z at h2
  have h3 : z.toInt = 0 ∨ z.toInt = 1 ∨ z.toInt = 2 ∨ z.toInt = 3 := by omega
  have e : ∀ k : Int32, z.toInt = k.toInt → z = k := fun k => Int32.toInt_inj.mp
  rcases h3 with h | h | h | h
  · exact Or.inl (e _ h)
  · exact Or.inr (Or.inl (e _ h))
  · exact Or.inr (Or.inr (Or.inl (e _ h)))
  · exact Or.inr (Or.inr (Or.inr (e _ h)))
theorem own_minI (x y : Int32) : (own_min x y).toInt ≤ x.toInt ∧ (own_min x y).toInt ≤ y.toInt := by
  unfold own_min; split <;> rename_i h <;> rw [Int32.lt_iff_toInt_lt] at h <;> omega
theorem own_maxI (x y : Int32) : x.toInt ≤ (own_max x y).toInt ∧ y.toInt ≤ (own_max x y).toInt := by
  unfold own_max; split <;> rename_i h <;> rw [Int32.lt_iff_toInt_lt] at h <;> omega
section OwnPure
open Jvm.FP.Core
open Jvm.Free.Fl (NoNaN64 noNaN64_no)
theorem own_nz64 {w : Int64} (h : w ≠ 0) : ¬ DZero (FP.l2d w) := fun z => l2d_ne_zero h ((zero_bits2 _).mp z)
theorem own_nn (t : Int64) {w : Int64} (h : w ≠ 0) : NoNaN64 (FP.ddiv (FP.l2d t) (FP.l2d w)) := noNaN64_no.mpr (ddiv_out (l2d_notNaN t) (l2d_fin w) (own_nz64 h))
theorem own_nni (t : Int64) {w : Int32} (h : w.toInt64 ≠ 0) : NoNaN64 (FP.ddiv (FP.l2d t) (FP.i2d w)) := by rw [i2d_w]; exact own_nn t h
/-- the magnitude's bits below K * 2^52 -/
def OwnMag (K : Nat) (x : UInt64) : Prop := x.toNat % 2 ^ 63 < K * 2 ^ 52
theorem own_mono {K L : Nat} {x : UInt64} (h : OwnMag K x) (hl : K ≤ L) : OwnMag L x := Nat.lt_of_lt_of_le h (Nat.mul_le_mul_right _ hl)
theorem own_fin {K : Nat} {x : UInt64} (h : OwnMag K x) (hl : K ≤ 2047) : DFin x := fin_of_lt h hl
theorem own_meanMag (t : Int64) {w : Int64} (h : w ≠ 0) : OwnMag 1089 (FP.ddiv (FP.l2d t) (FP.l2d w)) := by
  have hb := l2d_big (int64_ne h)
  exact FP.Core.ddiv_mag (K := 1088) (L := 1023) (l2d_mag t) hb.1 hb.2 (by decide) (by decide)
theorem own_subMag (x : Int32) (t : Int64) {w : Int64} (h : w ≠ 0) : OwnMag 1091 (FP.dsub (FP.i2d x) (FP.ddiv (FP.l2d t) (FP.l2d w))) :=
  dsub_mag (K := 1089) (own_mono (K := 1056) (i2d_mag x) (by decide)) (own_meanMag t h) (by decide)
theorem own_n1 (x : Int32) (t : Int64) {w : Int64} (h : w ≠ 0) : NoNaN64 (FP.dsub (FP.i2d x) (FP.ddiv (FP.l2d t) (FP.l2d w))) := noNaN64_no.mpr (own_fin (own_subMag x t h) (by decide)).notNaN
theorem own_mulMag (x : Int32) (t t' : Int64) {w w' : Int64} (h : w ≠ 0) (h' : w' ≠ 0) : OwnMag 1160 (FP.dmul (FP.dsub (FP.i2d x) (FP.ddiv (FP.l2d t) (FP.l2d w))) (FP.dsub (FP.i2d x) (FP.ddiv (FP.l2d t') (FP.l2d w')))) :=
  dmul_mag (Ka := 1091) (Kb := 1091) (own_subMag x t h) (own_subMag x t' h') (by decide) (by decide)
theorem own_n2 (x : Int32) (t t' : Int64) {w w' : Int64} (h : w ≠ 0) (h' : w' ≠ 0) : NoNaN64 (FP.dmul (FP.dsub (FP.i2d x) (FP.ddiv (FP.l2d t) (FP.l2d w))) (FP.dsub (FP.i2d x) (FP.ddiv (FP.l2d t') (FP.l2d w')))) := noNaN64_no.mpr (own_fin (own_mulMag x t t' h h') (by decide)).notNaN
def own_sd (sd : UInt64) (x : Int32) (t w t' w' : Int64) : UInt64 := FP.dadd sd (FP.dmul (FP.dsub (FP.i2d x) (FP.ddiv (FP.l2d t) (FP.l2d w))) (FP.dsub (FP.i2d x) (FP.ddiv (FP.l2d t') (FP.l2d w'))))
theorem own_sdMag {K : Nat} {sd : UInt64} (x : Int32) (t t' : Int64) {w w' : Int64} (hs : OwnMag K sd) (h : w ≠ 0) (h' : w' ≠ 0) (k1 : 1160 ≤ K) (k2 : K ≤ 2000) : OwnMag (K + 2) (own_sd sd x t w t' w') :=
  dadd_mag (K := K) hs (own_mono (own_mulMag x t t' h h') k1) (by omega)
theorem own_n3 {K : Nat} {sd : UInt64} (x : Int32) (t t' : Int64) {w w' : Int64} (hs : OwnMag K sd) (h : w ≠ 0) (h' : w' ≠ 0) (k1 : 1160 ≤ K) (k2 : K ≤ 2000) : NoNaN64 (FP.dadd sd (FP.dmul (FP.dsub (FP.i2d x) (FP.ddiv (FP.l2d t) (FP.l2d w))) (FP.dsub (FP.i2d x) (FP.ddiv (FP.l2d t') (FP.l2d w'))))) := noNaN64_no.mpr (own_fin (own_sdMag x t t' hs h h' k1 k2) (by omega)).notNaN
theorem own_mag0 : OwnMag 1160 0 := by unfold OwnMag; decide
/-- a quotient of two whole numbers, rounded: between whole bounds -/
theorem own_quot {S n V : Int64} (hS : -9007199254740992 < S.toInt ∧ S.toInt < 9007199254740992) (hn : 0 < n.toInt ∧ n.toInt < 9007199254740992) (hV : -9007199254740992 < V.toInt ∧ V.toInt < 9007199254740992) :
    (V.toInt * n.toInt ≤ S.toInt → zval b64 (val64 (FP.l2d V)) ≤ zval b64 (val64 (FP.ddiv (FP.l2d S) (FP.l2d n)))) ∧ (S.toInt ≤ V.toInt * n.toInt → zval b64 (val64 (FP.ddiv (FP.l2d S) (FP.l2d n))) ≤ zval b64 (val64 (FP.l2d V))) := by
  have hnz : n ≠ 0 := fun q => by subst q; exact absurd hn.1 (by decide)
  have hd := own_nz64 hnz
  obtain ⟨c, q, e1⟩ := l2d_shape S
  obtain ⟨d, r, e2⟩ := l2d_shape n
  obtain ⟨cv, qv, e3⟩ := l2d_shape V
  rw [show decide (n.toInt < 0) = false from decide_eq_false (by omega)] at e2
  have e1' : val64 (FP.l2d S) = .fin (decide (S.toInt < 0)) c q := e1
  have e2' : val64 (FP.l2d n) = .fin false d r := e2
  have e3' : val64 (FP.l2d V) = .fin (decide (V.toInt < 0)) cv qv := e3
  have hd0 : d ≠ 0 := fun z => hd ⟨false, r, by subst z; exact e2⟩
  have hR : val64 (FP.ddiv (FP.l2d S) (FP.l2d n)) = roundRatio b64 (decide (S.toInt < 0)) c d (q - r) := by
    have h : val64 (FP.ddiv (FP.l2d S) (FP.l2d n)) = quotient b64 (val64 (FP.l2d S)) (val64 (FP.l2d n)) := val64_ddiv (FP.l2d S) (FP.l2d n)
    rw [e1', e2'] at h
    refine h.trans ?_
    show (if d = 0 then _ else _) = _
    rw [if_neg hd0]; simp
  have fS := val64_fits (FP.l2d S)
  have fn := val64_fits (FP.l2d n)
  have fV := val64_fits (FP.l2d V)
  have wS : zval b64 (val64 (FP.l2d S)) = S.toInt * ((2 ^ (-b64.qmin).toNat : Nat) : Int) := whole_zval good_b64 fS (l2d_whole hS)
  have wn : zval b64 (val64 (FP.l2d n)) = n.toInt * ((2 ^ (-b64.qmin).toNat : Nat) : Int) := whole_zval good_b64 fn (l2d_whole ⟨by omega, hn.2⟩)
  have wV : zval b64 (val64 (FP.l2d V)) = V.toInt * ((2 ^ (-b64.qmin).toNat : Nat) : Int) := whole_zval good_b64 fV (l2d_whole hV)
  have nV : val64 (FP.l2d V) ≠ .nan := (l2d_fin V).ne_nan
  generalize hU : (2 ^ (-b64.qmin).toNat : Nat) = U at wS wn wV
  have hUp : 0 < U := by rw [← hU]; exact Nat.two_pow_pos _
  have mS : zmag b64 (val64 (FP.l2d S)) = S.toInt.natAbs * U := by
    have := congrArg Int.natAbs wS
    unfold zval at this; rw [natAbs_signed, Int.natAbs_mul] at this; simpa using this
  have mn : zmag b64 (val64 (FP.l2d n)) = n.toInt.natAbs * U := by
    have := congrArg Int.natAbs wn
    unfold zval at this; rw [natAbs_signed, Int.natAbs_mul] at this; simpa using this
  have mV : zmag b64 (val64 (FP.l2d V)) = V.toInt.natAbs * U := by
    have := congrArg Int.natAbs wV
    unfold zval at this; rw [natAbs_signed, Int.natAbs_mul] at this; simpa using this
  rw [e1'] at fS mS
  rw [e2'] at fn mn
  have hr : b64.qmin ≤ r := fn.2.1
  have hq : b64.qmin ≤ q := fS.2.1
  have q0 : b64.qmin < 0 := qmin_neg good_b64
  -- the two sides in units of 2^(2 qmin - r)
  have u1 : inUnits c (q - r) (2 * b64.qmin - r) = S.toInt.natAbs * U * U := by
    rw [← mS]
    show c * 2 ^ (q - r - (2 * b64.qmin - r)).toNat = c * 2 ^ (q - b64.qmin).toNat * U
    have e : (q - r - (2 * b64.qmin - r)).toNat = (q - b64.qmin).toNat + (-b64.qmin).toNat := by omega
    rw [e, ← hU, Nat.mul_assoc, ← Nat.pow_add]
  have u2 : ∀ z : Nat, z * 2 ^ (b64.qmin - (2 * b64.qmin - r)).toNat * d = z * (n.toInt.natAbs * U) := fun z => by
    rw [← mn]
    show _ = z * (d * 2 ^ (r - b64.qmin).toNat)
    rw [show b64.qmin - (2 * b64.qmin - r) = r - b64.qmin by omega, Nat.mul_assoc, Nat.mul_comm (2 ^ _) d]
  have hB : 0 < d := Nat.pos_of_ne_zero hd0
  have up : V.toInt.natAbs * n.toInt.natAbs ≤ S.toInt.natAbs → zmag b64 (val64 (FP.l2d V)) ≤ zmag b64 (roundRatio b64 (decide (S.toInt < 0)) c d (q - r)) := fun h =>
    zmag_roundRatio_ge good_b64 hB fV (e0 := 2 * b64.qmin - r) (by omega) (by omega) (by
      rw [u1, u2, mV]
      have := Nat.mul_le_mul_right (U * U) h
      calc V.toInt.natAbs * U * (n.toInt.natAbs * U) = V.toInt.natAbs * n.toInt.natAbs * (U * U) := by ac_rfl
        _ ≤ S.toInt.natAbs * (U * U) := this
        _ = S.toInt.natAbs * U * U := by ac_rfl)
  have dn : S.toInt.natAbs ≤ V.toInt.natAbs * n.toInt.natAbs → zmag b64 (roundRatio b64 (decide (S.toInt < 0)) c d (q - r)) ≤ zmag b64 (val64 (FP.l2d V)) := fun h =>
    zmag_roundRatio_le good_b64 hB fV nV (e0 := 2 * b64.qmin - r) (by omega) (by omega) (by
      rw [u1, u2, mV]
      have := Nat.mul_le_mul_right (U * U) h
      calc S.toInt.natAbs * U * U = S.toInt.natAbs * (U * U) := by ac_rfl
        _ ≤ V.toInt.natAbs * n.toInt.natAbs * (U * U) := this
        _ = V.toInt.natAbs * U * (n.toInt.natAbs * U) := by ac_rfl)
  have sR : sgn (val64 (FP.ddiv (FP.l2d S) (FP.l2d n))) = decide (S.toInt < 0) := by rw [hR]; exact sgn_roundRatio _ _ _ _ _
  have sV : sgn (val64 (FP.l2d V)) = decide (V.toInt < 0) := by rw [e3']; rfl
  rw [← hR] at up dn
  unfold zval
  rw [sR, sV]
  generalize zmag b64 (val64 (FP.ddiv (FP.l2d S) (FP.l2d n))) = X at up dn ⊢
  generalize zmag b64 (val64 (FP.l2d V)) = Y at up dn mV ⊢
  have ab : (V.toInt.natAbs * n.toInt.natAbs : Nat) = (V.toInt * n.toInt).natAbs := (Int.natAbs_mul _ _).symm
  rw [ab] at up dn
  have vp : 0 ≤ V.toInt → 0 ≤ V.toInt * n.toInt := fun h => Int.mul_nonneg h (by omega)
  have vn : V.toInt < 0 → V.toInt * n.toInt < 0 := fun h => Int.mul_neg_of_neg_of_pos h hn.1
  generalize V.toInt * n.toInt = W at up dn vp vn
  constructor
  · intro h
    by_cases h1 : S.toInt < 0 <;> by_cases h2 : V.toInt < 0 <;> simp only [h1, h2, decide_true, decide_false, signed, if_true, Bool.false_eq_true, if_false]
    · have := vn h2; have := dn (by omega); omega
    · have := vp (by omega); omega
    · omega
    · have := vp (by omega); have := up (by omega); omega
  · intro h
    by_cases h1 : S.toInt < 0 <;> by_cases h2 : V.toInt < 0 <;> simp only [h1, h2, decide_true, decide_false, signed, if_true, Bool.false_eq_true, if_false]
    · have := vn h2; have := up (by omega); omega
    · omega
    · have := vn h2; omega
    · have := vp (by omega); have := dn (by omega); omega
theorem own_cmpLe {a b : UInt64} (ha : val64 a ≠ .nan) (hb : val64 b ≠ .nan) (h : zval b64 (val64 a) ≤ zval b64 (val64 b)) : ¬ (0 : Int32) < cmpValue (FP.dcmp a b) .g := by
  have e : FP.dcmp a b = some (compare (zval b64 (val64 a)) (zval b64 (val64 b))) := dcmp_zval ha hb
  rw [e, compare_ite]
  by_cases h1 : zval b64 (val64 a) < zval b64 (val64 b)
  · rw [if_pos h1]; decide
  · rw [if_neg h1, if_pos (by omega)]; decide
theorem own_lo {S n : Int64} {L : Int32} (hS : -9007199254740992 < S.toInt ∧ S.toInt < 9007199254740992) (hn : 0 < n.toInt ∧ n.toInt < 9007199254740992) (h : L.toInt * n.toInt ≤ S.toInt) : ¬ (0 : Int32) < cmpValue (FP.dcmp (FP.i2d L) (FP.ddiv (FP.l2d S) (FP.l2d n))) .g := by
  have r := rng32 L
  have hnz : n ≠ 0 := fun q => by subst q; exact absurd hn.1 (by decide)
  rw [i2d_w]
  refine own_cmpLe (l2d_fin _).ne_nan ((notNaN_iff _).mp (ddiv_out (l2d_notNaN S) (l2d_fin n) (own_nz64 hnz))) ((own_quot hS hn (V := L.toInt64) ?_).1 ?_)
  · rw [c_i2l]; omega
  · rw [c_i2l]; exact h
theorem own_hi {S n : Int64} {H : Int32} (hS : -9007199254740992 < S.toInt ∧ S.toInt < 9007199254740992) (hn : 0 < n.toInt ∧ n.toInt < 9007199254740992) (h : S.toInt ≤ H.toInt * n.toInt) : ¬ (0 : Int32) < cmpValue (FP.dcmp (FP.ddiv (FP.l2d S) (FP.l2d n)) (FP.i2d H)) .g := by
  have r := rng32 H
  have hnz : n ≠ 0 := fun q => by subst q; exact absurd hn.1 (by decide)
  rw [i2d_w]
  refine own_cmpLe ((notNaN_iff _).mp (ddiv_out (l2d_notNaN S) (l2d_fin n) (own_nz64 hnz))) (l2d_fin _).ne_nan ((own_quot hS hn (V := H.toInt64) ?_).2 ?_)
  · rw [c_i2l]; omega
  · rw [c_i2l]; exact h
theorem own_d1 (a : Int32) : FP.ddiv (FP.l2d (a.toInt64)) (FP.l2d (1 : Int64)) = FP.i2d a := by
  rw [i2d_w, show FP.l2d 1 = dconst1 by decide +kernel]; exact ddiv_one (l2d_fin _).ne_nan
theorem own_iN (n : Int32) : FP.i2d n = FP.l2d n.toInt64 := i2d_w n
end OwnPure
theorem own_s1 (a : Int32) : (a.toInt64).toInt = a.toInt := c_i2l a
theorem own_s2 (a b : Int32) : ((a.toInt64) + (b.toInt64)).toInt = a.toInt + b.toInt := by
  have h := c_ladd a.toInt64 b.toInt64
  have r1 := rng32 a
  have r2 := rng32 b
  have r := rng64 (a.toInt64 + b.toInt64)
  rw [c_i2l, c_i2l] at h
  omega
theorem own_s3 (a b c : Int32) : (((a.toInt64) + (b.toInt64)) + (c.toInt64)).toInt = a.toInt + b.toInt + c.toInt := by
  have h := c_ladd (a.toInt64 + b.toInt64) c.toInt64
  have r1 := rng32 a
  have r2 := rng32 b
  have r3 := rng32 c
  have r := rng64 (a.toInt64 + b.toInt64 + c.toInt64)
  rw [c_i2l, own_s2] at h
  omega
theorem own_s4 (a b c d : Int32) : ((((a.toInt64) + (b.toInt64)) + (c.toInt64)) + (d.toInt64)).toInt = a.toInt + b.toInt + c.toInt + d.toInt := by
  have h := c_ladd (a.toInt64 + b.toInt64 + c.toInt64) d.toInt64
  have r1 := rng32 a
  have r2 := rng32 b
  have r3 := rng32 c
  have r4 := rng32 d
  have r := rng64 (a.toInt64 + b.toInt64 + c.toInt64 + d.toInt64)
  rw [c_i2l, own_s3] at h
  omega
theorem own_lo1 (a : Int32) : ¬ (0 : Int32) < cmpValue (FP.dcmp (FP.i2d a) (FP.ddiv (FP.l2d (a.toInt64)) (FP.l2d (1 : Int64)))) .g := by
  have s := own_s1 a
  have r0 := rng32 a
  refine own_lo (by omega) (by decide) ?_
  rw [s, show ((1 : Int64)).toInt = 1 by decide]
  omega
theorem own_hi1 (a : Int32) : ¬ (0 : Int32) < cmpValue (FP.dcmp (FP.ddiv (FP.l2d (a.toInt64)) (FP.l2d (1 : Int64))) (FP.i2d a)) .g := by
  have s := own_s1 a
  have r0 := rng32 a
  refine own_hi (by omega) (by decide) ?_
  rw [s, show ((1 : Int64)).toInt = 1 by decide]
  omega
theorem own_eq1 (a : Int32) : cmpValue (FP.dcmp (FP.ddiv (FP.l2d (a.toInt64)) (FP.l2d (1 : Int64))) (FP.ddiv (FP.l2d (a.toInt64)) (FP.i2d (1 : Int32)))) .l = (0 : Int32) := dcmpV_eq (by rw [own_iN]; rfl) (own_nn _ (by decide)) .l
theorem own_lo2 (a b : Int32) : ¬ (0 : Int32) < cmpValue (FP.dcmp (FP.i2d (own_min a b)) (FP.ddiv (FP.l2d (a.toInt64 + b.toInt64)) (FP.l2d (2 : Int64)))) .g := by
  have s := own_s2 a b
  have r0 := rng32 a
  have r1 := rng32 b
  have m1 := own_minI a b
  refine own_lo (by omega) (by decide) ?_
  rw [s, show ((2 : Int64)).toInt = 2 by decide]
  omega
theorem own_hi2 (a b : Int32) : ¬ (0 : Int32) < cmpValue (FP.dcmp (FP.ddiv (FP.l2d (a.toInt64 + b.toInt64)) (FP.l2d (2 : Int64))) (FP.i2d (own_max a b))) .g := by
  have s := own_s2 a b
  have r0 := rng32 a
  have r1 := rng32 b
  have m1 := own_maxI a b
  refine own_hi (by omega) (by decide) ?_
  rw [s, show ((2 : Int64)).toInt = 2 by decide]
  omega
theorem own_eq2 (a b : Int32) : cmpValue (FP.dcmp (FP.ddiv (FP.l2d (a.toInt64 + b.toInt64)) (FP.l2d (2 : Int64))) (FP.ddiv (FP.l2d (a.toInt64 + b.toInt64)) (FP.i2d (2 : Int32)))) .l = (0 : Int32) := dcmpV_eq (by rw [own_iN]; rfl) (own_nn _ (by decide)) .l
theorem own_lo3 (a b c : Int32) : ¬ (0 : Int32) < cmpValue (FP.dcmp (FP.i2d (own_min (own_min a b) c)) (FP.ddiv (FP.l2d ((a.toInt64 + b.toInt64) + c.toInt64)) (FP.l2d (3 : Int64)))) .g := by
  have s := own_s3 a b c
  have r0 := rng32 a
  have r1 := rng32 b
  have r2 := rng32 c
  have m1 := own_minI a b
  have m2 := own_minI (own_min a b) c
  refine own_lo (by omega) (by decide) ?_
  rw [s, show ((3 : Int64)).toInt = 3 by decide]
  omega
theorem own_hi3 (a b c : Int32) : ¬ (0 : Int32) < cmpValue (FP.dcmp (FP.ddiv (FP.l2d ((a.toInt64 + b.toInt64) + c.toInt64)) (FP.l2d (3 : Int64))) (FP.i2d (own_max (own_max a b) c))) .g := by
  have s := own_s3 a b c
  have r0 := rng32 a
  have r1 := rng32 b
  have r2 := rng32 c
  have m1 := own_maxI a b
  have m2 := own_maxI (own_max a b) c
  refine own_hi (by omega) (by decide) ?_
  rw [s, show ((3 : Int64)).toInt = 3 by decide]
  omega
theorem own_eq3 (a b c : Int32) : cmpValue (FP.dcmp (FP.ddiv (FP.l2d ((a.toInt64 + b.toInt64) + c.toInt64)) (FP.l2d (3 : Int64))) (FP.ddiv (FP.l2d ((a.toInt64 + b.toInt64) + c.toInt64)) (FP.i2d (3 : Int32)))) .l = (0 : Int32) := dcmpV_eq (by rw [own_iN]; rfl) (own_nn _ (by decide)) .l
theorem own_lo4 (a b c d : Int32) : ¬ (0 : Int32) < cmpValue (FP.dcmp (FP.i2d (own_min (own_min (own_min a b) c) d)) (FP.ddiv (FP.l2d (((a.toInt64 + b.toInt64) + c.toInt64) + d.toInt64)) (FP.l2d (4 : Int64)))) .g := by
  have s := own_s4 a b c d
  have r0 := rng32 a
  have r1 := rng32 b
  have r2 := rng32 c
  have r3 := rng32 d
  have m1 := own_minI a b
  have m2 := own_minI (own_min a b) c
  have m3 := own_minI (own_min (own_min a b) c) d
  refine own_lo (by omega) (by decide) ?_
  rw [s, show ((4 : Int64)).toInt = 4 by decide]
  omega
theorem own_hi4 (a b c d : Int32) : ¬ (0 : Int32) < cmpValue (FP.dcmp (FP.ddiv (FP.l2d (((a.toInt64 + b.toInt64) + c.toInt64) + d.toInt64)) (FP.l2d (4 : Int64))) (FP.i2d (own_max (own_max (own_max a b) c) d))) .g := by
  have s := own_s4 a b c d
  have r0 := rng32 a
  have r1 := rng32 b
  have r2 := rng32 c
  have r3 := rng32 d
  have m1 := own_maxI a b
  have m2 := own_maxI (own_max a b) c
  have m3 := own_maxI (own_max (own_max a b) c) d
  refine own_hi (by omega) (by decide) ?_
  rw [s, show ((4 : Int64)).toInt = 4 by decide]
  omega
theorem own_eq4 (a b c d : Int32) : cmpValue (FP.dcmp (FP.ddiv (FP.l2d (((a.toInt64 + b.toInt64) + c.toInt64) + d.toInt64)) (FP.l2d (4 : Int64))) (FP.ddiv (FP.l2d (((a.toInt64 + b.toInt64) + c.toInt64) + d.toInt64)) (FP.i2d (4 : Int32)))) .l = (0 : Int32) := dcmpV_eq (by rw [own_iN]; rfl) (own_nn _ (by decide)) .l
theorem dMn_0 : decode jdk_29_method_69_code 0 = .ok (.iload_n 0, 1) := by decide +kernel
theorem dMn_1 : decode jdk_29_method_69_code 1 = .ok (.iload_n 1, 1) := by decide +kernel
theorem dMn_2 : decode jdk_29_method_69_code 2 = .ok (.if_icmp .gt 7, 3) := by decide +kernel
theorem dMn_5 : decode jdk_29_method_69_code 5 = .ok (.iload_n 0, 1) := by decide +kernel
theorem dMn_6 : decode jdk_29_method_69_code 6 = .ok (.goto 4, 3) := by decide +kernel
theorem dMn_9 : decode jdk_29_method_69_code 9 = .ok (.iload_n 1, 1) := by decide +kernel
theorem dMn_10 : decode jdk_29_method_69_code 10 = .ok (.ireturn, 1) := by decide +kernel
theorem efMn (m : MethodId) (p0 : Int32) (p1 : Int32) : entryFrame m #[(.int p0), (.int p1)] 2 = mkF m 0 #[.val (.int p0), .val (.int p1)] [] := by first | (simp [entryFrame, mkF, argsToLocals, Value.category]; done) | rfl
def QMn (Z : State) (p0 : Int32) (p1 : Int32) (h0 : Heap) (n0 : Nat) (v : Option Value) (h : Heap) (L : List Loc) : Prop := v = some (.int (own_min p0 p1)) ∧ Fr n0 L ∧ h = h0
set_option maxRecDepth 65536 in
set_option maxHeartbeats 40000000 in
theorem rmMn (l : Launch) (Z : State) (a0 : Array Value) (hw : ∀ d ∈ tables_1, d.before a0 Z = true) (ws : List Jvm.Cond) (p0 : Int32) (p1 : Int32) (h0 : Heap) (n0 : Nat) (Z0 : n0 ≤ h0.size)  :
    MetFree l (⟨"java/lang/Math", "min", "(II)I"⟩ : MethodName) (head1 (Jvm.Cond.code (⟨"java/lang/Math", "min", "(II)I"⟩ : MethodName) jdk_29_method_69_code 2 (some .int) :: ws) ({ frames := 0, cells := 0, slots := 0, locals := 0 } : Room)) (fun a U => a = #[(.int p0), (.int p1)] ∧ Z.Warmed39 U.vm ∧ U.heap = h0) (fun _ _ _ _ _ => True) (fun _ U o U' => ∃ v L, o = .returned v ∧ QMn Z p0 p1 h0 n0 v U'.heap L ∧ FrameEnd U o U' L ({ frames := 0, cells := 0, slots := 0, locals := 0 } : Room).cells ({ frames := 0, cells := 0, slots := 0, locals := 0 } : Room).slots) := by
  refine MetFree.of_bodySF (Jvm.Free.JP.mathPlain rfl (by decide +kernel)) hisR ?_
  intro p e s m args below meth c s₁ Bd hml0 hP hK
  obtain ⟨rfl, hZ, hh⟩ := hP
  have hx := Bd.exec
  have hby := Bd.bytes
  have hlk := BodyLoose.notSynchronized Bd
  have hret := Bd.returns
  have hml : c.maxLocals = 2 := hml0
  have hown : s.vm.findClass "java/lang/Math" = some m.cls := findClass_of_methodNamed Bd.named
  have hnm := (name_of_methodNamed Bd.named Bd.method).1
  have X0 : Stand p l e ({ frames := 0, cells := 0, slots := 0, locals := 0 } : Room) s m #[(.int p0), (.int p1)] below meth c s₁ [] 0 0 := Stand.of_body Bd
  have e0 : s₁.heap = h0 := by rw [← hh, Bd.state]; rfl
  have N0 := Fr.nil n0
  show OFin p e below (KPost s (QMn Z p0 p1 h0 n0) ({ frames := 0, cells := 0, slots := 0, locals := 0 } : Room).cells ({ frames := 0, cells := 0, slots := 0, locals := 0 } : Room).slots) _
  rw [efMn m p0 p1]
  refine OFin.of (S' := s₁.setTop (mkF m 2 #[.val (.int p0), .val (.int p1)] [(.int p1), (.int p0)])) (fun t ht => ?_) ?_
  · refine XS.iloadN X0.here hx rfl (hb hby dMn_0) rfl ?_
    show Steps p.tables e below (s₁.setTop (mkF m 1 _ [(.int p0)])) _
    refine XS.iloadN X0.here hx rfl (hb hby dMn_1) rfl ?_
    exact ht
  by_cases hc1 : p1 < p0
  · refine OFin.of (S' := s₁.setTop (mkF m 10 #[.val (.int p0), .val (.int p1)] [(.int p1)])) (fun t ht => ?_) ?_
    · refine XS.icmpYes X0.here hx rfl (pc0 := 2) (pc' := 9) rfl (hb hby dMn_2) rfl (tlt (hc1 : p1 < p0)).2.2.1 (by decide) (by decide) ?_
      show Steps p.tables e below (s₁.setTop (mkF m 9 _ [])) _
      refine XS.iloadN X0.here hx rfl (hb hby dMn_9) rfl ?_
      exact ht
    exact OFin.retI X0 hx hlk hret (hb hby dMn_10) (by decide) (by decide) (by rw [e0]; exact ⟨(by show some (Value.int p1) = _; simp [own_min, hc1]), N0, rfl⟩)
  · refine OFin.of (S' := s₁.setTop (mkF m 10 #[.val (.int p0), .val (.int p1)] [(.int p0)])) (fun t ht => ?_) ?_
    · refine XS.icmpNo X0.here hx rfl (hb hby dMn_2) rfl (flt (hc1 : ¬ (p1 < p0))).2.2.1 ?_
      show Steps p.tables e below (s₁.setTop (mkF m 5 _ [])) _
      refine XS.iloadN X0.here hx rfl (hb hby dMn_5) rfl ?_
      show Steps p.tables e below (s₁.setTop (mkF m 6 _ [(.int p0)])) _
      refine XS.goto X0.here hx rfl (pc0 := 6) (pc' := 10) rfl (hb hby dMn_6) (by decide) (by decide) ?_
      exact ht
    exact OFin.retI X0 hx hlk hret (hb hby dMn_10) (by decide) (by decide) (by rw [e0]; exact ⟨(by show some (Value.int p0) = _; simp [own_min, hc1]), N0, rfl⟩)
theorem dMx_0 : decode jdk_29_method_65_code 0 = .ok (.iload_n 0, 1) := by decide +kernel
theorem dMx_1 : decode jdk_29_method_65_code 1 = .ok (.iload_n 1, 1) := by decide +kernel
theorem dMx_2 : decode jdk_29_method_65_code 2 = .ok (.if_icmp .lt 7, 3) := by decide +kernel
theorem dMx_5 : decode jdk_29_method_65_code 5 = .ok (.iload_n 0, 1) := by decide +kernel
theorem dMx_6 : decode jdk_29_method_65_code 6 = .ok (.goto 4, 3) := by decide +kernel
theorem dMx_9 : decode jdk_29_method_65_code 9 = .ok (.iload_n 1, 1) := by decide +kernel
theorem dMx_10 : decode jdk_29_method_65_code 10 = .ok (.ireturn, 1) := by decide +kernel
theorem efMx (m : MethodId) (p0 : Int32) (p1 : Int32) : entryFrame m #[(.int p0), (.int p1)] 2 = mkF m 0 #[.val (.int p0), .val (.int p1)] [] := by first | (simp [entryFrame, mkF, argsToLocals, Value.category]; done) | rfl
def QMx (Z : State) (p0 : Int32) (p1 : Int32) (h0 : Heap) (n0 : Nat) (v : Option Value) (h : Heap) (L : List Loc) : Prop := v = some (.int (own_max p0 p1)) ∧ Fr n0 L ∧ h = h0
set_option maxRecDepth 65536 in
set_option maxHeartbeats 40000000 in
theorem rmMx (l : Launch) (Z : State) (a0 : Array Value) (hw : ∀ d ∈ tables_1, d.before a0 Z = true) (ws : List Jvm.Cond) (p0 : Int32) (p1 : Int32) (h0 : Heap) (n0 : Nat) (Z0 : n0 ≤ h0.size)  :
    MetFree l (⟨"java/lang/Math", "max", "(II)I"⟩ : MethodName) (head1 (Jvm.Cond.code (⟨"java/lang/Math", "max", "(II)I"⟩ : MethodName) jdk_29_method_65_code 2 (some .int) :: ws) ({ frames := 0, cells := 0, slots := 0, locals := 0 } : Room)) (fun a U => a = #[(.int p0), (.int p1)] ∧ Z.Warmed39 U.vm ∧ U.heap = h0) (fun _ _ _ _ _ => True) (fun _ U o U' => ∃ v L, o = .returned v ∧ QMx Z p0 p1 h0 n0 v U'.heap L ∧ FrameEnd U o U' L ({ frames := 0, cells := 0, slots := 0, locals := 0 } : Room).cells ({ frames := 0, cells := 0, slots := 0, locals := 0 } : Room).slots) := by
  refine MetFree.of_bodySF (Jvm.Free.JP.mathPlain rfl (by decide +kernel)) hisR ?_
  intro p e s m args below meth c s₁ Bd hml0 hP hK
  obtain ⟨rfl, hZ, hh⟩ := hP
  have hx := Bd.exec
  have hby := Bd.bytes
  have hlk := BodyLoose.notSynchronized Bd
  have hret := Bd.returns
  have hml : c.maxLocals = 2 := hml0
  have hown : s.vm.findClass "java/lang/Math" = some m.cls := findClass_of_methodNamed Bd.named
  have hnm := (name_of_methodNamed Bd.named Bd.method).1
  have X0 : Stand p l e ({ frames := 0, cells := 0, slots := 0, locals := 0 } : Room) s m #[(.int p0), (.int p1)] below meth c s₁ [] 0 0 := Stand.of_body Bd
  have e0 : s₁.heap = h0 := by rw [← hh, Bd.state]; rfl
  have N0 := Fr.nil n0
  show OFin p e below (KPost s (QMx Z p0 p1 h0 n0) ({ frames := 0, cells := 0, slots := 0, locals := 0 } : Room).cells ({ frames := 0, cells := 0, slots := 0, locals := 0 } : Room).slots) _
  rw [efMx m p0 p1]
  refine OFin.of (S' := s₁.setTop (mkF m 2 #[.val (.int p0), .val (.int p1)] [(.int p1), (.int p0)])) (fun t ht => ?_) ?_
  · refine XS.iloadN X0.here hx rfl (hb hby dMx_0) rfl ?_
    show Steps p.tables e below (s₁.setTop (mkF m 1 _ [(.int p0)])) _
    refine XS.iloadN X0.here hx rfl (hb hby dMx_1) rfl ?_
    exact ht
  by_cases hc1 : p0 < p1
  · refine OFin.of (S' := s₁.setTop (mkF m 10 #[.val (.int p0), .val (.int p1)] [(.int p1)])) (fun t ht => ?_) ?_
    · refine XS.icmpYes X0.here hx rfl (pc0 := 2) (pc' := 9) rfl (hb hby dMx_2) rfl (tlt (hc1 : p0 < p1)).1 (by decide) (by decide) ?_
      show Steps p.tables e below (s₁.setTop (mkF m 9 _ [])) _
      refine XS.iloadN X0.here hx rfl (hb hby dMx_9) rfl ?_
      exact ht
    exact OFin.retI X0 hx hlk hret (hb hby dMx_10) (by decide) (by decide) (by rw [e0]; exact ⟨(by show some (Value.int p1) = _; simp [own_max, hc1]), N0, rfl⟩)
  · refine OFin.of (S' := s₁.setTop (mkF m 10 #[.val (.int p0), .val (.int p1)] [(.int p0)])) (fun t ht => ?_) ?_
    · refine XS.icmpNo X0.here hx rfl (hb hby dMx_2) rfl (flt (hc1 : ¬ (p0 < p1))).1 ?_
      show Steps p.tables e below (s₁.setTop (mkF m 5 _ [])) _
      refine XS.iloadN X0.here hx rfl (hb hby dMx_5) rfl ?_
      show Steps p.tables e below (s₁.setTop (mkF m 6 _ [(.int p0)])) _
      refine XS.goto X0.here hx rfl (pc0 := 6) (pc' := 10) rfl (hb hby dMx_6) (by decide) (by decide) ?_
      exact ht
    exact OFin.retI X0 hx hlk hret (hb hby dMx_10) (by decide) (by decide) (by rw [e0]; exact ⟨(by show some (Value.int p0) = _; simp [own_max, hc1]), N0, rfl⟩)
theorem dIni_0 : decode prog_28_method_1_code 0 = .ok (.aload_n 0, 1) := by decide +kernel
theorem dIni_1 : decode prog_28_method_1_code 1 = .ok (.invokespecial 1, 3) := by decide +kernel
theorem dIni_4 : decode prog_28_method_1_code 4 = .ok (.aload_n 0, 1) := by decide +kernel
theorem dIni_5 : decode prog_28_method_1_code 5 = .ok (.lconst 1, 1) := by decide +kernel
theorem dIni_6 : decode prog_28_method_1_code 6 = .ok (.putfield 7, 3) := by decide +kernel
theorem dIni_9 : decode prog_28_method_1_code 9 = .ok (.aload_n 0, 1) := by decide +kernel
theorem dIni_10 : decode prog_28_method_1_code 10 = .ok (.iload_n 1, 1) := by decide +kernel
theorem dIni_11 : decode prog_28_method_1_code 11 = .ok (.i2l, 1) := by decide +kernel
theorem dIni_12 : decode prog_28_method_1_code 12 = .ok (.putfield 13, 3) := by decide +kernel
theorem dIni_15 : decode prog_28_method_1_code 15 = .ok (.aload_n 0, 1) := by decide +kernel
theorem dIni_16 : decode prog_28_method_1_code 16 = .ok (.iload_n 1, 1) := by decide +kernel
theorem dIni_17 : decode prog_28_method_1_code 17 = .ok (.putfield 16, 3) := by decide +kernel
theorem dIni_20 : decode prog_28_method_1_code 20 = .ok (.aload_n 0, 1) := by decide +kernel
theorem dIni_21 : decode prog_28_method_1_code 21 = .ok (.iload_n 1, 1) := by decide +kernel
theorem dIni_22 : decode prog_28_method_1_code 22 = .ok (.putfield 20, 3) := by decide +kernel
theorem dIni_25 : decode prog_28_method_1_code 25 = .ok (.return_, 1) := by decide +kernel
theorem pnIni : plainName "com/example/weekly_activity_scheduler/weeklyactivityscheduler/core/Spread" = true := by first | (simp [plainName, overriddenIn]; done) | decide +kernel
theorem efIni (m : MethodId) (a0 : Addr) (p1 : Int32) : entryFrame m #[(.ref a0), (.int p1)] 2 = mkF m 0 #[.val (.ref a0), .val (.int p1)] [] := by first | (simp [entryFrame, mkF, argsToLocals, Value.category]; done) | rfl
def QIni (Z : State) (a0 : Addr) (p1 : Int32) (h0 : Heap) (n0 : Nat) (v : Option Value) (h : Heap) (L : List Loc) : Prop := v = none ∧ Fr n0 L ∧ Keep h0 h [a0] ∧ Fld Z h a0 "com/example/weekly_activity_scheduler/weeklyactivityscheduler/core/Spread" "replications" "J" (.long (1 : Int64)) ∧ Fld Z h a0 "com/example/weekly_activity_scheduler/weeklyactivityscheduler/core/Spread" "sum" "J" (.long (p1.toInt64)) ∧ Fld Z h a0 "com/example/weekly_activity_scheduler/weeklyactivityscheduler/core/Spread" "min" "I" (.int p1) ∧ Fld Z h a0 "com/example/weekly_activity_scheduler/weeklyactivityscheduler/core/Spread" "max" "I" (.int p1) ∧ Fld Z h a0 "com/example/weekly_activity_scheduler/weeklyactivityscheduler/core/Spread" "squaredDeviations" "D" (.double 0)
set_option maxRecDepth 65536 in
set_option maxHeartbeats 40000000 in
theorem rmIni (l : Launch) (Z : State) (a0 : Array Value) (hw : ∀ d ∈ tables_1, d.before a0 Z = true) (ws : List Jvm.Cond) (a0 : Addr) (p1 : Int32) (h0 : Heap) (n0 : Nat) (Z0 : n0 ≤ h0.size) (E0 : Exa Z h0 a0 "com/example/weekly_activity_scheduler/weeklyactivityscheduler/core/Spread") (F_replications : Fld Z h0 a0 "com/example/weekly_activity_scheduler/weeklyactivityscheduler/core/Spread" "replications" "J" (.long (0 : Int64))) (F_sum : Fld Z h0 a0 "com/example/weekly_activity_scheduler/weeklyactivityscheduler/core/Spread" "sum" "J" (.long (0 : Int64))) (F_min : Fld Z h0 a0 "com/example/weekly_activity_scheduler/weeklyactivityscheduler/core/Spread" "min" "I" (.int (0 : Int32))) (F_max : Fld Z h0 a0 "com/example/weekly_activity_scheduler/weeklyactivityscheduler/core/Spread" "max" "I" (.int (0 : Int32))) (F_squaredDeviations : Fld Z h0 a0 "com/example/weekly_activity_scheduler/weeklyactivityscheduler/core/Spread" "squaredDeviations" "D" (.double 0)) (g0 : n0 ≤ a0) :
    MetFree l (⟨"com/example/weekly_activity_scheduler/weeklyactivityscheduler/core/Spread", "<init>", "(I)V"⟩ : MethodName) (head1 (Jvm.Cond.code (⟨"com/example/weekly_activity_scheduler/weeklyactivityscheduler/core/Spread", "<init>", "(I)V"⟩ : MethodName) prog_28_method_1_code 2 none :: ws) ({ frames := 1, cells := 0, slots := 0, locals := 12 } : Room)) (fun a U => a = #[(.ref a0), (.int p1)] ∧ Z.Warmed39 U.vm ∧ U.heap = h0) (fun _ _ _ _ _ => True) (fun _ U o U' => ∃ v L, o = .returned v ∧ QIni Z a0 p1 h0 n0 v U'.heap L ∧ FrameEnd U o U' L ({ frames := 1, cells := 0, slots := 0, locals := 12 } : Room).cells ({ frames := 1, cells := 0, slots := 0, locals := 12 } : Room).slots) := by
  refine MetFree.of_bodySF (plainFor_of_name pnIni) hisR ?_
  intro p e s m args below meth c s₁ Bd hml0 hP hK
  obtain ⟨rfl, hZ, hh⟩ := hP
  have hx := Bd.exec
  have hby := Bd.bytes
  have hlk := BodyLoose.notSynchronized Bd
  have hret := Bd.returns
  have hml : c.maxLocals = 2 := hml0
  have hown : s.vm.findClass "com/example/weekly_activity_scheduler/weeklyactivityscheduler/core/Spread" = some m.cls := findClass_of_methodNamed Bd.named
  have hnm := (name_of_methodNamed Bd.named Bd.method).1
  have X0 : Stand p l e ({ frames := 1, cells := 0, slots := 0, locals := 12 } : Room) s m #[(.ref a0), (.int p1)] below meth c s₁ [] 0 0 := Stand.of_body Bd
  have e0 : s₁.heap = h0 := by rw [← hh, Bd.state]; rfl
  have N0 := Fr.nil n0
  show OFin p e below (KPost s (QIni Z a0 p1 h0 n0) ({ frames := 1, cells := 0, slots := 0, locals := 12 } : Room).cells ({ frames := 1, cells := 0, slots := 0, locals := 12 } : Room).slots) _
  rw [efIni m a0 p1]
  have K0 : Keep h0 h0 [a0] := Keep.refl _ _
  refine OFin.of (S' := s₁.setTop (mkF m 1 #[.val (.ref a0), .val (.int p1)] [(.ref a0)])) (fun t ht => ?_) ?_
  · refine XS.aloadN X0.here hx rfl (hb hby dIni_0) rfl rfl ?_
    exact ht
  obtain ⟨T1, X1, e1, st1⟩ := initO X0 hx hZ hown (hw _ (List.mem_of_getElem? (i := 6) rfl)) (hw _ (List.mem_of_getElem? (i := 7) rfl)) (hw _ (List.mem_of_getElem? (i := 8) rfl)) e0 (g := (mkF m 1 #[.val (.ref a0), .val (.int p1)] [(.ref a0)])) rfl (by rw [hml]; rfl) rfl (hb hby dIni_1) (by decide) (W := 0) (by show 2 * 0 + _ ≤ _; exact Nat.le_of_eq rfl) (by decide)
  refine OFin.of (S' := T1.setTop (mkF m 4 #[.val (.ref a0), .val (.int p1)] [])) (fun t ht => st1 t ht) ?_
  refine OFin.of (S' := T1.setTop (mkF m 6 #[.val (.ref a0), .val (.int p1)] [(.long (1 : Int64)), (.ref a0)])) (fun t ht => ?_) ?_
  · refine XS.aloadN X1.here hx rfl (hb hby dIni_4) rfl rfl ?_
    show Steps p.tables e below (T1.setTop (mkF m 5 _ [(.ref a0)])) _
    refine XS.lconst X1.here hx rfl (hb hby dIni_5) ?_
    exact ht
  obtain ⟨T2, h2, X2, e2, W2, st2⟩ := putF X1 hx hZ hown (host := "") (Or.inl (hw _ (List.mem_of_getElem? (i := 9) rfl))) Via.refl e1 F_replications E0 (Or.inl (hw _ (List.mem_of_getElem? (i := 10) rfl))) (hw _ (List.mem_of_getElem? (i := 1) rfl)) (ty := .long) (by decide) rfl rfl (g := (mkF m 6 #[.val (.ref a0), .val (.int p1)] [(.long (1 : Int64)), (.ref a0)])) rfl rfl (hb hby dIni_6)
  have f3 := (E0.wr W2)
  have f4 := (F_sum.other W2 (Or.inr (slot_ne (Or.inl (hw _ (List.mem_of_getElem? (i := 12) rfl))) (Or.inl (hw _ (List.mem_of_getElem? (i := 10) rfl))) (by decide) (t := .long) (t' := .long) (by decide) (by decide))))
  have f5 := (F_min.other W2 (Or.inr (slot_ne (Or.inl (hw _ (List.mem_of_getElem? (i := 14) rfl))) (Or.inl (hw _ (List.mem_of_getElem? (i := 10) rfl))) (by decide) (t := .int) (t' := .long) (by decide) (by decide))))
  have f6 := (F_max.other W2 (Or.inr (slot_ne (Or.inl (hw _ (List.mem_of_getElem? (i := 16) rfl))) (Or.inl (hw _ (List.mem_of_getElem? (i := 10) rfl))) (by decide) (t := .int) (t' := .long) (by decide) (by decide))))
  have f7 := (F_squaredDeviations.other W2 (Or.inr (slot_ne (Or.inl (hw _ (List.mem_of_getElem? (i := 29) rfl))) (Or.inl (hw _ (List.mem_of_getElem? (i := 10) rfl))) (by decide) (t := .double) (t' := .long) (by decide) (by decide))))
  have Z8 : n0 ≤ h2.size := (Nat.le_trans Z0 (Keep.of_wr W2).1)
  have K9 : Keep h0 h2 [a0] := (K0.wr W2 (Or.inl (List.mem_of_getElem? (i := 0) rfl)))
  have N10 := Fr.snoc X2 N0 g0
  have f11 : Fld Z h2 a0 "com/example/weekly_activity_scheduler/weeklyactivityscheduler/core/Spread" "replications" "J" (.long (1 : Int64)) := (F_replications.same W2)
  refine OFin.of (S' := T2.setTop (mkF m 9 #[.val (.ref a0), .val (.int p1)] [])) (fun t ht => st2 t ht) ?_
  refine OFin.of (S' := T2.setTop (mkF m 12 #[.val (.ref a0), .val (.int p1)] [(.long (p1.toInt64)), (.ref a0)])) (fun t ht => ?_) ?_
  · refine XS.aloadN X2.here hx rfl (hb hby dIni_9) rfl rfl ?_
    show Steps p.tables e below (T2.setTop (mkF m 10 _ [(.ref a0)])) _
    refine XS.iloadN X2.here hx rfl (hb hby dIni_10) rfl ?_
    show Steps p.tables e below (T2.setTop (mkF m 11 _ [(.int p1), (.ref a0)])) _
    refine XS.i2l X2.here hx rfl (hb hby dIni_11) rfl ?_
    exact ht
  obtain ⟨T12, h12, X12, e12, W12, st12⟩ := putF X2 hx hZ hown (host := "") (Or.inl (hw _ (List.mem_of_getElem? (i := 11) rfl))) Via.refl e2 f4 f3 (Or.inl (hw _ (List.mem_of_getElem? (i := 12) rfl))) (hw _ (List.mem_of_getElem? (i := 1) rfl)) (ty := .long) (by decide) rfl rfl (g := (mkF m 12 #[.val (.ref a0), .val (.int p1)] [(.long (p1.toInt64)), (.ref a0)])) rfl rfl (hb hby dIni_12)
  have f13 := (f3.wr W12)
  have f14 := (f5.other W12 (Or.inr (slot_ne (Or.inl (hw _ (List.mem_of_getElem? (i := 14) rfl))) (Or.inl (hw _ (List.mem_of_getElem? (i := 12) rfl))) (by decide) (t := .int) (t' := .long) (by decide) (by decide))))
  have f15 := (f6.other W12 (Or.inr (slot_ne (Or.inl (hw _ (List.mem_of_getElem? (i := 16) rfl))) (Or.inl (hw _ (List.mem_of_getElem? (i := 12) rfl))) (by decide) (t := .int) (t' := .long) (by decide) (by decide))))
  have f16 := (f7.other W12 (Or.inr (slot_ne (Or.inl (hw _ (List.mem_of_getElem? (i := 29) rfl))) (Or.inl (hw _ (List.mem_of_getElem? (i := 12) rfl))) (by decide) (t := .double) (t' := .long) (by decide) (by decide))))
  have f17 := (f11.other W12 (Or.inr (slot_ne (Or.inl (hw _ (List.mem_of_getElem? (i := 10) rfl))) (Or.inl (hw _ (List.mem_of_getElem? (i := 12) rfl))) (by decide) (t := .long) (t' := .long) (by decide) (by decide))))
  have Z18 : n0 ≤ h12.size := (Nat.le_trans Z8 (Keep.of_wr W12).1)
  have K19 : Keep h0 h12 [a0] := (K9.wr W12 (Or.inl (List.mem_of_getElem? (i := 0) rfl)))
  have N20 := Fr.snoc X12 N10 g0
  have f21 : Fld Z h12 a0 "com/example/weekly_activity_scheduler/weeklyactivityscheduler/core/Spread" "sum" "J" (.long (p1.toInt64)) := (f4.same W12)
  refine OFin.of (S' := T12.setTop (mkF m 15 #[.val (.ref a0), .val (.int p1)] [])) (fun t ht => st12 t ht) ?_
  refine OFin.of (S' := T12.setTop (mkF m 17 #[.val (.ref a0), .val (.int p1)] [(.int p1), (.ref a0)])) (fun t ht => ?_) ?_
  · refine XS.aloadN X12.here hx rfl (hb hby dIni_15) rfl rfl ?_
    show Steps p.tables e below (T12.setTop (mkF m 16 _ [(.ref a0)])) _
    refine XS.iloadN X12.here hx rfl (hb hby dIni_16) rfl ?_
    exact ht
  obtain ⟨T22, h22, X22, e22, W22, st22⟩ := putF X12 hx hZ hown (host := "") (Or.inl (hw _ (List.mem_of_getElem? (i := 13) rfl))) Via.refl e12 f14 f13 (Or.inl (hw _ (List.mem_of_getElem? (i := 14) rfl))) (hw _ (List.mem_of_getElem? (i := 1) rfl)) (ty := .int) (by decide) rfl rfl (g := (mkF m 17 #[.val (.ref a0), .val (.int p1)] [(.int p1), (.ref a0)])) rfl rfl (hb hby dIni_17)
  have f23 := (f13.wr W22)
  have f24 := (f15.other W22 (Or.inr (slot_ne (Or.inl (hw _ (List.mem_of_getElem? (i := 16) rfl))) (Or.inl (hw _ (List.mem_of_getElem? (i := 14) rfl))) (by decide) (t := .int) (t' := .int) (by decide) (by decide))))
  have f25 := (f16.other W22 (Or.inr (slot_ne (Or.inl (hw _ (List.mem_of_getElem? (i := 29) rfl))) (Or.inl (hw _ (List.mem_of_getElem? (i := 14) rfl))) (by decide) (t := .double) (t' := .int) (by decide) (by decide))))
  have f26 := (f17.other W22 (Or.inr (slot_ne (Or.inl (hw _ (List.mem_of_getElem? (i := 10) rfl))) (Or.inl (hw _ (List.mem_of_getElem? (i := 14) rfl))) (by decide) (t := .long) (t' := .int) (by decide) (by decide))))
  have f27 := (f21.other W22 (Or.inr (slot_ne (Or.inl (hw _ (List.mem_of_getElem? (i := 12) rfl))) (Or.inl (hw _ (List.mem_of_getElem? (i := 14) rfl))) (by decide) (t := .long) (t' := .int) (by decide) (by decide))))
  have Z28 : n0 ≤ h22.size := (Nat.le_trans Z18 (Keep.of_wr W22).1)
  have K29 : Keep h0 h22 [a0] := (K19.wr W22 (Or.inl (List.mem_of_getElem? (i := 0) rfl)))
  have N30 := Fr.snoc X22 N20 g0
  have f31 : Fld Z h22 a0 "com/example/weekly_activity_scheduler/weeklyactivityscheduler/core/Spread" "min" "I" (.int p1) := (f14.same W22)
  refine OFin.of (S' := T22.setTop (mkF m 20 #[.val (.ref a0), .val (.int p1)] [])) (fun t ht => st22 t ht) ?_
  refine OFin.of (S' := T22.setTop (mkF m 22 #[.val (.ref a0), .val (.int p1)] [(.int p1), (.ref a0)])) (fun t ht => ?_) ?_
  · refine XS.aloadN X22.here hx rfl (hb hby dIni_20) rfl rfl ?_
    show Steps p.tables e below (T22.setTop (mkF m 21 _ [(.ref a0)])) _
    refine XS.iloadN X22.here hx rfl (hb hby dIni_21) rfl ?_
    exact ht
  obtain ⟨T32, h32, X32, e32, W32, st32⟩ := putF X22 hx hZ hown (host := "") (Or.inl (hw _ (List.mem_of_getElem? (i := 15) rfl))) Via.refl e22 f24 f23 (Or.inl (hw _ (List.mem_of_getElem? (i := 16) rfl))) (hw _ (List.mem_of_getElem? (i := 1) rfl)) (ty := .int) (by decide) rfl rfl (g := (mkF m 22 #[.val (.ref a0), .val (.int p1)] [(.int p1), (.ref a0)])) rfl rfl (hb hby dIni_22)
  have f33 := (f23.wr W32)
  have f34 := (f25.other W32 (Or.inr (slot_ne (Or.inl (hw _ (List.mem_of_getElem? (i := 29) rfl))) (Or.inl (hw _ (List.mem_of_getElem? (i := 16) rfl))) (by decide) (t := .double) (t' := .int) (by decide) (by decide))))
  have f35 := (f26.other W32 (Or.inr (slot_ne (Or.inl (hw _ (List.mem_of_getElem? (i := 10) rfl))) (Or.inl (hw _ (List.mem_of_getElem? (i := 16) rfl))) (by decide) (t := .long) (t' := .int) (by decide) (by decide))))
  have f36 := (f27.other W32 (Or.inr (slot_ne (Or.inl (hw _ (List.mem_of_getElem? (i := 12) rfl))) (Or.inl (hw _ (List.mem_of_getElem? (i := 16) rfl))) (by decide) (t := .long) (t' := .int) (by decide) (by decide))))
  have f37 := (f31.other W32 (Or.inr (slot_ne (Or.inl (hw _ (List.mem_of_getElem? (i := 14) rfl))) (Or.inl (hw _ (List.mem_of_getElem? (i := 16) rfl))) (by decide) (t := .int) (t' := .int) (by decide) (by decide))))
  have Z38 : n0 ≤ h32.size := (Nat.le_trans Z28 (Keep.of_wr W32).1)
  have K39 : Keep h0 h32 [a0] := (K29.wr W32 (Or.inl (List.mem_of_getElem? (i := 0) rfl)))
  have N40 := Fr.snoc X32 N30 g0
  have f41 : Fld Z h32 a0 "com/example/weekly_activity_scheduler/weeklyactivityscheduler/core/Spread" "max" "I" (.int p1) := (f24.same W32)
  refine OFin.of (S' := T32.setTop (mkF m 25 #[.val (.ref a0), .val (.int p1)] [])) (fun t ht => st32 t ht) ?_
  exact OFin.retV X32 hx hlk hret (hb hby dIni_25) (by decide) (by decide) (by rw [e32]; exact ⟨rfl, N40, K39, f35, f36, f37, f41, f34⟩)
theorem dMe_0 : decode prog_28_method_4_code 0 = .ok (.aload_n 0, 1) := by decide +kernel
theorem dMe_1 : decode prog_28_method_4_code 1 = .ok (.getfield 13, 3) := by decide +kernel
theorem dMe_4 : decode prog_28_method_4_code 4 = .ok (.l2d, 1) := by decide +kernel
theorem dMe_5 : decode prog_28_method_4_code 5 = .ok (.aload_n 0, 1) := by decide +kernel
theorem dMe_6 : decode prog_28_method_4_code 6 = .ok (.getfield 7, 3) := by decide +kernel
theorem dMe_9 : decode prog_28_method_4_code 9 = .ok (.l2d, 1) := by decide +kernel
theorem dMe_10 : decode prog_28_method_4_code 10 = .ok (.ddiv, 1) := by decide +kernel
theorem dMe_11 : decode prog_28_method_4_code 11 = .ok (.dreturn, 1) := by decide +kernel
theorem pnMe : plainName "com/example/weekly_activity_scheduler/weeklyactivityscheduler/core/Spread" = true := by first | (simp [plainName, overriddenIn]; done) | decide +kernel
theorem efMe (m : MethodId) (a0 : Addr) : entryFrame m #[(.ref a0)] 1 = mkF m 0 #[.val (.ref a0)] [] := by first | (simp [entryFrame, mkF, argsToLocals, Value.category]; done) | rfl
def QMe (Z : State) (a0 : Addr) (ww : Int64) (tt : Int64) (h0 : Heap) (n0 : Nat) (v : Option Value) (h : Heap) (L : List Loc) : Prop := v = some (.double (FP.ddiv (FP.l2d tt) (FP.l2d ww))) ∧ Fr n0 L ∧ h = h0
set_option maxRecDepth 65536 in
set_option maxHeartbeats 40000000 in
theorem rmMe (l : Launch) (Z : State) (a0 : Array Value) (hw : ∀ d ∈ tables_1, d.before a0 Z = true) (ws : List Jvm.Cond) (a0 : Addr) (ww : Int64) (tt : Int64) (h0 : Heap) (n0 : Nat) (Z0 : n0 ≤ h0.size) (F_replications : Fld Z h0 a0 "com/example/weekly_activity_scheduler/weeklyactivityscheduler/core/Spread" "replications" "J" (.long ww)) (F_sum : Fld Z h0 a0 "com/example/weekly_activity_scheduler/weeklyactivityscheduler/core/Spread" "sum" "J" (.long tt)) (hw0 : ww ≠ 0) :
    MetFree l (⟨"com/example/weekly_activity_scheduler/weeklyactivityscheduler/core/Spread", "mean", "()D"⟩ : MethodName) (head1 (Jvm.Cond.code (⟨"com/example/weekly_activity_scheduler/weeklyactivityscheduler/core/Spread", "mean", "()D"⟩ : MethodName) prog_28_method_4_code 1 (some .double) :: ws) ({ frames := 0, cells := 0, slots := 0, locals := 0 } : Room)) (fun a U => a = #[(.ref a0)] ∧ Z.Warmed39 U.vm ∧ U.heap = h0) (fun _ _ _ _ _ => True) (fun _ U o U' => ∃ v L, o = .returned v ∧ QMe Z a0 ww tt h0 n0 v U'.heap L ∧ FrameEnd U o U' L ({ frames := 0, cells := 0, slots := 0, locals := 0 } : Room).cells ({ frames := 0, cells := 0, slots := 0, locals := 0 } : Room).slots) := by
  refine MetFree.of_bodySF (plainFor_of_name pnMe) hisR ?_
  intro p e s m args below meth c s₁ Bd hml0 hP hK
  obtain ⟨rfl, hZ, hh⟩ := hP
  have hx := Bd.exec
  have hby := Bd.bytes
  have hlk := BodyLoose.notSynchronized Bd
  have hret := Bd.returns
  have hml : c.maxLocals = 1 := hml0
  have hown : s.vm.findClass "com/example/weekly_activity_scheduler/weeklyactivityscheduler/core/Spread" = some m.cls := findClass_of_methodNamed Bd.named
  have hnm := (name_of_methodNamed Bd.named Bd.method).1
  have X0 : Stand p l e ({ frames := 0, cells := 0, slots := 0, locals := 0 } : Room) s m #[(.ref a0)] below meth c s₁ [] 0 0 := Stand.of_body Bd
  have e0 : s₁.heap = h0 := by rw [← hh, Bd.state]; rfl
  have N0 := Fr.nil n0
  show OFin p e below (KPost s (QMe Z a0 ww tt h0 n0) ({ frames := 0, cells := 0, slots := 0, locals := 0 } : Room).cells ({ frames := 0, cells := 0, slots := 0, locals := 0 } : Room).slots) _
  rw [efMe m a0]
  refine OFin.of (S' := s₁.setTop (mkF m 1 #[.val (.ref a0)] [(.ref a0)])) (fun t ht => ?_) ?_
  · refine XS.aloadN X0.here hx rfl (hb hby dMe_0) rfl rfl ?_
    exact ht
  obtain ⟨T1, X1, e1, st1⟩ := getF X0 hx hZ hown (host := "") (Or.inl (hw _ (List.mem_of_getElem? (i := 11) rfl))) Via.refl e0 F_sum (g := (mkF m 1 #[.val (.ref a0)] [(.ref a0)])) rfl rfl (hb hby dMe_1)
  refine OFin.of (S' := T1.setTop (mkF m 4 #[.val (.ref a0)] [(.long tt)])) (fun t ht => st1 t ht) ?_
  refine OFin.of (S' := T1.setTop (mkF m 6 #[.val (.ref a0)] [(.ref a0), (.double (FP.l2d tt))])) (fun t ht => ?_) ?_
  · refine XS.l2dS X1.here hx rfl (hb hby dMe_4) rfl rfl ?_
    show Steps p.tables e below (T1.setTop (mkF m 5 _ [(.double (FP.l2d tt))])) _
    refine XS.aloadN X1.here hx rfl (hb hby dMe_5) rfl rfl ?_
    exact ht
  obtain ⟨T2, X2, e2, st2⟩ := getF X1 hx hZ hown (host := "") (Or.inl (hw _ (List.mem_of_getElem? (i := 9) rfl))) Via.refl e1 F_replications (g := (mkF m 6 #[.val (.ref a0)] [(.ref a0), (.double (FP.l2d tt))])) rfl rfl (hb hby dMe_6)
  refine OFin.of (S' := T2.setTop (mkF m 9 #[.val (.ref a0)] [(.long ww), (.double (FP.l2d tt))])) (fun t ht => st2 t ht) ?_
  refine OFin.of (S' := T2.setTop (mkF m 11 #[.val (.ref a0)] [(.double (FP.ddiv (FP.l2d tt) (FP.l2d ww)))])) (fun t ht => ?_) ?_
  · refine XS.l2dS X2.here hx rfl (hb hby dMe_9) rfl rfl ?_
    show Steps p.tables e below (T2.setTop (mkF m 10 _ [(.double (FP.l2d ww)), (.double (FP.l2d tt))])) _
    refine XS.ddivS X2.here hx rfl (hb hby dMe_10) rfl (own_nn _ hw0) rfl ?_
    exact ht
  exact OFin.retD X2 hx hlk hret (hb hby dMe_11) (by decide) (by decide) (by rw [e2]; exact ⟨rfl, N0, rfl⟩)
theorem dAd_0 : decode prog_28_method_2_code 0 = .ok (.aload_n 0, 1) := by decide +kernel
theorem dAd_1 : decode prog_28_method_2_code 1 = .ok (.invokevirtual 23, 3) := by decide +kernel
theorem dAd_4 : decode prog_28_method_2_code 4 = .ok (.dstore_n 2, 1) := by decide +kernel
theorem dAd_5 : decode prog_28_method_2_code 5 = .ok (.aload_n 0, 1) := by decide +kernel
theorem dAd_6 : decode prog_28_method_2_code 6 = .ok (.dup, 1) := by decide +kernel
theorem dAd_7 : decode prog_28_method_2_code 7 = .ok (.getfield 7, 3) := by decide +kernel
theorem dAd_10 : decode prog_28_method_2_code 10 = .ok (.lconst 1, 1) := by decide +kernel
theorem dAd_11 : decode prog_28_method_2_code 11 = .ok (.ladd, 1) := by decide +kernel
theorem dAd_12 : decode prog_28_method_2_code 12 = .ok (.putfield 7, 3) := by decide +kernel
theorem dAd_15 : decode prog_28_method_2_code 15 = .ok (.aload_n 0, 1) := by decide +kernel
theorem dAd_16 : decode prog_28_method_2_code 16 = .ok (.dup, 1) := by decide +kernel
theorem dAd_17 : decode prog_28_method_2_code 17 = .ok (.getfield 13, 3) := by decide +kernel
theorem dAd_20 : decode prog_28_method_2_code 20 = .ok (.iload_n 1, 1) := by decide +kernel
theorem dAd_21 : decode prog_28_method_2_code 21 = .ok (.i2l, 1) := by decide +kernel
theorem dAd_22 : decode prog_28_method_2_code 22 = .ok (.ladd, 1) := by decide +kernel
theorem dAd_23 : decode prog_28_method_2_code 23 = .ok (.putfield 13, 3) := by decide +kernel
theorem dAd_26 : decode prog_28_method_2_code 26 = .ok (.aload_n 0, 1) := by decide +kernel
theorem dAd_27 : decode prog_28_method_2_code 27 = .ok (.dup, 1) := by decide +kernel
theorem dAd_28 : decode prog_28_method_2_code 28 = .ok (.getfield 27, 3) := by decide +kernel
theorem dAd_31 : decode prog_28_method_2_code 31 = .ok (.iload_n 1, 1) := by decide +kernel
theorem dAd_32 : decode prog_28_method_2_code 32 = .ok (.i2d, 1) := by decide +kernel
theorem dAd_33 : decode prog_28_method_2_code 33 = .ok (.dload_n 2, 1) := by decide +kernel
theorem dAd_34 : decode prog_28_method_2_code 34 = .ok (.dsub, 1) := by decide +kernel
theorem dAd_35 : decode prog_28_method_2_code 35 = .ok (.iload_n 1, 1) := by decide +kernel
theorem dAd_36 : decode prog_28_method_2_code 36 = .ok (.i2d, 1) := by decide +kernel
theorem dAd_37 : decode prog_28_method_2_code 37 = .ok (.aload_n 0, 1) := by decide +kernel
theorem dAd_38 : decode prog_28_method_2_code 38 = .ok (.invokevirtual 23, 3) := by decide +kernel
theorem dAd_41 : decode prog_28_method_2_code 41 = .ok (.dsub, 1) := by decide +kernel
theorem dAd_42 : decode prog_28_method_2_code 42 = .ok (.dmul, 1) := by decide +kernel
theorem dAd_43 : decode prog_28_method_2_code 43 = .ok (.dadd, 1) := by decide +kernel
theorem dAd_44 : decode prog_28_method_2_code 44 = .ok (.putfield 27, 3) := by decide +kernel
theorem dAd_47 : decode prog_28_method_2_code 47 = .ok (.aload_n 0, 1) := by decide +kernel
theorem dAd_48 : decode prog_28_method_2_code 48 = .ok (.aload_n 0, 1) := by decide +kernel
theorem dAd_49 : decode prog_28_method_2_code 49 = .ok (.getfield 16, 3) := by decide +kernel
theorem dAd_52 : decode prog_28_method_2_code 52 = .ok (.iload_n 1, 1) := by decide +kernel
theorem dAd_53 : decode prog_28_method_2_code 53 = .ok (.invokestatic 31, 3) := by decide +kernel
theorem dAd_56 : decode prog_28_method_2_code 56 = .ok (.putfield 16, 3) := by decide +kernel
theorem dAd_59 : decode prog_28_method_2_code 59 = .ok (.aload_n 0, 1) := by decide +kernel
theorem dAd_60 : decode prog_28_method_2_code 60 = .ok (.aload_n 0, 1) := by decide +kernel
theorem dAd_61 : decode prog_28_method_2_code 61 = .ok (.getfield 20, 3) := by decide +kernel
theorem dAd_64 : decode prog_28_method_2_code 64 = .ok (.iload_n 1, 1) := by decide +kernel
theorem dAd_65 : decode prog_28_method_2_code 65 = .ok (.invokestatic 36, 3) := by decide +kernel
theorem dAd_68 : decode prog_28_method_2_code 68 = .ok (.putfield 20, 3) := by decide +kernel
theorem dAd_71 : decode prog_28_method_2_code 71 = .ok (.return_, 1) := by decide +kernel
theorem pnAd : plainName "com/example/weekly_activity_scheduler/weeklyactivityscheduler/core/Spread" = true := by first | (simp [plainName, overriddenIn]; done) | decide +kernel
theorem efAd (m : MethodId) (a0 : Addr) (p1 : Int32) : entryFrame m #[(.ref a0), (.int p1)] 4 = mkF m 0 #[.val (.ref a0), .val (.int p1), .unset, .unset] [] := by first | (simp [entryFrame, mkF, argsToLocals, Value.category]; done) | rfl
def QAd (Z : State) (a0 : Addr) (p1 : Int32) (ww : Int64) (tt : Int64) (mi : Int32) (ma : Int32) (sd : UInt64) (K : Nat) (h0 : Heap) (n0 : Nat) (v : Option Value) (h : Heap) (L : List Loc) : Prop := v = none ∧ Fr n0 L ∧ Keep h0 h [a0] ∧ Fld Z h a0 "com/example/weekly_activity_scheduler/weeklyactivityscheduler/core/Spread" "replications" "J" (.long (ww + (1 : Int64))) ∧ Fld Z h a0 "com/example/weekly_activity_scheduler/weeklyactivityscheduler/core/Spread" "sum" "J" (.long (tt + (p1.toInt64))) ∧ Fld Z h a0 "com/example/weekly_activity_scheduler/weeklyactivityscheduler/core/Spread" "min" "I" (.int (own_min mi p1)) ∧ Fld Z h a0 "com/example/weekly_activity_scheduler/weeklyactivityscheduler/core/Spread" "max" "I" (.int (own_max ma p1)) ∧ Fld Z h a0 "com/example/weekly_activity_scheduler/weeklyactivityscheduler/core/Spread" "squaredDeviations" "D" (.double (FP.dadd sd (FP.dmul (FP.dsub (FP.i2d p1) (FP.ddiv (FP.l2d tt) (FP.l2d ww))) (FP.dsub (FP.i2d p1) (FP.ddiv (FP.l2d (tt + (p1.toInt64))) (FP.l2d (ww + (1 : Int64))))))))
set_option maxRecDepth 65536 in
set_option maxHeartbeats 40000000 in
theorem rmAd (l : Launch) (Z : State) (a0 : Array Value) (hw : ∀ d ∈ tables_1, d.before a0 Z = true) (ws : List Jvm.Cond) (a0 : Addr) (p1 : Int32) (ww : Int64) (tt : Int64) (mi : Int32) (ma : Int32) (sd : UInt64) (K : Nat) (h0 : Heap) (n0 : Nat) (Z0 : n0 ≤ h0.size) (E0 : Exa Z h0 a0 "com/example/weekly_activity_scheduler/weeklyactivityscheduler/core/Spread") (F_replications : Fld Z h0 a0 "com/example/weekly_activity_scheduler/weeklyactivityscheduler/core/Spread" "replications" "J" (.long ww)) (F_sum : Fld Z h0 a0 "com/example/weekly_activity_scheduler/weeklyactivityscheduler/core/Spread" "sum" "J" (.long tt)) (F_min : Fld Z h0 a0 "com/example/weekly_activity_scheduler/weeklyactivityscheduler/core/Spread" "min" "I" (.int mi)) (F_max : Fld Z h0 a0 "com/example/weekly_activity_scheduler/weeklyactivityscheduler/core/Spread" "max" "I" (.int ma)) (F_squaredDeviations : Fld Z h0 a0 "com/example/weekly_activity_scheduler/weeklyactivityscheduler/core/Spread" "squaredDeviations" "D" (.double sd)) (g0 : n0 ≤ a0) (hw0 : ww ≠ 0) (hw1 : (ww + (1 : Int64)) ≠ 0) (hsd : OwnMag K sd) (hk1 : 1160 ≤ K) (hk2 : K ≤ 2000) :
    MetFree l (⟨"com/example/weekly_activity_scheduler/weeklyactivityscheduler/core/Spread", "add", "(I)V"⟩ : MethodName) (head1 (Jvm.Cond.code (⟨"com/example/weekly_activity_scheduler/weeklyactivityscheduler/core/Spread", "add", "(I)V"⟩ : MethodName) prog_28_method_2_code 4 none :: ws) ({ frames := 1, cells := 0, slots := 0, locals := 19 } : Room)) (fun a U => a = #[(.ref a0), (.int p1)] ∧ Z.Warmed39 U.vm ∧ U.heap = h0) (fun _ _ _ _ _ => True) (fun _ U o U' => ∃ v L, o = .returned v ∧ QAd Z a0 p1 ww tt mi ma sd K h0 n0 v U'.heap L ∧ FrameEnd U o U' L ({ frames := 1, cells := 0, slots := 0, locals := 19 } : Room).cells ({ frames := 1, cells := 0, slots := 0, locals := 19 } : Room).slots) := by
  refine MetFree.of_bodySF (plainFor_of_name pnAd) hisR ?_
  intro p e s m args below meth c s₁ Bd hml0 hP hK
  obtain ⟨rfl, hZ, hh⟩ := hP
  have hx := Bd.exec
  have hby := Bd.bytes
  have hlk := BodyLoose.notSynchronized Bd
  have hret := Bd.returns
  have hml : c.maxLocals = 4 := hml0
  have hown : s.vm.findClass "com/example/weekly_activity_scheduler/weeklyactivityscheduler/core/Spread" = some m.cls := findClass_of_methodNamed Bd.named
  have hnm := (name_of_methodNamed Bd.named Bd.method).1
  have X0 : Stand p l e ({ frames := 1, cells := 0, slots := 0, locals := 19 } : Room) s m #[(.ref a0), (.int p1)] below meth c s₁ [] 0 0 := Stand.of_body Bd
  have e0 : s₁.heap = h0 := by rw [← hh, Bd.state]; rfl
  have N0 := Fr.nil n0
  show OFin p e below (KPost s (QAd Z a0 p1 ww tt mi ma sd K h0 n0) ({ frames := 1, cells := 0, slots := 0, locals := 19 } : Room).cells ({ frames := 1, cells := 0, slots := 0, locals := 19 } : Room).slots) _
  rw [efAd m a0 p1]
  have K0 : Keep h0 h0 [a0] := Keep.refl _ _
  refine OFin.of (S' := s₁.setTop (mkF m 1 #[.val (.ref a0), .val (.int p1), .unset, .unset] [(.ref a0)])) (fun t ht => ?_) ?_
  · refine XS.aloadN X0.here hx rfl (hb hby dAd_0) rfl rfl ?_
    exact ht
  obtain ⟨cq2, kq2, q2a, q2b, q2c⟩ := isOf hZ e0 E0
  obtain ⟨_, _, ⟨T1, L1, k1, n1⟩, -, X1, ⟨Lc1, hQ1, l1, y1, z1⟩, st1⟩ := X0.virtualBack hx (y := (⟨"com/example/weekly_activity_scheduler/weeklyactivityscheduler/core/Spread", "mean", "()D"⟩ : MethodName)) (z := (⟨"com/example/weekly_activity_scheduler/weeklyactivityscheduler/core/Spread", "mean", "()D"⟩ : MethodName)) hown (mvT hZ (hw _ (List.mem_of_getElem? (i := 27) rfl))) (mvT hZ (hw _ (List.mem_of_getElem? (i := 18) rfl))) (notFace_of_selects (args := #[]) (mvT hZ (hw _ (List.mem_of_getElem? (i := 20) rfl)))) (mvT hZ (hw _ (List.mem_of_getElem? (i := 20) rfl))) (mvT hZ (hw _ (List.mem_of_getElem? (i := 19) rfl))) (by decide) (backOf (W := 0) (rmMe l Z _ hw [] a0 ww tt h0 n0 Z0 F_replications F_sum hw0) hZ (hw _ (List.mem_of_getElem? (i := 21) rfl)) (hw _ (List.mem_of_getElem? (i := 2) rfl)) (by decide) (by decide)) q2a q2c (g := (mkF m 1 #[.val (.ref a0), .val (.int p1), .unset, .unset] [(.ref a0)])) rfl (by rw [hml]; rfl) (Steps.refl _) (argsL := []) (rest := []) (lenOf pd_0 rfl) rfl (by show 2 * 0 + _ ≤ _; exact Nat.le_of_eq rfl) (hb hby dAd_1) (fun _ _ => ⟨rfl, e0, (by decide : 0 + 0 ≤ _), (by decide : 0 + 0 ≤ _)⟩)
  dsimp only [Pt.U, Pt.locs, Pt.cells, Pt.slots] at X1 l1 y1 z1 st1 hQ1
  subst l1 y1 z1
  obtain ⟨rfl, Nq1, hs1⟩ := hQ1
  have N3 := Fr.app N0 Nq1
  refine OFin.to (S' := T1.setTop (mkF m 4 #[.val (.ref a0), .val (.int p1), .unset, .unset] [(.double (FP.ddiv (FP.l2d tt) (FP.l2d ww)))])) st1 ?_
  refine OFin.of (S' := T1.setTop (mkF m 7 #[.val (.ref a0), .val (.int p1), .val (.double (FP.ddiv (FP.l2d tt) (FP.l2d ww))), .second] [(.ref a0), (.ref a0)])) (fun t ht => ?_) ?_
  · refine XS.dstoreN X1.here hx rfl (hb hby dAd_4) rfl (l' := #[.val (.ref a0), .val (.int p1), .val (.double (FP.ddiv (FP.l2d tt) (FP.l2d ww))), .second]) rfl ?_
    show Steps p.tables e below (T1.setTop (mkF m 5 #[.val (.ref a0), .val (.int p1), .val (.double (FP.ddiv (FP.l2d tt) (FP.l2d ww))), .second] [])) _
    refine XS.aloadN X1.here hx rfl (hb hby dAd_5) rfl rfl ?_
    show Steps p.tables e below (T1.setTop (mkF m 6 _ [(.ref a0)])) _
    refine XS.dup X1.here hx rfl (hb hby dAd_6) rfl rfl ?_
    exact ht
  obtain ⟨T4, X4, e4, st4⟩ := getF X1 hx hZ hown (host := "") (Or.inl (hw _ (List.mem_of_getElem? (i := 9) rfl))) Via.refl hs1 F_replications (g := (mkF m 7 #[.val (.ref a0), .val (.int p1), .val (.double (FP.ddiv (FP.l2d tt) (FP.l2d ww))), .second] [(.ref a0), (.ref a0)])) rfl rfl (hb hby dAd_7)
  refine OFin.of (S' := T4.setTop (mkF m 10 #[.val (.ref a0), .val (.int p1), .val (.double (FP.ddiv (FP.l2d tt) (FP.l2d ww))), .second] [(.long ww), (.ref a0)])) (fun t ht => st4 t ht) ?_
  refine OFin.of (S' := T4.setTop (mkF m 12 #[.val (.ref a0), .val (.int p1), .val (.double (FP.ddiv (FP.l2d tt) (FP.l2d ww))), .second] [(.long (ww + (1 : Int64))), (.ref a0)])) (fun t ht => ?_) ?_
  · refine XS.lconst X4.here hx rfl (hb hby dAd_10) ?_
    show Steps p.tables e below (T4.setTop (mkF m 11 _ [(.long (1 : Int64)), (.long ww), (.ref a0)])) _
    refine XS.ladd X4.here hx rfl (hb hby dAd_11) rfl ?_
    exact ht
  obtain ⟨T5, h5, X5, e5, W5, st5⟩ := putF X4 hx hZ hown (host := "") (Or.inl (hw _ (List.mem_of_getElem? (i := 9) rfl))) Via.refl e4 F_replications E0 (Or.inl (hw _ (List.mem_of_getElem? (i := 10) rfl))) (hw _ (List.mem_of_getElem? (i := 1) rfl)) (ty := .long) (by decide) rfl rfl (g := (mkF m 12 #[.val (.ref a0), .val (.int p1), .val (.double (FP.ddiv (FP.l2d tt) (FP.l2d ww))), .second] [(.long (ww + (1 : Int64))), (.ref a0)])) rfl rfl (hb hby dAd_12)
  have f6 := (E0.wr W5)
  have f7 := (F_sum.other W5 (Or.inr (slot_ne (Or.inl (hw _ (List.mem_of_getElem? (i := 12) rfl))) (Or.inl (hw _ (List.mem_of_getElem? (i := 10) rfl))) (by decide) (t := .long) (t' := .long) (by decide) (by decide))))
  have f8 := (F_min.other W5 (Or.inr (slot_ne (Or.inl (hw _ (List.mem_of_getElem? (i := 14) rfl))) (Or.inl (hw _ (List.mem_of_getElem? (i := 10) rfl))) (by decide) (t := .int) (t' := .long) (by decide) (by decide))))
  have f9 := (F_max.other W5 (Or.inr (slot_ne (Or.inl (hw _ (List.mem_of_getElem? (i := 16) rfl))) (Or.inl (hw _ (List.mem_of_getElem? (i := 10) rfl))) (by decide) (t := .int) (t' := .long) (by decide) (by decide))))
  have f10 := (F_squaredDeviations.other W5 (Or.inr (slot_ne (Or.inl (hw _ (List.mem_of_getElem? (i := 29) rfl))) (Or.inl (hw _ (List.mem_of_getElem? (i := 10) rfl))) (by decide) (t := .double) (t' := .long) (by decide) (by decide))))
  have Z11 : n0 ≤ h5.size := (Nat.le_trans Z0 (Keep.of_wr W5).1)
  have K12 : Keep h0 h5 [a0] := (K0.wr W5 (Or.inl (List.mem_of_getElem? (i := 0) rfl)))
  have N13 := Fr.snoc X5 N3 g0
  have f14 : Fld Z h5 a0 "com/example/weekly_activity_scheduler/weeklyactivityscheduler/core/Spread" "replications" "J" (.long (ww + (1 : Int64))) := (F_replications.same W5)
  refine OFin.of (S' := T5.setTop (mkF m 15 #[.val (.ref a0), .val (.int p1), .val (.double (FP.ddiv (FP.l2d tt) (FP.l2d ww))), .second] [])) (fun t ht => st5 t ht) ?_
  refine OFin.of (S' := T5.setTop (mkF m 17 #[.val (.ref a0), .val (.int p1), .val (.double (FP.ddiv (FP.l2d tt) (FP.l2d ww))), .second] [(.ref a0), (.ref a0)])) (fun t ht => ?_) ?_
  · refine XS.aloadN X5.here hx rfl (hb hby dAd_15) rfl rfl ?_
    show Steps p.tables e below (T5.setTop (mkF m 16 _ [(.ref a0)])) _
    refine XS.dup X5.here hx rfl (hb hby dAd_16) rfl rfl ?_
    exact ht
  obtain ⟨T15, X15, e15, st15⟩ := getF X5 hx hZ hown (host := "") (Or.inl (hw _ (List.mem_of_getElem? (i := 11) rfl))) Via.refl e5 f7 (g := (mkF m 17 #[.val (.ref a0), .val (.int p1), .val (.double (FP.ddiv (FP.l2d tt) (FP.l2d ww))), .second] [(.ref a0), (.ref a0)])) rfl rfl (hb hby dAd_17)
  refine OFin.of (S' := T15.setTop (mkF m 20 #[.val (.ref a0), .val (.int p1), .val (.double (FP.ddiv (FP.l2d tt) (FP.l2d ww))), .second] [(.long tt), (.ref a0)])) (fun t ht => st15 t ht) ?_
  refine OFin.of (S' := T15.setTop (mkF m 23 #[.val (.ref a0), .val (.int p1), .val (.double (FP.ddiv (FP.l2d tt) (FP.l2d ww))), .second] [(.long (tt + (p1.toInt64))), (.ref a0)])) (fun t ht => ?_) ?_
  · refine XS.iloadN X15.here hx rfl (hb hby dAd_20) rfl ?_
    show Steps p.tables e below (T15.setTop (mkF m 21 _ [(.int p1), (.long tt), (.ref a0)])) _
    refine XS.i2l X15.here hx rfl (hb hby dAd_21) rfl ?_
    show Steps p.tables e below (T15.setTop (mkF m 22 _ [(.long (p1.toInt64)), (.long tt), (.ref a0)])) _
    refine XS.ladd X15.here hx rfl (hb hby dAd_22) rfl ?_
    exact ht
  obtain ⟨T16, h16, X16, e16, W16, st16⟩ := putF X15 hx hZ hown (host := "") (Or.inl (hw _ (List.mem_of_getElem? (i := 11) rfl))) Via.refl e15 f7 f6 (Or.inl (hw _ (List.mem_of_getElem? (i := 12) rfl))) (hw _ (List.mem_of_getElem? (i := 1) rfl)) (ty := .long) (by decide) rfl rfl (g := (mkF m 23 #[.val (.ref a0), .val (.int p1), .val (.double (FP.ddiv (FP.l2d tt) (FP.l2d ww))), .second] [(.long (tt + (p1.toInt64))), (.ref a0)])) rfl rfl (hb hby dAd_23)
  have f17 := (f6.wr W16)
  have f18 := (f8.other W16 (Or.inr (slot_ne (Or.inl (hw _ (List.mem_of_getElem? (i := 14) rfl))) (Or.inl (hw _ (List.mem_of_getElem? (i := 12) rfl))) (by decide) (t := .int) (t' := .long) (by decide) (by decide))))
  have f19 := (f9.other W16 (Or.inr (slot_ne (Or.inl (hw _ (List.mem_of_getElem? (i := 16) rfl))) (Or.inl (hw _ (List.mem_of_getElem? (i := 12) rfl))) (by decide) (t := .int) (t' := .long) (by decide) (by decide))))
  have f20 := (f10.other W16 (Or.inr (slot_ne (Or.inl (hw _ (List.mem_of_getElem? (i := 29) rfl))) (Or.inl (hw _ (List.mem_of_getElem? (i := 12) rfl))) (by decide) (t := .double) (t' := .long) (by decide) (by decide))))
  have f21 := (f14.other W16 (Or.inr (slot_ne (Or.inl (hw _ (List.mem_of_getElem? (i := 10) rfl))) (Or.inl (hw _ (List.mem_of_getElem? (i := 12) rfl))) (by decide) (t := .long) (t' := .long) (by decide) (by decide))))
  have Z22 : n0 ≤ h16.size := (Nat.le_trans Z11 (Keep.of_wr W16).1)
  have K23 : Keep h0 h16 [a0] := (K12.wr W16 (Or.inl (List.mem_of_getElem? (i := 0) rfl)))
  have N24 := Fr.snoc X16 N13 g0
  have f25 : Fld Z h16 a0 "com/example/weekly_activity_scheduler/weeklyactivityscheduler/core/Spread" "sum" "J" (.long (tt + (p1.toInt64))) := (f7.same W16)
  refine OFin.of (S' := T16.setTop (mkF m 26 #[.val (.ref a0), .val (.int p1), .val (.double (FP.ddiv (FP.l2d tt) (FP.l2d ww))), .second] [])) (fun t ht => st16 t ht) ?_
  refine OFin.of (S' := T16.setTop (mkF m 28 #[.val (.ref a0), .val (.int p1), .val (.double (FP.ddiv (FP.l2d tt) (FP.l2d ww))), .second] [(.ref a0), (.ref a0)])) (fun t ht => ?_) ?_
  · refine XS.aloadN X16.here hx rfl (hb hby dAd_26) rfl rfl ?_
    show Steps p.tables e below (T16.setTop (mkF m 27 _ [(.ref a0)])) _
    refine XS.dup X16.here hx rfl (hb hby dAd_27) rfl rfl ?_
    exact ht
  obtain ⟨T26, X26, e26, st26⟩ := getF X16 hx hZ hown (host := "") (Or.inl (hw _ (List.mem_of_getElem? (i := 28) rfl))) Via.refl e16 f20 (g := (mkF m 28 #[.val (.ref a0), .val (.int p1), .val (.double (FP.ddiv (FP.l2d tt) (FP.l2d ww))), .second] [(.ref a0), (.ref a0)])) rfl rfl (hb hby dAd_28)
  refine OFin.of (S' := T26.setTop (mkF m 31 #[.val (.ref a0), .val (.int p1), .val (.double (FP.ddiv (FP.l2d tt) (FP.l2d ww))), .second] [(.double sd), (.ref a0)])) (fun t ht => st26 t ht) ?_
  refine OFin.of (S' := T26.setTop (mkF m 38 #[.val (.ref a0), .val (.int p1), .val (.double (FP.ddiv (FP.l2d tt) (FP.l2d ww))), .second] [(.ref a0), (.double (FP.i2d p1)), (.double (FP.dsub (FP.i2d p1) (FP.ddiv (FP.l2d tt) (FP.l2d ww)))), (.double sd), (.ref a0)])) (fun t ht => ?_) ?_
  · refine XS.iloadN X26.here hx rfl (hb hby dAd_31) rfl ?_
    show Steps p.tables e below (T26.setTop (mkF m 32 _ [(.int p1), (.double sd), (.ref a0)])) _
    refine XS.i2dS X26.here hx rfl (hb hby dAd_32) rfl rfl ?_
    show Steps p.tables e below (T26.setTop (mkF m 33 _ [(.double (FP.i2d p1)), (.double sd), (.ref a0)])) _
    refine XS.dloadN X26.here hx rfl (hb hby dAd_33) rfl ?_
    show Steps p.tables e below (T26.setTop (mkF m 34 _ [(.double (FP.ddiv (FP.l2d tt) (FP.l2d ww))), (.double (FP.i2d p1)), (.double sd), (.ref a0)])) _
    refine XS.dsubS X26.here hx rfl (hb hby dAd_34) rfl (own_n1 _ _ hw0) rfl ?_
    show Steps p.tables e below (T26.setTop (mkF m 35 _ [(.double (FP.dsub (FP.i2d p1) (FP.ddiv (FP.l2d tt) (FP.l2d ww)))), (.double sd), (.ref a0)])) _
    refine XS.iloadN X26.here hx rfl (hb hby dAd_35) rfl ?_
    show Steps p.tables e below (T26.setTop (mkF m 36 _ [(.int p1), (.double (FP.dsub (FP.i2d p1) (FP.ddiv (FP.l2d tt) (FP.l2d ww)))), (.double sd), (.ref a0)])) _
    refine XS.i2dS X26.here hx rfl (hb hby dAd_36) rfl rfl ?_
    show Steps p.tables e below (T26.setTop (mkF m 37 _ [(.double (FP.i2d p1)), (.double (FP.dsub (FP.i2d p1) (FP.ddiv (FP.l2d tt) (FP.l2d ww)))), (.double sd), (.ref a0)])) _
    refine XS.aloadN X26.here hx rfl (hb hby dAd_37) rfl rfl ?_
    exact ht
  obtain ⟨cq28, kq28, q28a, q28b, q28c⟩ := isOf hZ e26 f17
  obtain ⟨_, _, ⟨T27, L27, k27, n27⟩, -, X27, ⟨Lc27, hQ27, l27, y27, z27⟩, st27⟩ := X26.virtualBack hx (y := (⟨"com/example/weekly_activity_scheduler/weeklyactivityscheduler/core/Spread", "mean", "()D"⟩ : MethodName)) (z := (⟨"com/example/weekly_activity_scheduler/weeklyactivityscheduler/core/Spread", "mean", "()D"⟩ : MethodName)) hown (mvT hZ (hw _ (List.mem_of_getElem? (i := 27) rfl))) (mvT hZ (hw _ (List.mem_of_getElem? (i := 18) rfl))) (notFace_of_selects (args := #[]) (mvT hZ (hw _ (List.mem_of_getElem? (i := 20) rfl)))) (mvT hZ (hw _ (List.mem_of_getElem? (i := 20) rfl))) (mvT hZ (hw _ (List.mem_of_getElem? (i := 19) rfl))) (by decide) (backOf (W := 7) (rmMe l Z _ hw [] a0 (ww + (1 : Int64)) (tt + (p1.toInt64)) h16 n0 Z22 f21 f25 hw1) hZ (hw _ (List.mem_of_getElem? (i := 21) rfl)) (hw _ (List.mem_of_getElem? (i := 2) rfl)) (by decide) (by decide)) q28a q28c (g := (mkF m 38 #[.val (.ref a0), .val (.int p1), .val (.double (FP.ddiv (FP.l2d tt) (FP.l2d ww))), .second] [(.ref a0), (.double (FP.i2d p1)), (.double (FP.dsub (FP.i2d p1) (FP.ddiv (FP.l2d tt) (FP.l2d ww)))), (.double sd), (.ref a0)])) rfl (by rw [hml]; rfl) (Steps.refl _) (argsL := []) (rest := [(.double (FP.i2d p1)), (.double (FP.dsub (FP.i2d p1) (FP.ddiv (FP.l2d tt) (FP.l2d ww)))), (.double sd), (.ref a0)]) (lenOf pd_0 rfl) rfl (by show 2 * 0 + _ ≤ _; exact Nat.le_of_eq rfl) (hb hby dAd_38) (fun _ _ => ⟨rfl, e26, (by decide : 0 + 0 ≤ _), (by decide : 0 + 0 ≤ _)⟩)
  dsimp only [Pt.U, Pt.locs, Pt.cells, Pt.slots] at X27 l27 y27 z27 st27 hQ27
  subst l27 y27 z27
  obtain ⟨rfl, Nq27, hs27⟩ := hQ27
  have N29 := Fr.app N24 Nq27
  refine OFin.to (S' := T27.setTop (mkF m 41 #[.val (.ref a0), .val (.int p1), .val (.double (FP.ddiv (FP.l2d tt) (FP.l2d ww))), .second] [(.double (FP.ddiv (FP.l2d (tt + (p1.toInt64))) (FP.l2d (ww + (1 : Int64))))), (.double (FP.i2d p1)), (.double (FP.dsub (FP.i2d p1) (FP.ddiv (FP.l2d tt) (FP.l2d ww)))), (.double sd), (.ref a0)])) st27 ?_
  refine OFin.of (S' := T27.setTop (mkF m 44 #[.val (.ref a0), .val (.int p1), .val (.double (FP.ddiv (FP.l2d tt) (FP.l2d ww))), .second] [(.double (FP.dadd sd (FP.dmul (FP.dsub (FP.i2d p1) (FP.ddiv (FP.l2d tt) (FP.l2d ww))) (FP.dsub (FP.i2d p1) (FP.ddiv (FP.l2d (tt + (p1.toInt64))) (FP.l2d (ww + (1 : Int64)))))))), (.ref a0)])) (fun t ht => ?_) ?_
  · refine XS.dsubS X27.here hx rfl (hb hby dAd_41) rfl (own_n1 _ _ hw1) rfl ?_
    show Steps p.tables e below (T27.setTop (mkF m 42 _ [(.double (FP.dsub (FP.i2d p1) (FP.ddiv (FP.l2d (tt + (p1.toInt64))) (FP.l2d (ww + (1 : Int64)))))), (.double (FP.dsub (FP.i2d p1) (FP.ddiv (FP.l2d tt) (FP.l2d ww)))), (.double sd), (.ref a0)])) _
    refine XS.dmulS X27.here hx rfl (hb hby dAd_42) rfl (own_n2 _ _ _ hw0 hw1) rfl ?_
    show Steps p.tables e below (T27.setTop (mkF m 43 _ [(.double (FP.dmul (FP.dsub (FP.i2d p1) (FP.ddiv (FP.l2d tt) (FP.l2d ww))) (FP.dsub (FP.i2d p1) (FP.ddiv (FP.l2d (tt + (p1.toInt64))) (FP.l2d (ww + (1 : Int64))))))), (.double sd), (.ref a0)])) _
    refine XS.daddS X27.here hx rfl (hb hby dAd_43) rfl (own_n3 _ _ _ hsd hw0 hw1 hk1 hk2) rfl ?_
    exact ht
  obtain ⟨T30, h30, X30, e30, W30, st30⟩ := putF X27 hx hZ hown (host := "") (Or.inl (hw _ (List.mem_of_getElem? (i := 28) rfl))) Via.refl hs27 f20 f17 (Or.inl (hw _ (List.mem_of_getElem? (i := 29) rfl))) (hw _ (List.mem_of_getElem? (i := 1) rfl)) (ty := .double) (by decide) rfl rfl (g := (mkF m 44 #[.val (.ref a0), .val (.int p1), .val (.double (FP.ddiv (FP.l2d tt) (FP.l2d ww))), .second] [(.double (FP.dadd sd (FP.dmul (FP.dsub (FP.i2d p1) (FP.ddiv (FP.l2d tt) (FP.l2d ww))) (FP.dsub (FP.i2d p1) (FP.ddiv (FP.l2d (tt + (p1.toInt64))) (FP.l2d (ww + (1 : Int64)))))))), (.ref a0)])) rfl rfl (hb hby dAd_44)
  have f31 := (f17.wr W30)
  have f32 := (f18.other W30 (Or.inr (slot_ne (Or.inl (hw _ (List.mem_of_getElem? (i := 14) rfl))) (Or.inl (hw _ (List.mem_of_getElem? (i := 29) rfl))) (by decide) (t := .int) (t' := .double) (by decide) (by decide))))
  have f33 := (f19.other W30 (Or.inr (slot_ne (Or.inl (hw _ (List.mem_of_getElem? (i := 16) rfl))) (Or.inl (hw _ (List.mem_of_getElem? (i := 29) rfl))) (by decide) (t := .int) (t' := .double) (by decide) (by decide))))
  have f34 := (f21.other W30 (Or.inr (slot_ne (Or.inl (hw _ (List.mem_of_getElem? (i := 10) rfl))) (Or.inl (hw _ (List.mem_of_getElem? (i := 29) rfl))) (by decide) (t := .long) (t' := .double) (by decide) (by decide))))
  have f35 := (f25.other W30 (Or.inr (slot_ne (Or.inl (hw _ (List.mem_of_getElem? (i := 12) rfl))) (Or.inl (hw _ (List.mem_of_getElem? (i := 29) rfl))) (by decide) (t := .long) (t' := .double) (by decide) (by decide))))
  have Z36 : n0 ≤ h30.size := (Nat.le_trans Z22 (Keep.of_wr W30).1)
  have K37 : Keep h0 h30 [a0] := (K23.wr W30 (Or.inl (List.mem_of_getElem? (i := 0) rfl)))
  have N38 := Fr.snoc X30 N29 g0
  have f39 : Fld Z h30 a0 "com/example/weekly_activity_scheduler/weeklyactivityscheduler/core/Spread" "squaredDeviations" "D" (.double (FP.dadd sd (FP.dmul (FP.dsub (FP.i2d p1) (FP.ddiv (FP.l2d tt) (FP.l2d ww))) (FP.dsub (FP.i2d p1) (FP.ddiv (FP.l2d (tt + (p1.toInt64))) (FP.l2d (ww + (1 : Int64)))))))) := (f20.same W30)
  refine OFin.of (S' := T30.setTop (mkF m 47 #[.val (.ref a0), .val (.int p1), .val (.double (FP.ddiv (FP.l2d tt) (FP.l2d ww))), .second] [])) (fun t ht => st30 t ht) ?_
  refine OFin.of (S' := T30.setTop (mkF m 49 #[.val (.ref a0), .val (.int p1), .val (.double (FP.ddiv (FP.l2d tt) (FP.l2d ww))), .second] [(.ref a0), (.ref a0)])) (fun t ht => ?_) ?_
  · refine XS.aloadN X30.here hx rfl (hb hby dAd_47) rfl rfl ?_
    show Steps p.tables e below (T30.setTop (mkF m 48 _ [(.ref a0)])) _
    refine XS.aloadN X30.here hx rfl (hb hby dAd_48) rfl rfl ?_
    exact ht
  obtain ⟨T40, X40, e40, st40⟩ := getF X30 hx hZ hown (host := "") (Or.inl (hw _ (List.mem_of_getElem? (i := 13) rfl))) Via.refl e30 f32 (g := (mkF m 49 #[.val (.ref a0), .val (.int p1), .val (.double (FP.ddiv (FP.l2d tt) (FP.l2d ww))), .second] [(.ref a0), (.ref a0)])) rfl rfl (hb hby dAd_49)
  refine OFin.of (S' := T40.setTop (mkF m 52 #[.val (.ref a0), .val (.int p1), .val (.double (FP.ddiv (FP.l2d tt) (FP.l2d ww))), .second] [(.int mi), (.ref a0)])) (fun t ht => st40 t ht) ?_
  refine OFin.of (S' := T40.setTop (mkF m 53 #[.val (.ref a0), .val (.int p1), .val (.double (FP.ddiv (FP.l2d tt) (FP.l2d ww))), .second] [(.int p1), (.int mi), (.ref a0)])) (fun t ht => ?_) ?_
  · refine XS.iloadN X40.here hx rfl (hb hby dAd_52) rfl ?_
    exact ht
  obtain ⟨_, _, ⟨T41, L41, k41, n41⟩, -, X41, ⟨Lc41, hQ41, l41, y41, z41⟩, st41⟩ := Jvm.LawKit.callS X40 hx (y := (⟨"java/lang/Math", "min", "(II)I"⟩ : MethodName)) hown (mvT hZ (hw _ (List.mem_of_getElem? (i := 30) rfl))) (mvT hZ (hw _ (List.mem_of_getElem? (i := 31) rfl))) (mvT hZ (hw _ (List.mem_of_getElem? (i := 32) rfl))) (mvT hZ (hw _ (List.mem_of_getElem? (i := 33) rfl))) (by decide) (backOf (W := 1) (rmMn l Z _ hw [] mi p1 h30 n0 Z36 ) hZ (hw _ (List.mem_of_getElem? (i := 33) rfl)) (hw _ (List.mem_of_getElem? (i := 32) rfl)) (by decide) (by decide)) (g := (mkF m 53 #[.val (.ref a0), .val (.int p1), .val (.double (FP.ddiv (FP.l2d tt) (FP.l2d ww))), .second] [(.int p1), (.int mi), (.ref a0)])) rfl (by rw [hml]; rfl) (argsL := [(.int mi), (.int p1)]) (rest := [(.ref a0)]) (lenOf pd_1 rfl) rfl (by show 2 * 0 + _ ≤ _; exact Nat.le_of_eq rfl) (hb hby dAd_53) (fun _ _ => ⟨rfl, e40, (by decide : 0 + 0 ≤ _), (by decide : 0 + 0 ≤ _)⟩)
  dsimp only [Pt.U, Pt.locs, Pt.cells, Pt.slots] at X41 l41 y41 z41 st41 hQ41
  subst l41 y41 z41
  obtain ⟨rfl, Nq41, hs41⟩ := hQ41
  have N42 := Fr.app N38 Nq41
  refine OFin.of (S' := T41.setTop (mkF m 56 #[.val (.ref a0), .val (.int p1), .val (.double (FP.ddiv (FP.l2d tt) (FP.l2d ww))), .second] [(.int (own_min mi p1)), (.ref a0)])) (fun t ht => st41 t ht) ?_
  obtain ⟨T43, h43, X43, e43, W43, st43⟩ := putF X41 hx hZ hown (host := "") (Or.inl (hw _ (List.mem_of_getElem? (i := 13) rfl))) Via.refl hs41 f32 f31 (Or.inl (hw _ (List.mem_of_getElem? (i := 14) rfl))) (hw _ (List.mem_of_getElem? (i := 1) rfl)) (ty := .int) (by decide) rfl rfl (g := (mkF m 56 #[.val (.ref a0), .val (.int p1), .val (.double (FP.ddiv (FP.l2d tt) (FP.l2d ww))), .second] [(.int (own_min mi p1)), (.ref a0)])) rfl rfl (hb hby dAd_56)
  have f44 := (f31.wr W43)
  have f45 := (f33.other W43 (Or.inr (slot_ne (Or.inl (hw _ (List.mem_of_getElem? (i := 16) rfl))) (Or.inl (hw _ (List.mem_of_getElem? (i := 14) rfl))) (by decide) (t := .int) (t' := .int) (by decide) (by decide))))
  have f46 := (f34.other W43 (Or.inr (slot_ne (Or.inl (hw _ (List.mem_of_getElem? (i := 10) rfl))) (Or.inl (hw _ (List.mem_of_getElem? (i := 14) rfl))) (by decide) (t := .long) (t' := .int) (by decide) (by decide))))
  have f47 := (f35.other W43 (Or.inr (slot_ne (Or.inl (hw _ (List.mem_of_getElem? (i := 12) rfl))) (Or.inl (hw _ (List.mem_of_getElem? (i := 14) rfl))) (by decide) (t := .long) (t' := .int) (by decide) (by decide))))
  have f48 := (f39.other W43 (Or.inr (slot_ne (Or.inl (hw _ (List.mem_of_getElem? (i := 29) rfl))) (Or.inl (hw _ (List.mem_of_getElem? (i := 14) rfl))) (by decide) (t := .double) (t' := .int) (by decide) (by decide))))
  have Z49 : n0 ≤ h43.size := (Nat.le_trans Z36 (Keep.of_wr W43).1)
  have K50 : Keep h0 h43 [a0] := (K37.wr W43 (Or.inl (List.mem_of_getElem? (i := 0) rfl)))
  have N51 := Fr.snoc X43 N42 g0
  have f52 : Fld Z h43 a0 "com/example/weekly_activity_scheduler/weeklyactivityscheduler/core/Spread" "min" "I" (.int (own_min mi p1)) := (f32.same W43)
  refine OFin.of (S' := T43.setTop (mkF m 59 #[.val (.ref a0), .val (.int p1), .val (.double (FP.ddiv (FP.l2d tt) (FP.l2d ww))), .second] [])) (fun t ht => st43 t ht) ?_
  refine OFin.of (S' := T43.setTop (mkF m 61 #[.val (.ref a0), .val (.int p1), .val (.double (FP.ddiv (FP.l2d tt) (FP.l2d ww))), .second] [(.ref a0), (.ref a0)])) (fun t ht => ?_) ?_
  · refine XS.aloadN X43.here hx rfl (hb hby dAd_59) rfl rfl ?_
    show Steps p.tables e below (T43.setTop (mkF m 60 _ [(.ref a0)])) _
    refine XS.aloadN X43.here hx rfl (hb hby dAd_60) rfl rfl ?_
    exact ht
  obtain ⟨T53, X53, e53, st53⟩ := getF X43 hx hZ hown (host := "") (Or.inl (hw _ (List.mem_of_getElem? (i := 15) rfl))) Via.refl e43 f45 (g := (mkF m 61 #[.val (.ref a0), .val (.int p1), .val (.double (FP.ddiv (FP.l2d tt) (FP.l2d ww))), .second] [(.ref a0), (.ref a0)])) rfl rfl (hb hby dAd_61)
  refine OFin.of (S' := T53.setTop (mkF m 64 #[.val (.ref a0), .val (.int p1), .val (.double (FP.ddiv (FP.l2d tt) (FP.l2d ww))), .second] [(.int ma), (.ref a0)])) (fun t ht => st53 t ht) ?_
  refine OFin.of (S' := T53.setTop (mkF m 65 #[.val (.ref a0), .val (.int p1), .val (.double (FP.ddiv (FP.l2d tt) (FP.l2d ww))), .second] [(.int p1), (.int ma), (.ref a0)])) (fun t ht => ?_) ?_
  · refine XS.iloadN X53.here hx rfl (hb hby dAd_64) rfl ?_
    exact ht
  obtain ⟨_, _, ⟨T54, L54, k54, n54⟩, -, X54, ⟨Lc54, hQ54, l54, y54, z54⟩, st54⟩ := Jvm.LawKit.callS X53 hx (y := (⟨"java/lang/Math", "max", "(II)I"⟩ : MethodName)) hown (mvT hZ (hw _ (List.mem_of_getElem? (i := 34) rfl))) (mvT hZ (hw _ (List.mem_of_getElem? (i := 35) rfl))) (mvT hZ (hw _ (List.mem_of_getElem? (i := 32) rfl))) (mvT hZ (hw _ (List.mem_of_getElem? (i := 36) rfl))) (by decide) (backOf (W := 1) (rmMx l Z _ hw [] ma p1 h43 n0 Z49 ) hZ (hw _ (List.mem_of_getElem? (i := 36) rfl)) (hw _ (List.mem_of_getElem? (i := 32) rfl)) (by decide) (by decide)) (g := (mkF m 65 #[.val (.ref a0), .val (.int p1), .val (.double (FP.ddiv (FP.l2d tt) (FP.l2d ww))), .second] [(.int p1), (.int ma), (.ref a0)])) rfl (by rw [hml]; rfl) (argsL := [(.int ma), (.int p1)]) (rest := [(.ref a0)]) (lenOf pd_1 rfl) rfl (by show 2 * 0 + _ ≤ _; exact Nat.le_of_eq rfl) (hb hby dAd_65) (fun _ _ => ⟨rfl, e53, (by decide : 0 + 0 ≤ _), (by decide : 0 + 0 ≤ _)⟩)
  dsimp only [Pt.U, Pt.locs, Pt.cells, Pt.slots] at X54 l54 y54 z54 st54 hQ54
  subst l54 y54 z54
  obtain ⟨rfl, Nq54, hs54⟩ := hQ54
  have N55 := Fr.app N51 Nq54
  refine OFin.of (S' := T54.setTop (mkF m 68 #[.val (.ref a0), .val (.int p1), .val (.double (FP.ddiv (FP.l2d tt) (FP.l2d ww))), .second] [(.int (own_max ma p1)), (.ref a0)])) (fun t ht => st54 t ht) ?_
  obtain ⟨T56, h56, X56, e56, W56, st56⟩ := putF X54 hx hZ hown (host := "") (Or.inl (hw _ (List.mem_of_getElem? (i := 15) rfl))) Via.refl hs54 f45 f44 (Or.inl (hw _ (List.mem_of_getElem? (i := 16) rfl))) (hw _ (List.mem_of_getElem? (i := 1) rfl)) (ty := .int) (by decide) rfl rfl (g := (mkF m 68 #[.val (.ref a0), .val (.int p1), .val (.double (FP.ddiv (FP.l2d tt) (FP.l2d ww))), .second] [(.int (own_max ma p1)), (.ref a0)])) rfl rfl (hb hby dAd_68)
  have f57 := (f44.wr W56)
  have f58 := (f46.other W56 (Or.inr (slot_ne (Or.inl (hw _ (List.mem_of_getElem? (i := 10) rfl))) (Or.inl (hw _ (List.mem_of_getElem? (i := 16) rfl))) (by decide) (t := .long) (t' := .int) (by decide) (by decide))))
  have f59 := (f47.other W56 (Or.inr (slot_ne (Or.inl (hw _ (List.mem_of_getElem? (i := 12) rfl))) (Or.inl (hw _ (List.mem_of_getElem? (i := 16) rfl))) (by decide) (t := .long) (t' := .int) (by decide) (by decide))))
  have f60 := (f48.other W56 (Or.inr (slot_ne (Or.inl (hw _ (List.mem_of_getElem? (i := 29) rfl))) (Or.inl (hw _ (List.mem_of_getElem? (i := 16) rfl))) (by decide) (t := .double) (t' := .int) (by decide) (by decide))))
  have f61 := (f52.other W56 (Or.inr (slot_ne (Or.inl (hw _ (List.mem_of_getElem? (i := 14) rfl))) (Or.inl (hw _ (List.mem_of_getElem? (i := 16) rfl))) (by decide) (t := .int) (t' := .int) (by decide) (by decide))))
  have Z62 : n0 ≤ h56.size := (Nat.le_trans Z49 (Keep.of_wr W56).1)
  have K63 : Keep h0 h56 [a0] := (K50.wr W56 (Or.inl (List.mem_of_getElem? (i := 0) rfl)))
  have N64 := Fr.snoc X56 N55 g0
  have f65 : Fld Z h56 a0 "com/example/weekly_activity_scheduler/weeklyactivityscheduler/core/Spread" "max" "I" (.int (own_max ma p1)) := (f45.same W56)
  refine OFin.of (S' := T56.setTop (mkF m 71 #[.val (.ref a0), .val (.int p1), .val (.double (FP.ddiv (FP.l2d tt) (FP.l2d ww))), .second] [])) (fun t ht => st56 t ht) ?_
  exact OFin.retV X56 hx hlk hret (hb hby dAd_71) (by decide) (by decide) (by rw [e56]; exact ⟨rfl, N64, K63, f58, f59, f61, f65, f60⟩)
theorem pn0 : plainName "com/example/weekly_activity_scheduler/weeklyactivityscheduler/core/SpreadMeanPinLaw" = true := by first | (simp [plainName, overriddenIn]; done) | decide +kernel
theorem ef0 (m : MethodId) (p0 : Int32) (p1 : Int32) (p2 : Int32) (p3 : Int32) (p4 : Int32) : entryFrame m #[(.int p0), (.int p1), (.int p2), (.int p3), (.int p4)] maxLocals = mkF m 0 #[.val (.int p0), .val (.int p1), .val (.int p2), .val (.int p3), .val (.int p4), .unset, .unset, .unset, .unset, .unset, .unset, .unset, .unset, .unset, .unset, .unset] [] := by first | (simp [entryFrame, mkF, argsToLocals, Value.category, maxLocals]; done) | rfl
def Q0 (Z : State) (p0 : Int32) (p1 : Int32) (p2 : Int32) (p3 : Int32) (p4 : Int32) (h0 : Heap) (n0 : Nat) (v : Option Value) (h : Heap) (L : List Loc) : Prop := v = some (.int (1 : Int32)) ∧ Fr n0 L
set_option maxRecDepth 65536 in
set_option maxHeartbeats 40000000 in
theorem rm0 (l : Launch) (Z : State) (a0 : Array Value) (hw : ∀ d ∈ tables_1, d.before a0 Z = true) (ws : List Jvm.Cond) (p0 : Int32) (p1 : Int32) (p2 : Int32) (p3 : Int32) (p4 : Int32) (h0 : Heap) (n0 : Nat) (Z0 : n0 ≤ h0.size)  :
    MetFree l x (head1 (Jvm.Cond.code x code maxLocals ret :: ws) room_1) (fun a U => a = #[(.int p0), (.int p1), (.int p2), (.int p3), (.int p4)] ∧ Z.Warmed39 U.vm ∧ U.heap = h0) (fun _ _ _ _ _ => True) (fun _ U o U' => ∃ v L, o = .returned v ∧ Q0 Z p0 p1 p2 p3 p4 h0 n0 v U'.heap L ∧ FrameEnd U o U' L room_1.cells room_1.slots) := by
  refine MetFree.of_bodySF (plainFor_of_name pn0) hisR ?_
  intro p e s m args below meth c s₁ Bd hml0 hP hK
  obtain ⟨rfl, hZ, hh⟩ := hP
  have hx := Bd.exec
  have hby := Bd.bytes
  have hlk := BodyLoose.notSynchronized Bd
  have hret := Bd.returns
  have hml : c.maxLocals = 16 := hml0
  have hown : s.vm.findClass "com/example/weekly_activity_scheduler/weeklyactivityscheduler/core/SpreadMeanPinLaw" = some m.cls := findClass_of_methodNamed Bd.named
  have hnm := (name_of_methodNamed Bd.named Bd.method).1
  have X0 : Stand p l e room_1 s m #[(.int p0), (.int p1), (.int p2), (.int p3), (.int p4)] below meth c s₁ [] 0 0 := Stand.of_body Bd
  have e0 : s₁.heap = h0 := by rw [← hh, Bd.state]; rfl
  have N0 := Fr.nil n0
  show OFin p e below (KPost s (Q0 Z p0 p1 p2 p3 p4 h0 n0) room_1.cells room_1.slots) _
  rw [ef0 m p0 p1 p2 p3 p4]
  obtain ⟨T1, h1, X1, e1, E1, A1, D1, -, st1⟩ := newO X0 hx hZ hown (hw _ (List.mem_of_getElem? (i := 0) rfl)) (hw _ (List.mem_of_getElem? (i := 1) rfl)) (hw _ (List.mem_of_getElem? (i := 2) rfl)) e0 (g := (mkF m 0 #[.val (.int p0), .val (.int p1), .val (.int p2), .val (.int p3), .val (.int p4), .unset, .unset, .unset, .unset, .unset, .unset, .unset, .unset, .unset, .unset, .unset] [])) rfl (hb hby at_0) (by decide) (by decide)
  obtain ⟨b1, gq1⟩ : ∃ z, z = h0.size := ⟨_, rfl⟩
  rw [← gq1] at A1 D1 st1
  have g2 : n0 ≤ b1 := (Nat.le_trans Z0 (Nat.le_of_eq gq1.symm))
  have Z3 : n0 ≤ h1.size := (Nat.le_trans Z0 E1.1)
  have f4 : Fld Z h1 b1 "com/example/weekly_activity_scheduler/weeklyactivityscheduler/core/Spread" "replications" "J" (.long (0 : Int64)) := D1 (Or.inl (hw _ (List.mem_of_getElem? (i := 10) rfl))) (ty := .long) (by decide)
  have f5 : Fld Z h1 b1 "com/example/weekly_activity_scheduler/weeklyactivityscheduler/core/Spread" "sum" "J" (.long (0 : Int64)) := D1 (Or.inl (hw _ (List.mem_of_getElem? (i := 12) rfl))) (ty := .long) (by decide)
  have f6 : Fld Z h1 b1 "com/example/weekly_activity_scheduler/weeklyactivityscheduler/core/Spread" "min" "I" (.int (0 : Int32)) := D1 (Or.inl (hw _ (List.mem_of_getElem? (i := 14) rfl))) (ty := .int) (by decide)
  have f7 : Fld Z h1 b1 "com/example/weekly_activity_scheduler/weeklyactivityscheduler/core/Spread" "max" "I" (.int (0 : Int32)) := D1 (Or.inl (hw _ (List.mem_of_getElem? (i := 16) rfl))) (ty := .int) (by decide)
  have f8 : Fld Z h1 b1 "com/example/weekly_activity_scheduler/weeklyactivityscheduler/core/Spread" "squaredDeviations" "D" (.double 0) := D1 (Or.inl (hw _ (List.mem_of_getElem? (i := 29) rfl))) (ty := .double) (by decide)
  refine OFin.of (S' := T1.setTop (mkF m 3 #[.val (.int p0), .val (.int p1), .val (.int p2), .val (.int p3), .val (.int p4), .unset, .unset, .unset, .unset, .unset, .unset, .unset, .unset, .unset, .unset, .unset] [(.ref b1)])) (fun t ht => st1 t ht) ?_
  refine OFin.of (S' := T1.setTop (mkF m 5 #[.val (.int p0), .val (.int p1), .val (.int p2), .val (.int p3), .val (.int p4), .unset, .unset, .unset, .unset, .unset, .unset, .unset, .unset, .unset, .unset, .unset] [(.int p0), (.ref b1), (.ref b1)])) (fun t ht => ?_) ?_
  · refine XS.dup X1.here hx rfl (hb hby at_3) rfl rfl ?_
    show Steps p.tables e below (T1.setTop (mkF m 4 _ [(.ref b1), (.ref b1)])) _
    refine XS.iloadN X1.here hx rfl (hb hby at_4) rfl ?_
    exact ht
  obtain ⟨_, _, ⟨T9, L9, k9, n9⟩, -, X9, ⟨Lc9, hQ9, l9, y9, z9⟩, st9⟩ := X1.specialBack hx (y := (⟨"com/example/weekly_activity_scheduler/weeklyactivityscheduler/core/Spread", "<init>", "(I)V"⟩ : MethodName)) rfl hown (mvT hZ (hw _ (List.mem_of_getElem? (i := 3) rfl))) (mvT hZ (hw _ (List.mem_of_getElem? (i := 4) rfl))) (mvT hZ (hw _ (List.mem_of_getElem? (i := 5) rfl))) (by decide) (backOf (W := 1) (rmIni l Z _ hw [] b1 p0 h1 n0 Z3 A1 f4 f5 f6 f7 f8 g2) hZ (hw _ (List.mem_of_getElem? (i := 5) rfl)) (hw _ (List.mem_of_getElem? (i := 2) rfl)) (by decide) (by decide)) (g := (mkF m 5 #[.val (.int p0), .val (.int p1), .val (.int p2), .val (.int p3), .val (.int p4), .unset, .unset, .unset, .unset, .unset, .unset, .unset, .unset, .unset, .unset, .unset] [(.int p0), (.ref b1), (.ref b1)])) rfl (by rw [hml]; rfl) (Steps.refl _) (a := b1) (argsL := [(.int p0)]) (rest := [(.ref b1)]) (lenOf pd_2 rfl) rfl (by show 2 * 0 + _ ≤ _; exact Nat.le_of_eq rfl) (hb hby at_5) (fun _ _ => ⟨rfl, e1, (by decide : 1 + 0 ≤ _), (by decide : 5 + 0 ≤ _)⟩)
  dsimp only [Pt.U, Pt.locs, Pt.cells, Pt.slots] at X9 l9 y9 z9 st9 hQ9
  subst l9 y9 z9
  obtain ⟨rfl, Nq9, Kq9, f10, f11, f12, f13, f14⟩ := hQ9
  have N15 := Fr.app N0 Nq9
  have f16 := (A1.keep Kq9)
  have Z17 : n0 ≤ T9.heap.size := (Nat.le_trans Z3 Kq9.1)
  refine OFin.to (S' := T9.setTop (mkF m 8 #[.val (.int p0), .val (.int p1), .val (.int p2), .val (.int p3), .val (.int p4), .unset, .unset, .unset, .unset, .unset, .unset, .unset, .unset, .unset, .unset, .unset] [(.ref b1)])) st9 ?_
  refine OFin.of (S' := T9.setTop (mkF m 12 #[.val (.int p0), .val (.int p1), .val (.int p2), .val (.int p3), .val (.int p4), .val (.ref b1), .unset, .unset, .unset, .unset, .unset, .unset, .unset, .unset, .unset, .unset] [(.ref b1)])) (fun t ht => ?_) ?_
  · refine XS.astore X9.here hx rfl (hb hby at_8) rfl rfl (l' := #[.val (.int p0), .val (.int p1), .val (.int p2), .val (.int p3), .val (.int p4), .val (.ref b1), .unset, .unset, .unset, .unset, .unset, .unset, .unset, .unset, .unset, .unset]) rfl ?_
    show Steps p.tables e below (T9.setTop (mkF m 10 #[.val (.int p0), .val (.int p1), .val (.int p2), .val (.int p3), .val (.int p4), .val (.ref b1), .unset, .unset, .unset, .unset, .unset, .unset, .unset, .unset, .unset, .unset] [])) _
    refine XS.aload X9.here hx rfl (hb hby at_10) rfl rfl ?_
    exact ht
  obtain ⟨cq19, kq19, q19a, q19b, q19c⟩ := isOf hZ (rfl : T9.heap = T9.heap) f16
  obtain ⟨_, _, ⟨T18, L18, k18, n18⟩, -, X18, ⟨Lc18, hQ18, l18, y18, z18⟩, st18⟩ := X9.virtualBack hx (y := (⟨"com/example/weekly_activity_scheduler/weeklyactivityscheduler/core/Spread", "mean", "()D"⟩ : MethodName)) (z := (⟨"com/example/weekly_activity_scheduler/weeklyactivityscheduler/core/Spread", "mean", "()D"⟩ : MethodName)) hown (mvT hZ (hw _ (List.mem_of_getElem? (i := 17) rfl))) (mvT hZ (hw _ (List.mem_of_getElem? (i := 18) rfl))) (notFace_of_selects (args := #[]) (mvT hZ (hw _ (List.mem_of_getElem? (i := 20) rfl)))) (mvT hZ (hw _ (List.mem_of_getElem? (i := 20) rfl))) (mvT hZ (hw _ (List.mem_of_getElem? (i := 19) rfl))) (by decide) (backOf (W := 0) (rmMe l Z _ hw [] b1 (1 : Int64) (p0.toInt64) T9.heap n0 Z17 f10 f11 (by decide)) hZ (hw _ (List.mem_of_getElem? (i := 21) rfl)) (hw _ (List.mem_of_getElem? (i := 2) rfl)) (by decide) (by decide)) q19a q19c (g := (mkF m 12 #[.val (.int p0), .val (.int p1), .val (.int p2), .val (.int p3), .val (.int p4), .val (.ref b1), .unset, .unset, .unset, .unset, .unset, .unset, .unset, .unset, .unset, .unset] [(.ref b1)])) rfl (by rw [hml]; rfl) (Steps.refl _) (argsL := []) (rest := []) (lenOf pd_0 rfl) rfl (by show 2 * 0 + _ ≤ _; exact Nat.le_of_eq rfl) (hb hby at_12) (fun _ _ => ⟨rfl, (rfl : T9.heap = T9.heap), (by decide : 1 + 0 ≤ _), (by decide : 5 + 0 ≤ _)⟩)
  dsimp only [Pt.U, Pt.locs, Pt.cells, Pt.slots] at X18 l18 y18 z18 st18 hQ18
  subst l18 y18 z18
  obtain ⟨rfl, Nq18, hs18⟩ := hQ18
  have N20 := Fr.app N15 Nq18
  refine OFin.to (S' := T18.setTop (mkF m 15 #[.val (.int p0), .val (.int p1), .val (.int p2), .val (.int p3), .val (.int p4), .val (.ref b1), .unset, .unset, .unset, .unset, .unset, .unset, .unset, .unset, .unset, .unset] [(.double (FP.ddiv (FP.l2d (p0.toInt64)) (FP.l2d (1 : Int64))))])) st18 ?_
  refine OFin.of (S' := T18.setTop (mkF m 33 #[.val (.int p0), .val (.int p1), .val (.int p2), .val (.int p3), .val (.int p4), .val (.ref b1), .val (.int (1 : Int32)), .unset, .unset, .unset, .unset, .unset, .unset, .unset, .unset, .unset] [(.int (p4 &&& (3 : Int32))), (.int (1 : Int32))])) (fun t ht => ?_) ?_
  · refine XS.iloadN X18.here hx rfl (hb hby at_15) rfl ?_
    show Steps p.tables e below (T18.setTop (mkF m 16 _ [(.int p0), (.double (FP.ddiv (FP.l2d (p0.toInt64)) (FP.l2d (1 : Int64))))])) _
    refine XS.i2dS X18.here hx rfl (hb hby at_16) rfl rfl ?_
    show Steps p.tables e below (T18.setTop (mkF m 17 _ [(.double (FP.i2d p0)), (.double (FP.ddiv (FP.l2d (p0.toInt64)) (FP.l2d (1 : Int64))))])) _
    refine XS.dcmpS X18.here hx rfl (hb hby at_17) rfl rfl ?_
    show Steps p.tables e below (T18.setTop (mkF m 18 _ [(.int (cmpValue (FP.dcmp (FP.ddiv (FP.l2d (p0.toInt64)) (FP.l2d (1 : Int64))) (FP.i2d p0)) .l))])) _
    refine XS.ifNo X18.here hx rfl (hb hby at_18) rfl ((if0 _ _).trans (teq (dcmpV_eq (own_d1 _) (own_nn _ (by decide)) .l : (cmpValue (FP.dcmp (FP.ddiv (FP.l2d (p0.toInt64)) (FP.l2d (1 : Int64))) (FP.i2d p0)) .l) = (0 : Int32))).2) ?_
    show Steps p.tables e below (T18.setTop (mkF m 21 _ [])) _
    refine XS.iconst X18.here hx rfl (hb hby at_21) ?_
    show Steps p.tables e below (T18.setTop (mkF m 22 _ [(.int (1 : Int32))])) _
    refine XS.goto X18.here hx rfl (pc0 := 22) (pc' := 26) rfl (hb hby at_22) (by decide) (by decide) ?_
    show Steps p.tables e below (T18.setTop (mkF m 26 _ [(.int (1 : Int32))])) _
    refine XS.istore X18.here hx rfl (hb hby at_26) rfl (l' := #[.val (.int p0), .val (.int p1), .val (.int p2), .val (.int p3), .val (.int p4), .val (.ref b1), .val (.int (1 : Int32)), .unset, .unset, .unset, .unset, .unset, .unset, .unset, .unset, .unset]) rfl ?_
    show Steps p.tables e below (T18.setTop (mkF m 28 #[.val (.int p0), .val (.int p1), .val (.int p2), .val (.int p3), .val (.int p4), .val (.ref b1), .val (.int (1 : Int32)), .unset, .unset, .unset, .unset, .unset, .unset, .unset, .unset, .unset] [])) _
    refine XS.iconst X18.here hx rfl (hb hby at_28) ?_
    show Steps p.tables e below (T18.setTop (mkF m 29 _ [(.int (1 : Int32))])) _
    refine XS.iload X18.here hx rfl (hb hby at_29) rfl ?_
    show Steps p.tables e below (T18.setTop (mkF m 31 _ [(.int p4), (.int (1 : Int32))])) _
    refine XS.iconst X18.here hx rfl (hb hby at_31) ?_
    show Steps p.tables e below (T18.setTop (mkF m 32 _ [(.int (3 : Int32)), (.int p4), (.int (1 : Int32))])) _
    refine XS.iand X18.here hx rfl (hb hby at_32) rfl ?_
    exact ht
  rcases (own_and3 _ : (p4 &&& (3 : Int32)) = (0 : Int32) ∨ (p4 &&& (3 : Int32)) = (1 : Int32) ∨ (p4 &&& (3 : Int32)) = (2 : Int32) ∨ (p4 &&& (3 : Int32)) = (3 : Int32)) with hq21 | hq21 | hq21 | hq21
  · rw [hq21]
    refine OFin.of (S' := T18.setTop (mkF m 153 #[.val (.int p0), .val (.int p1), .val (.int p2), .val (.int p3), .val (.int p4), .val (.ref b1), .val (.int (1 : Int32)), .val (.int (1 : Int32)), .val (.long (p0.toInt64)), .second, .val (.int p0), .val (.int p0), .unset, .unset, .unset, .unset] [(.ref b1)])) (fun t ht => ?_) ?_
    · refine XS.iadd X18.here hx rfl (hb hby at_33) rfl ?_
      show Steps p.tables e below (T18.setTop (mkF m 34 _ [(.int (1 : Int32))])) _
      refine XS.istore X18.here hx rfl (hb hby at_34) rfl (l' := #[.val (.int p0), .val (.int p1), .val (.int p2), .val (.int p3), .val (.int p4), .val (.ref b1), .val (.int (1 : Int32)), .val (.int (1 : Int32)), .unset, .unset, .unset, .unset, .unset, .unset, .unset, .unset]) rfl ?_
      show Steps p.tables e below (T18.setTop (mkF m 36 #[.val (.int p0), .val (.int p1), .val (.int p2), .val (.int p3), .val (.int p4), .val (.ref b1), .val (.int (1 : Int32)), .val (.int (1 : Int32)), .unset, .unset, .unset, .unset, .unset, .unset, .unset, .unset] [])) _
      refine XS.iloadN X18.here hx rfl (hb hby at_36) rfl ?_
      show Steps p.tables e below (T18.setTop (mkF m 37 _ [(.int p0)])) _
      refine XS.i2l X18.here hx rfl (hb hby at_37) rfl ?_
      show Steps p.tables e below (T18.setTop (mkF m 38 _ [(.long (p0.toInt64))])) _
      refine XS.lstore X18.here hx rfl (hb hby at_38) rfl (l' := #[.val (.int p0), .val (.int p1), .val (.int p2), .val (.int p3), .val (.int p4), .val (.ref b1), .val (.int (1 : Int32)), .val (.int (1 : Int32)), .val (.long (p0.toInt64)), .second, .unset, .unset, .unset, .unset, .unset, .unset]) rfl ?_
      show Steps p.tables e below (T18.setTop (mkF m 40 #[.val (.int p0), .val (.int p1), .val (.int p2), .val (.int p3), .val (.int p4), .val (.ref b1), .val (.int (1 : Int32)), .val (.int (1 : Int32)), .val (.long (p0.toInt64)), .second, .unset, .unset, .unset, .unset, .unset, .unset] [])) _
      refine XS.iloadN X18.here hx rfl (hb hby at_40) rfl ?_
      show Steps p.tables e below (T18.setTop (mkF m 41 _ [(.int p0)])) _
      refine XS.istore X18.here hx rfl (hb hby at_41) rfl (l' := #[.val (.int p0), .val (.int p1), .val (.int p2), .val (.int p3), .val (.int p4), .val (.ref b1), .val (.int (1 : Int32)), .val (.int (1 : Int32)), .val (.long (p0.toInt64)), .second, .val (.int p0), .unset, .unset, .unset, .unset, .unset]) rfl ?_
      show Steps p.tables e below (T18.setTop (mkF m 43 #[.val (.int p0), .val (.int p1), .val (.int p2), .val (.int p3), .val (.int p4), .val (.ref b1), .val (.int (1 : Int32)), .val (.int (1 : Int32)), .val (.long (p0.toInt64)), .second, .val (.int p0), .unset, .unset, .unset, .unset, .unset] [])) _
      refine XS.iloadN X18.here hx rfl (hb hby at_43) rfl ?_
      show Steps p.tables e below (T18.setTop (mkF m 44 _ [(.int p0)])) _
      refine XS.istore X18.here hx rfl (hb hby at_44) rfl (l' := #[.val (.int p0), .val (.int p1), .val (.int p2), .val (.int p3), .val (.int p4), .val (.ref b1), .val (.int (1 : Int32)), .val (.int (1 : Int32)), .val (.long (p0.toInt64)), .second, .val (.int p0), .val (.int p0), .unset, .unset, .unset, .unset]) rfl ?_
      show Steps p.tables e below (T18.setTop (mkF m 46 #[.val (.int p0), .val (.int p1), .val (.int p2), .val (.int p3), .val (.int p4), .val (.ref b1), .val (.int (1 : Int32)), .val (.int (1 : Int32)), .val (.long (p0.toInt64)), .second, .val (.int p0), .val (.int p0), .unset, .unset, .unset, .unset] [])) _
      refine XS.iload X18.here hx rfl (hb hby at_46) rfl ?_
      show Steps p.tables e below (T18.setTop (mkF m 48 _ [(.int (1 : Int32))])) _
      refine XS.iconst X18.here hx rfl (hb hby at_48) ?_
      show Steps p.tables e below (T18.setTop (mkF m 49 _ [(.int (2 : Int32)), (.int (1 : Int32))])) _
      refine XS.icmpYes X18.here hx rfl (pc0 := 49) (pc' := 81) rfl (hb hby at_49) rfl (tlt (by decide : (1 : Int32) < (2 : Int32))).1 (by decide) (by decide) ?_
      show Steps p.tables e below (T18.setTop (mkF m 81 _ [])) _
      refine XS.iload X18.here hx rfl (hb hby at_81) rfl ?_
      show Steps p.tables e below (T18.setTop (mkF m 83 _ [(.int (1 : Int32))])) _
      refine XS.iconst X18.here hx rfl (hb hby at_83) ?_
      show Steps p.tables e below (T18.setTop (mkF m 84 _ [(.int (3 : Int32)), (.int (1 : Int32))])) _
      refine XS.icmpYes X18.here hx rfl (pc0 := 84) (pc' := 116) rfl (hb hby at_84) rfl (tlt (by decide : (1 : Int32) < (3 : Int32))).1 (by decide) (by decide) ?_
      show Steps p.tables e below (T18.setTop (mkF m 116 _ [])) _
      refine XS.iload X18.here hx rfl (hb hby at_116) rfl ?_
      show Steps p.tables e below (T18.setTop (mkF m 118 _ [(.int (1 : Int32))])) _
      refine XS.iconst X18.here hx rfl (hb hby at_118) ?_
      show Steps p.tables e below (T18.setTop (mkF m 119 _ [(.int (4 : Int32)), (.int (1 : Int32))])) _
      refine XS.icmpYes X18.here hx rfl (pc0 := 119) (pc' := 151) rfl (hb hby at_119) rfl (tlt (by decide : (1 : Int32) < (4 : Int32))).1 (by decide) (by decide) ?_
      show Steps p.tables e below (T18.setTop (mkF m 151 _ [])) _
      refine XS.aload X18.here hx rfl (hb hby at_151) rfl rfl ?_
      exact ht
    obtain ⟨cq23, kq23, q23a, q23b, q23c⟩ := isOf hZ hs18 f16
    obtain ⟨_, _, ⟨T22, L22, k22, n22⟩, -, X22, ⟨Lc22, hQ22, l22, y22, z22⟩, st22⟩ := X18.virtualBack hx (y := (⟨"com/example/weekly_activity_scheduler/weeklyactivityscheduler/core/Spread", "mean", "()D"⟩ : MethodName)) (z := (⟨"com/example/weekly_activity_scheduler/weeklyactivityscheduler/core/Spread", "mean", "()D"⟩ : MethodName)) hown (mvT hZ (hw _ (List.mem_of_getElem? (i := 17) rfl))) (mvT hZ (hw _ (List.mem_of_getElem? (i := 18) rfl))) (notFace_of_selects (args := #[]) (mvT hZ (hw _ (List.mem_of_getElem? (i := 20) rfl)))) (mvT hZ (hw _ (List.mem_of_getElem? (i := 20) rfl))) (mvT hZ (hw _ (List.mem_of_getElem? (i := 19) rfl))) (by decide) (backOf (W := 0) (rmMe l Z _ hw [] b1 (1 : Int64) (p0.toInt64) T9.heap n0 Z17 f10 f11 (by decide)) hZ (hw _ (List.mem_of_getElem? (i := 21) rfl)) (hw _ (List.mem_of_getElem? (i := 2) rfl)) (by decide) (by decide)) q23a q23c (g := (mkF m 153 #[.val (.int p0), .val (.int p1), .val (.int p2), .val (.int p3), .val (.int p4), .val (.ref b1), .val (.int (1 : Int32)), .val (.int (1 : Int32)), .val (.long (p0.toInt64)), .second, .val (.int p0), .val (.int p0), .unset, .unset, .unset, .unset] [(.ref b1)])) rfl (by rw [hml]; rfl) (Steps.refl _) (argsL := []) (rest := []) (lenOf pd_0 rfl) rfl (by show 2 * 0 + _ ≤ _; exact Nat.le_of_eq rfl) (hb hby at_153) (fun _ _ => ⟨rfl, hs18, (by decide : 1 + 0 ≤ _), (by decide : 5 + 0 ≤ _)⟩)
    dsimp only [Pt.U, Pt.locs, Pt.cells, Pt.slots] at X22 l22 y22 z22 st22 hQ22
    subst l22 y22 z22
    obtain ⟨rfl, Nq22, hs22⟩ := hQ22
    have N24 := Fr.app N20 Nq22
    refine OFin.to (S' := T22.setTop (mkF m 156 #[.val (.int p0), .val (.int p1), .val (.int p2), .val (.int p3), .val (.int p4), .val (.ref b1), .val (.int (1 : Int32)), .val (.int (1 : Int32)), .val (.long (p0.toInt64)), .second, .val (.int p0), .val (.int p0), .unset, .unset, .unset, .unset] [(.double (FP.ddiv (FP.l2d (p0.toInt64)) (FP.l2d (1 : Int64))))])) st22 ?_
    refine OFin.of (S' := T22.setTop (mkF m 203 #[.val (.int p0), .val (.int p1), .val (.int p2), .val (.int p3), .val (.int p4), .val (.ref b1), .val (.int (1 : Int32)), .val (.int (1 : Int32)), .val (.long (p0.toInt64)), .second, .val (.int p0), .val (.int p0), .val (.double (FP.ddiv (FP.l2d (p0.toInt64)) (FP.l2d (1 : Int64)))), .second, .val (.double (FP.ddiv (FP.l2d (p0.toInt64)) (FP.i2d (1 : Int32)))), .second] [(.int (1 : Int32))])) (fun t ht => ?_) ?_
    · refine XS.dstore X22.here hx rfl (hb hby at_156) rfl (l' := #[.val (.int p0), .val (.int p1), .val (.int p2), .val (.int p3), .val (.int p4), .val (.ref b1), .val (.int (1 : Int32)), .val (.int (1 : Int32)), .val (.long (p0.toInt64)), .second, .val (.int p0), .val (.int p0), .val (.double (FP.ddiv (FP.l2d (p0.toInt64)) (FP.l2d (1 : Int64)))), .second, .unset, .unset]) rfl ?_
      show Steps p.tables e below (T22.setTop (mkF m 158 #[.val (.int p0), .val (.int p1), .val (.int p2), .val (.int p3), .val (.int p4), .val (.ref b1), .val (.int (1 : Int32)), .val (.int (1 : Int32)), .val (.long (p0.toInt64)), .second, .val (.int p0), .val (.int p0), .val (.double (FP.ddiv (FP.l2d (p0.toInt64)) (FP.l2d (1 : Int64)))), .second, .unset, .unset] [])) _
      refine XS.lload X22.here hx rfl (hb hby at_158) rfl ?_
      show Steps p.tables e below (T22.setTop (mkF m 160 _ [(.long (p0.toInt64))])) _
      refine XS.l2dS X22.here hx rfl (hb hby at_160) rfl rfl ?_
      show Steps p.tables e below (T22.setTop (mkF m 161 _ [(.double (FP.l2d (p0.toInt64)))])) _
      refine XS.iload X22.here hx rfl (hb hby at_161) rfl ?_
      show Steps p.tables e below (T22.setTop (mkF m 163 _ [(.int (1 : Int32)), (.double (FP.l2d (p0.toInt64)))])) _
      refine XS.i2dS X22.here hx rfl (hb hby at_163) rfl rfl ?_
      show Steps p.tables e below (T22.setTop (mkF m 164 _ [(.double (FP.i2d (1 : Int32))), (.double (FP.l2d (p0.toInt64)))])) _
      refine XS.ddivS X22.here hx rfl (hb hby at_164) rfl (own_nni _ (by decide)) rfl ?_
      show Steps p.tables e below (T22.setTop (mkF m 165 _ [(.double (FP.ddiv (FP.l2d (p0.toInt64)) (FP.i2d (1 : Int32))))])) _
      refine XS.dstore X22.here hx rfl (hb hby at_165) rfl (l' := #[.val (.int p0), .val (.int p1), .val (.int p2), .val (.int p3), .val (.int p4), .val (.ref b1), .val (.int (1 : Int32)), .val (.int (1 : Int32)), .val (.long (p0.toInt64)), .second, .val (.int p0), .val (.int p0), .val (.double (FP.ddiv (FP.l2d (p0.toInt64)) (FP.l2d (1 : Int64)))), .second, .val (.double (FP.ddiv (FP.l2d (p0.toInt64)) (FP.i2d (1 : Int32)))), .second]) rfl ?_
      show Steps p.tables e below (T22.setTop (mkF m 167 #[.val (.int p0), .val (.int p1), .val (.int p2), .val (.int p3), .val (.int p4), .val (.ref b1), .val (.int (1 : Int32)), .val (.int (1 : Int32)), .val (.long (p0.toInt64)), .second, .val (.int p0), .val (.int p0), .val (.double (FP.ddiv (FP.l2d (p0.toInt64)) (FP.l2d (1 : Int64)))), .second, .val (.double (FP.ddiv (FP.l2d (p0.toInt64)) (FP.i2d (1 : Int32)))), .second] [])) _
      refine XS.iload X22.here hx rfl (hb hby at_167) rfl ?_
      show Steps p.tables e below (T22.setTop (mkF m 169 _ [(.int (1 : Int32))])) _
      refine XS.ifNo X22.here hx rfl (hb hby at_169) rfl ((if0 _ _).trans (feq (by decide : ¬ ((1 : Int32) = (0 : Int32)))).1) ?_
      show Steps p.tables e below (T22.setTop (mkF m 172 _ [])) _
      refine XS.dload X22.here hx rfl (hb hby at_172) rfl ?_
      show Steps p.tables e below (T22.setTop (mkF m 174 _ [(.double (FP.ddiv (FP.l2d (p0.toInt64)) (FP.l2d (1 : Int64))))])) _
      refine XS.dload X22.here hx rfl (hb hby at_174) rfl ?_
      show Steps p.tables e below (T22.setTop (mkF m 176 _ [(.double (FP.ddiv (FP.l2d (p0.toInt64)) (FP.i2d (1 : Int32)))), (.double (FP.ddiv (FP.l2d (p0.toInt64)) (FP.l2d (1 : Int64))))])) _
      refine XS.dcmpS X22.here hx rfl (hb hby at_176) rfl rfl ?_
      show Steps p.tables e below (T22.setTop (mkF m 177 _ [(.int (cmpValue (FP.dcmp (FP.ddiv (FP.l2d (p0.toInt64)) (FP.l2d (1 : Int64))) (FP.ddiv (FP.l2d (p0.toInt64)) (FP.i2d (1 : Int32)))) .l))])) _
      refine XS.ifNo X22.here hx rfl (hb hby at_177) rfl ((if0 _ _).trans (teq (own_eq1 _ : (cmpValue (FP.dcmp (FP.ddiv (FP.l2d (p0.toInt64)) (FP.l2d (1 : Int64))) (FP.ddiv (FP.l2d (p0.toInt64)) (FP.i2d (1 : Int32)))) .l) = (0 : Int32))).2) ?_
      show Steps p.tables e below (T22.setTop (mkF m 180 _ [])) _
      refine XS.iload X22.here hx rfl (hb hby at_180) rfl ?_
      show Steps p.tables e below (T22.setTop (mkF m 182 _ [(.int p0)])) _
      refine XS.i2dS X22.here hx rfl (hb hby at_182) rfl rfl ?_
      show Steps p.tables e below (T22.setTop (mkF m 183 _ [(.double (FP.i2d p0))])) _
      refine XS.dload X22.here hx rfl (hb hby at_183) rfl ?_
      show Steps p.tables e below (T22.setTop (mkF m 185 _ [(.double (FP.ddiv (FP.l2d (p0.toInt64)) (FP.l2d (1 : Int64)))), (.double (FP.i2d p0))])) _
      refine XS.dcmpS X22.here hx rfl (hb hby at_185) rfl rfl ?_
      show Steps p.tables e below (T22.setTop (mkF m 186 _ [(.int (cmpValue (FP.dcmp (FP.i2d p0) (FP.ddiv (FP.l2d (p0.toInt64)) (FP.l2d (1 : Int64)))) .g))])) _
      refine XS.ifNo X22.here hx rfl (hb hby at_186) rfl ((if0 _ _).trans (flt (own_lo1 _ : ¬ ((0 : Int32) < (cmpValue (FP.dcmp (FP.i2d p0) (FP.ddiv (FP.l2d (p0.toInt64)) (FP.l2d (1 : Int64)))) .g)))).2.2.1) ?_
      show Steps p.tables e below (T22.setTop (mkF m 189 _ [])) _
      refine XS.dload X22.here hx rfl (hb hby at_189) rfl ?_
      show Steps p.tables e below (T22.setTop (mkF m 191 _ [(.double (FP.ddiv (FP.l2d (p0.toInt64)) (FP.l2d (1 : Int64))))])) _
      refine XS.iload X22.here hx rfl (hb hby at_191) rfl ?_
      show Steps p.tables e below (T22.setTop (mkF m 193 _ [(.int p0), (.double (FP.ddiv (FP.l2d (p0.toInt64)) (FP.l2d (1 : Int64))))])) _
      refine XS.i2dS X22.here hx rfl (hb hby at_193) rfl rfl ?_
      show Steps p.tables e below (T22.setTop (mkF m 194 _ [(.double (FP.i2d p0)), (.double (FP.ddiv (FP.l2d (p0.toInt64)) (FP.l2d (1 : Int64))))])) _
      refine XS.dcmpS X22.here hx rfl (hb hby at_194) rfl rfl ?_
      show Steps p.tables e below (T22.setTop (mkF m 195 _ [(.int (cmpValue (FP.dcmp (FP.ddiv (FP.l2d (p0.toInt64)) (FP.l2d (1 : Int64))) (FP.i2d p0)) .g))])) _
      refine XS.ifNo X22.here hx rfl (hb hby at_195) rfl ((if0 _ _).trans (flt (own_hi1 _ : ¬ ((0 : Int32) < (cmpValue (FP.dcmp (FP.ddiv (FP.l2d (p0.toInt64)) (FP.l2d (1 : Int64))) (FP.i2d p0)) .g)))).2.2.1) ?_
      show Steps p.tables e below (T22.setTop (mkF m 198 _ [])) _
      refine XS.iconst X22.here hx rfl (hb hby at_198) ?_
      show Steps p.tables e below (T22.setTop (mkF m 199 _ [(.int (1 : Int32))])) _
      refine XS.goto X22.here hx rfl (pc0 := 199) (pc' := 203) rfl (hb hby at_199) (by decide) (by decide) ?_
      exact ht
    exact OFin.retB X22 hx hlk (t := .boolean) (by simp) hret (hb hby at_203) (by decide) (by decide) (by rw [hs22]; exact ⟨rfl, N24⟩)
  · rw [hq21]
    refine OFin.of (S' := T18.setTop (mkF m 55 #[.val (.int p0), .val (.int p1), .val (.int p2), .val (.int p3), .val (.int p4), .val (.ref b1), .val (.int (1 : Int32)), .val (.int (2 : Int32)), .val (.long (p0.toInt64)), .second, .val (.int p0), .val (.int p0), .unset, .unset, .unset, .unset] [(.int p1), (.ref b1)])) (fun t ht => ?_) ?_
    · refine XS.iadd X18.here hx rfl (hb hby at_33) rfl ?_
      show Steps p.tables e below (T18.setTop (mkF m 34 _ [(.int (2 : Int32))])) _
      refine XS.istore X18.here hx rfl (hb hby at_34) rfl (l' := #[.val (.int p0), .val (.int p1), .val (.int p2), .val (.int p3), .val (.int p4), .val (.ref b1), .val (.int (1 : Int32)), .val (.int (2 : Int32)), .unset, .unset, .unset, .unset, .unset, .unset, .unset, .unset]) rfl ?_
      show Steps p.tables e below (T18.setTop (mkF m 36 #[.val (.int p0), .val (.int p1), .val (.int p2), .val (.int p3), .val (.int p4), .val (.ref b1), .val (.int (1 : Int32)), .val (.int (2 : Int32)), .unset, .unset, .unset, .unset, .unset, .unset, .unset, .unset] [])) _
      refine XS.iloadN X18.here hx rfl (hb hby at_36) rfl ?_
      show Steps p.tables e below (T18.setTop (mkF m 37 _ [(.int p0)])) _
      refine XS.i2l X18.here hx rfl (hb hby at_37) rfl ?_
      show Steps p.tables e below (T18.setTop (mkF m 38 _ [(.long (p0.toInt64))])) _
      refine XS.lstore X18.here hx rfl (hb hby at_38) rfl (l' := #[.val (.int p0), .val (.int p1), .val (.int p2), .val (.int p3), .val (.int p4), .val (.ref b1), .val (.int (1 : Int32)), .val (.int (2 : Int32)), .val (.long (p0.toInt64)), .second, .unset, .unset, .unset, .unset, .unset, .unset]) rfl ?_
      show Steps p.tables e below (T18.setTop (mkF m 40 #[.val (.int p0), .val (.int p1), .val (.int p2), .val (.int p3), .val (.int p4), .val (.ref b1), .val (.int (1 : Int32)), .val (.int (2 : Int32)), .val (.long (p0.toInt64)), .second, .unset, .unset, .unset, .unset, .unset, .unset] [])) _
      refine XS.iloadN X18.here hx rfl (hb hby at_40) rfl ?_
      show Steps p.tables e below (T18.setTop (mkF m 41 _ [(.int p0)])) _
      refine XS.istore X18.here hx rfl (hb hby at_41) rfl (l' := #[.val (.int p0), .val (.int p1), .val (.int p2), .val (.int p3), .val (.int p4), .val (.ref b1), .val (.int (1 : Int32)), .val (.int (2 : Int32)), .val (.long (p0.toInt64)), .second, .val (.int p0), .unset, .unset, .unset, .unset, .unset]) rfl ?_
      show Steps p.tables e below (T18.setTop (mkF m 43 #[.val (.int p0), .val (.int p1), .val (.int p2), .val (.int p3), .val (.int p4), .val (.ref b1), .val (.int (1 : Int32)), .val (.int (2 : Int32)), .val (.long (p0.toInt64)), .second, .val (.int p0), .unset, .unset, .unset, .unset, .unset] [])) _
      refine XS.iloadN X18.here hx rfl (hb hby at_43) rfl ?_
      show Steps p.tables e below (T18.setTop (mkF m 44 _ [(.int p0)])) _
      refine XS.istore X18.here hx rfl (hb hby at_44) rfl (l' := #[.val (.int p0), .val (.int p1), .val (.int p2), .val (.int p3), .val (.int p4), .val (.ref b1), .val (.int (1 : Int32)), .val (.int (2 : Int32)), .val (.long (p0.toInt64)), .second, .val (.int p0), .val (.int p0), .unset, .unset, .unset, .unset]) rfl ?_
      show Steps p.tables e below (T18.setTop (mkF m 46 #[.val (.int p0), .val (.int p1), .val (.int p2), .val (.int p3), .val (.int p4), .val (.ref b1), .val (.int (1 : Int32)), .val (.int (2 : Int32)), .val (.long (p0.toInt64)), .second, .val (.int p0), .val (.int p0), .unset, .unset, .unset, .unset] [])) _
      refine XS.iload X18.here hx rfl (hb hby at_46) rfl ?_
      show Steps p.tables e below (T18.setTop (mkF m 48 _ [(.int (2 : Int32))])) _
      refine XS.iconst X18.here hx rfl (hb hby at_48) ?_
      show Steps p.tables e below (T18.setTop (mkF m 49 _ [(.int (2 : Int32)), (.int (2 : Int32))])) _
      refine XS.icmpNo X18.here hx rfl (hb hby at_49) rfl (flt (by decide : ¬ ((2 : Int32) < (2 : Int32)))).1 ?_
      show Steps p.tables e below (T18.setTop (mkF m 52 _ [])) _
      refine XS.aload X18.here hx rfl (hb hby at_52) rfl rfl ?_
      show Steps p.tables e below (T18.setTop (mkF m 54 _ [(.ref b1)])) _
      refine XS.iloadN X18.here hx rfl (hb hby at_54) rfl ?_
      exact ht
    obtain ⟨cq26, kq26, q26a, q26b, q26c⟩ := isOf hZ hs18 f16
    obtain ⟨_, _, ⟨T25, L25, k25, n25⟩, -, X25, ⟨Lc25, hQ25, l25, y25, z25⟩, st25⟩ := X18.virtualBack hx (y := (⟨"com/example/weekly_activity_scheduler/weeklyactivityscheduler/core/Spread", "add", "(I)V"⟩ : MethodName)) (z := (⟨"com/example/weekly_activity_scheduler/weeklyactivityscheduler/core/Spread", "add", "(I)V"⟩ : MethodName)) hown (mvT hZ (hw _ (List.mem_of_getElem? (i := 22) rfl))) (mvT hZ (hw _ (List.mem_of_getElem? (i := 23) rfl))) (notFace_of_selects (args := #[]) (mvT hZ (hw _ (List.mem_of_getElem? (i := 25) rfl)))) (mvT hZ (hw _ (List.mem_of_getElem? (i := 25) rfl))) (mvT hZ (hw _ (List.mem_of_getElem? (i := 24) rfl))) (by decide) (backOf (W := 0) (rmAd l Z _ hw [] b1 p1 (1 : Int64) (p0.toInt64) p0 p0 0 1160 T9.heap n0 Z17 f16 f10 f11 f12 f13 f14 g2 (by decide) (by decide) own_mag0 (by decide) (by decide)) hZ (hw _ (List.mem_of_getElem? (i := 26) rfl)) (hw _ (List.mem_of_getElem? (i := 2) rfl)) (by decide) (by decide)) q26a q26c (g := (mkF m 55 #[.val (.int p0), .val (.int p1), .val (.int p2), .val (.int p3), .val (.int p4), .val (.ref b1), .val (.int (1 : Int32)), .val (.int (2 : Int32)), .val (.long (p0.toInt64)), .second, .val (.int p0), .val (.int p0), .unset, .unset, .unset, .unset] [(.int p1), (.ref b1)])) rfl (by rw [hml]; rfl) (Steps.refl _) (argsL := [(.int p1)]) (rest := []) (lenOf pd_2 rfl) rfl (by show 2 * 0 + _ ≤ _; exact Nat.le_of_eq rfl) (hb hby at_55) (fun _ _ => ⟨rfl, hs18, (by decide : 1 + 0 ≤ _), (by decide : 5 + 0 ≤ _)⟩)
    dsimp only [Pt.U, Pt.locs, Pt.cells, Pt.slots] at X25 l25 y25 z25 st25 hQ25
    subst l25 y25 z25
    obtain ⟨rfl, Nq25, Kq25, f27, f28, f29, f30, f31⟩ := hQ25
    have N32 := Fr.app N20 Nq25
    have f33 := (f16.keep Kq25)
    have Z34 : n0 ≤ T25.heap.size := (Nat.le_trans Z17 Kq25.1)
    refine OFin.to (S' := T25.setTop (mkF m 58 #[.val (.int p0), .val (.int p1), .val (.int p2), .val (.int p3), .val (.int p4), .val (.ref b1), .val (.int (1 : Int32)), .val (.int (2 : Int32)), .val (.long (p0.toInt64)), .second, .val (.int p0), .val (.int p0), .unset, .unset, .unset, .unset] [])) st25 ?_
    refine OFin.of (S' := T25.setTop (mkF m 68 #[.val (.int p0), .val (.int p1), .val (.int p2), .val (.int p3), .val (.int p4), .val (.ref b1), .val (.int (1 : Int32)), .val (.int (2 : Int32)), .val (.long ((p0.toInt64) + (p1.toInt64))), .second, .val (.int p0), .val (.int p0), .unset, .unset, .unset, .unset] [(.int p1), (.int p0)])) (fun t ht => ?_) ?_
    · refine XS.lload X25.here hx rfl (hb hby at_58) rfl ?_
      show Steps p.tables e below (T25.setTop (mkF m 60 _ [(.long (p0.toInt64))])) _
      refine XS.iloadN X25.here hx rfl (hb hby at_60) rfl ?_
      show Steps p.tables e below (T25.setTop (mkF m 61 _ [(.int p1), (.long (p0.toInt64))])) _
      refine XS.i2l X25.here hx rfl (hb hby at_61) rfl ?_
      show Steps p.tables e below (T25.setTop (mkF m 62 _ [(.long (p1.toInt64)), (.long (p0.toInt64))])) _
      refine XS.ladd X25.here hx rfl (hb hby at_62) rfl ?_
      show Steps p.tables e below (T25.setTop (mkF m 63 _ [(.long ((p0.toInt64) + (p1.toInt64)))])) _
      refine XS.lstore X25.here hx rfl (hb hby at_63) rfl (l' := #[.val (.int p0), .val (.int p1), .val (.int p2), .val (.int p3), .val (.int p4), .val (.ref b1), .val (.int (1 : Int32)), .val (.int (2 : Int32)), .val (.long ((p0.toInt64) + (p1.toInt64))), .second, .val (.int p0), .val (.int p0), .unset, .unset, .unset, .unset]) rfl ?_
      show Steps p.tables e below (T25.setTop (mkF m 65 #[.val (.int p0), .val (.int p1), .val (.int p2), .val (.int p3), .val (.int p4), .val (.ref b1), .val (.int (1 : Int32)), .val (.int (2 : Int32)), .val (.long ((p0.toInt64) + (p1.toInt64))), .second, .val (.int p0), .val (.int p0), .unset, .unset, .unset, .unset] [])) _
      refine XS.iload X25.here hx rfl (hb hby at_65) rfl ?_
      show Steps p.tables e below (T25.setTop (mkF m 67 _ [(.int p0)])) _
      refine XS.iloadN X25.here hx rfl (hb hby at_67) rfl ?_
      exact ht
    obtain ⟨_, _, ⟨T35, L35, k35, n35⟩, -, X35, ⟨Lc35, hQ35, l35, y35, z35⟩, st35⟩ := Jvm.LawKit.callS X25 hx (y := (⟨"java/lang/Math", "min", "(II)I"⟩ : MethodName)) hown (mvT hZ (hw _ (List.mem_of_getElem? (i := 37) rfl))) (mvT hZ (hw _ (List.mem_of_getElem? (i := 31) rfl))) (mvT hZ (hw _ (List.mem_of_getElem? (i := 32) rfl))) (mvT hZ (hw _ (List.mem_of_getElem? (i := 33) rfl))) (by decide) (backOf (W := 0) (rmMn l Z _ hw [] p0 p1 T25.heap n0 Z34 ) hZ (hw _ (List.mem_of_getElem? (i := 33) rfl)) (hw _ (List.mem_of_getElem? (i := 32) rfl)) (by decide) (by decide)) (g := (mkF m 68 #[.val (.int p0), .val (.int p1), .val (.int p2), .val (.int p3), .val (.int p4), .val (.ref b1), .val (.int (1 : Int32)), .val (.int (2 : Int32)), .val (.long ((p0.toInt64) + (p1.toInt64))), .second, .val (.int p0), .val (.int p0), .unset, .unset, .unset, .unset] [(.int p1), (.int p0)])) rfl (by rw [hml]; rfl) (argsL := [(.int p0), (.int p1)]) (rest := []) (lenOf pd_1 rfl) rfl (by show 2 * 0 + _ ≤ _; exact Nat.le_of_eq rfl) (hb hby at_68) (fun _ _ => ⟨rfl, (rfl : T25.heap = T25.heap), (by decide : 1 + 0 ≤ _), (by decide : 5 + 0 ≤ _)⟩)
    dsimp only [Pt.U, Pt.locs, Pt.cells, Pt.slots] at X35 l35 y35 z35 st35 hQ35
    subst l35 y35 z35
    obtain ⟨rfl, Nq35, hs35⟩ := hQ35
    have N36 := Fr.app N32 Nq35
    refine OFin.of (S' := T35.setTop (mkF m 71 #[.val (.int p0), .val (.int p1), .val (.int p2), .val (.int p3), .val (.int p4), .val (.ref b1), .val (.int (1 : Int32)), .val (.int (2 : Int32)), .val (.long ((p0.toInt64) + (p1.toInt64))), .second, .val (.int p0), .val (.int p0), .unset, .unset, .unset, .unset] [(.int (own_min p0 p1))])) (fun t ht => st35 t ht) ?_
    refine OFin.of (S' := T35.setTop (mkF m 76 #[.val (.int p0), .val (.int p1), .val (.int p2), .val (.int p3), .val (.int p4), .val (.ref b1), .val (.int (1 : Int32)), .val (.int (2 : Int32)), .val (.long ((p0.toInt64) + (p1.toInt64))), .second, .val (.int (own_min p0 p1)), .val (.int p0), .unset, .unset, .unset, .unset] [(.int p1), (.int p0)])) (fun t ht => ?_) ?_
    · refine XS.istore X35.here hx rfl (hb hby at_71) rfl (l' := #[.val (.int p0), .val (.int p1), .val (.int p2), .val (.int p3), .val (.int p4), .val (.ref b1), .val (.int (1 : Int32)), .val (.int (2 : Int32)), .val (.long ((p0.toInt64) + (p1.toInt64))), .second, .val (.int (own_min p0 p1)), .val (.int p0), .unset, .unset, .unset, .unset]) rfl ?_
      show Steps p.tables e below (T35.setTop (mkF m 73 #[.val (.int p0), .val (.int p1), .val (.int p2), .val (.int p3), .val (.int p4), .val (.ref b1), .val (.int (1 : Int32)), .val (.int (2 : Int32)), .val (.long ((p0.toInt64) + (p1.toInt64))), .second, .val (.int (own_min p0 p1)), .val (.int p0), .unset, .unset, .unset, .unset] [])) _
      refine XS.iload X35.here hx rfl (hb hby at_73) rfl ?_
      show Steps p.tables e below (T35.setTop (mkF m 75 _ [(.int p0)])) _
      refine XS.iloadN X35.here hx rfl (hb hby at_75) rfl ?_
      exact ht
    obtain ⟨_, _, ⟨T37, L37, k37, n37⟩, -, X37, ⟨Lc37, hQ37, l37, y37, z37⟩, st37⟩ := Jvm.LawKit.callS X35 hx (y := (⟨"java/lang/Math", "max", "(II)I"⟩ : MethodName)) hown (mvT hZ (hw _ (List.mem_of_getElem? (i := 38) rfl))) (mvT hZ (hw _ (List.mem_of_getElem? (i := 35) rfl))) (mvT hZ (hw _ (List.mem_of_getElem? (i := 32) rfl))) (mvT hZ (hw _ (List.mem_of_getElem? (i := 36) rfl))) (by decide) (backOf (W := 0) (rmMx l Z _ hw [] p0 p1 T25.heap n0 Z34 ) hZ (hw _ (List.mem_of_getElem? (i := 36) rfl)) (hw _ (List.mem_of_getElem? (i := 32) rfl)) (by decide) (by decide)) (g := (mkF m 76 #[.val (.int p0), .val (.int p1), .val (.int p2), .val (.int p3), .val (.int p4), .val (.ref b1), .val (.int (1 : Int32)), .val (.int (2 : Int32)), .val (.long ((p0.toInt64) + (p1.toInt64))), .second, .val (.int (own_min p0 p1)), .val (.int p0), .unset, .unset, .unset, .unset] [(.int p1), (.int p0)])) rfl (by rw [hml]; rfl) (argsL := [(.int p0), (.int p1)]) (rest := []) (lenOf pd_1 rfl) rfl (by show 2 * 0 + _ ≤ _; exact Nat.le_of_eq rfl) (hb hby at_76) (fun _ _ => ⟨rfl, hs35, (by decide : 1 + 0 ≤ _), (by decide : 5 + 0 ≤ _)⟩)
    dsimp only [Pt.U, Pt.locs, Pt.cells, Pt.slots] at X37 l37 y37 z37 st37 hQ37
    subst l37 y37 z37
    obtain ⟨rfl, Nq37, hs37⟩ := hQ37
    have N38 := Fr.app N36 Nq37
    refine OFin.of (S' := T37.setTop (mkF m 79 #[.val (.int p0), .val (.int p1), .val (.int p2), .val (.int p3), .val (.int p4), .val (.ref b1), .val (.int (1 : Int32)), .val (.int (2 : Int32)), .val (.long ((p0.toInt64) + (p1.toInt64))), .second, .val (.int (own_min p0 p1)), .val (.int p0), .unset, .unset, .unset, .unset] [(.int (own_max p0 p1))])) (fun t ht => st37 t ht) ?_
    refine OFin.of (S' := T37.setTop (mkF m 153 #[.val (.int p0), .val (.int p1), .val (.int p2), .val (.int p3), .val (.int p4), .val (.ref b1), .val (.int (1 : Int32)), .val (.int (2 : Int32)), .val (.long ((p0.toInt64) + (p1.toInt64))), .second, .val (.int (own_min p0 p1)), .val (.int (own_max p0 p1)), .unset, .unset, .unset, .unset] [(.ref b1)])) (fun t ht => ?_) ?_
    · refine XS.istore X37.here hx rfl (hb hby at_79) rfl (l' := #[.val (.int p0), .val (.int p1), .val (.int p2), .val (.int p3), .val (.int p4), .val (.ref b1), .val (.int (1 : Int32)), .val (.int (2 : Int32)), .val (.long ((p0.toInt64) + (p1.toInt64))), .second, .val (.int (own_min p0 p1)), .val (.int (own_max p0 p1)), .unset, .unset, .unset, .unset]) rfl ?_
      show Steps p.tables e below (T37.setTop (mkF m 81 #[.val (.int p0), .val (.int p1), .val (.int p2), .val (.int p3), .val (.int p4), .val (.ref b1), .val (.int (1 : Int32)), .val (.int (2 : Int32)), .val (.long ((p0.toInt64) + (p1.toInt64))), .second, .val (.int (own_min p0 p1)), .val (.int (own_max p0 p1)), .unset, .unset, .unset, .unset] [])) _
      refine XS.iload X37.here hx rfl (hb hby at_81) rfl ?_
      show Steps p.tables e below (T37.setTop (mkF m 83 _ [(.int (2 : Int32))])) _
      refine XS.iconst X37.here hx rfl (hb hby at_83) ?_
      show Steps p.tables e below (T37.setTop (mkF m 84 _ [(.int (3 : Int32)), (.int (2 : Int32))])) _
      refine XS.icmpYes X37.here hx rfl (pc0 := 84) (pc' := 116) rfl (hb hby at_84) rfl (tlt (by decide : (2 : Int32) < (3 : Int32))).1 (by decide) (by decide) ?_
      show Steps p.tables e below (T37.setTop (mkF m 116 _ [])) _
      refine XS.iload X37.here hx rfl (hb hby at_116) rfl ?_
      show Steps p.tables e below (T37.setTop (mkF m 118 _ [(.int (2 : Int32))])) _
      refine XS.iconst X37.here hx rfl (hb hby at_118) ?_
      show Steps p.tables e below (T37.setTop (mkF m 119 _ [(.int (4 : Int32)), (.int (2 : Int32))])) _
      refine XS.icmpYes X37.here hx rfl (pc0 := 119) (pc' := 151) rfl (hb hby at_119) rfl (tlt (by decide : (2 : Int32) < (4 : Int32))).1 (by decide) (by decide) ?_
      show Steps p.tables e below (T37.setTop (mkF m 151 _ [])) _
      refine XS.aload X37.here hx rfl (hb hby at_151) rfl rfl ?_
      exact ht
    obtain ⟨cq40, kq40, q40a, q40b, q40c⟩ := isOf hZ hs37 f33
    obtain ⟨_, _, ⟨T39, L39, k39, n39⟩, -, X39, ⟨Lc39, hQ39, l39, y39, z39⟩, st39⟩ := X37.virtualBack hx (y := (⟨"com/example/weekly_activity_scheduler/weeklyactivityscheduler/core/Spread", "mean", "()D"⟩ : MethodName)) (z := (⟨"com/example/weekly_activity_scheduler/weeklyactivityscheduler/core/Spread", "mean", "()D"⟩ : MethodName)) hown (mvT hZ (hw _ (List.mem_of_getElem? (i := 17) rfl))) (mvT hZ (hw _ (List.mem_of_getElem? (i := 18) rfl))) (notFace_of_selects (args := #[]) (mvT hZ (hw _ (List.mem_of_getElem? (i := 20) rfl)))) (mvT hZ (hw _ (List.mem_of_getElem? (i := 20) rfl))) (mvT hZ (hw _ (List.mem_of_getElem? (i := 19) rfl))) (by decide) (backOf (W := 0) (rmMe l Z _ hw [] b1 (2 : Int64) ((p0.toInt64) + (p1.toInt64)) T25.heap n0 Z34 f27 f28 (by decide)) hZ (hw _ (List.mem_of_getElem? (i := 21) rfl)) (hw _ (List.mem_of_getElem? (i := 2) rfl)) (by decide) (by decide)) q40a q40c (g := (mkF m 153 #[.val (.int p0), .val (.int p1), .val (.int p2), .val (.int p3), .val (.int p4), .val (.ref b1), .val (.int (1 : Int32)), .val (.int (2 : Int32)), .val (.long ((p0.toInt64) + (p1.toInt64))), .second, .val (.int (own_min p0 p1)), .val (.int (own_max p0 p1)), .unset, .unset, .unset, .unset] [(.ref b1)])) rfl (by rw [hml]; rfl) (Steps.refl _) (argsL := []) (rest := []) (lenOf pd_0 rfl) rfl (by show 2 * 0 + _ ≤ _; exact Nat.le_of_eq rfl) (hb hby at_153) (fun _ _ => ⟨rfl, hs37, (by decide : 1 + 0 ≤ _), (by decide : 5 + 0 ≤ _)⟩)
    dsimp only [Pt.U, Pt.locs, Pt.cells, Pt.slots] at X39 l39 y39 z39 st39 hQ39
    subst l39 y39 z39
    obtain ⟨rfl, Nq39, hs39⟩ := hQ39
    have N41 := Fr.app N38 Nq39
    refine OFin.to (S' := T39.setTop (mkF m 156 #[.val (.int p0), .val (.int p1), .val (.int p2), .val (.int p3), .val (.int p4), .val (.ref b1), .val (.int (1 : Int32)), .val (.int (2 : Int32)), .val (.long ((p0.toInt64) + (p1.toInt64))), .second, .val (.int (own_min p0 p1)), .val (.int (own_max p0 p1)), .unset, .unset, .unset, .unset] [(.double (FP.ddiv (FP.l2d ((p0.toInt64) + (p1.toInt64))) (FP.l2d (2 : Int64))))])) st39 ?_
    refine OFin.of (S' := T39.setTop (mkF m 203 #[.val (.int p0), .val (.int p1), .val (.int p2), .val (.int p3), .val (.int p4), .val (.ref b1), .val (.int (1 : Int32)), .val (.int (2 : Int32)), .val (.long ((p0.toInt64) + (p1.toInt64))), .second, .val (.int (own_min p0 p1)), .val (.int (own_max p0 p1)), .val (.double (FP.ddiv (FP.l2d ((p0.toInt64) + (p1.toInt64))) (FP.l2d (2 : Int64)))), .second, .val (.double (FP.ddiv (FP.l2d ((p0.toInt64) + (p1.toInt64))) (FP.i2d (2 : Int32)))), .second] [(.int (1 : Int32))])) (fun t ht => ?_) ?_
    · refine XS.dstore X39.here hx rfl (hb hby at_156) rfl (l' := #[.val (.int p0), .val (.int p1), .val (.int p2), .val (.int p3), .val (.int p4), .val (.ref b1), .val (.int (1 : Int32)), .val (.int (2 : Int32)), .val (.long ((p0.toInt64) + (p1.toInt64))), .second, .val (.int (own_min p0 p1)), .val (.int (own_max p0 p1)), .val (.double (FP.ddiv (FP.l2d ((p0.toInt64) + (p1.toInt64))) (FP.l2d (2 : Int64)))), .second, .unset, .unset]) rfl ?_
      show Steps p.tables e below (T39.setTop (mkF m 158 #[.val (.int p0), .val (.int p1), .val (.int p2), .val (.int p3), .val (.int p4), .val (.ref b1), .val (.int (1 : Int32)), .val (.int (2 : Int32)), .val (.long ((p0.toInt64) + (p1.toInt64))), .second, .val (.int (own_min p0 p1)), .val (.int (own_max p0 p1)), .val (.double (FP.ddiv (FP.l2d ((p0.toInt64) + (p1.toInt64))) (FP.l2d (2 : Int64)))), .second, .unset, .unset] [])) _
      refine XS.lload X39.here hx rfl (hb hby at_158) rfl ?_
      show Steps p.tables e below (T39.setTop (mkF m 160 _ [(.long ((p0.toInt64) + (p1.toInt64)))])) _
      refine XS.l2dS X39.here hx rfl (hb hby at_160) rfl rfl ?_
      show Steps p.tables e below (T39.setTop (mkF m 161 _ [(.double (FP.l2d ((p0.toInt64) + (p1.toInt64))))])) _
      refine XS.iload X39.here hx rfl (hb hby at_161) rfl ?_
      show Steps p.tables e below (T39.setTop (mkF m 163 _ [(.int (2 : Int32)), (.double (FP.l2d ((p0.toInt64) + (p1.toInt64))))])) _
      refine XS.i2dS X39.here hx rfl (hb hby at_163) rfl rfl ?_
      show Steps p.tables e below (T39.setTop (mkF m 164 _ [(.double (FP.i2d (2 : Int32))), (.double (FP.l2d ((p0.toInt64) + (p1.toInt64))))])) _
      refine XS.ddivS X39.here hx rfl (hb hby at_164) rfl (own_nni _ (by decide)) rfl ?_
      show Steps p.tables e below (T39.setTop (mkF m 165 _ [(.double (FP.ddiv (FP.l2d ((p0.toInt64) + (p1.toInt64))) (FP.i2d (2 : Int32))))])) _
      refine XS.dstore X39.here hx rfl (hb hby at_165) rfl (l' := #[.val (.int p0), .val (.int p1), .val (.int p2), .val (.int p3), .val (.int p4), .val (.ref b1), .val (.int (1 : Int32)), .val (.int (2 : Int32)), .val (.long ((p0.toInt64) + (p1.toInt64))), .second, .val (.int (own_min p0 p1)), .val (.int (own_max p0 p1)), .val (.double (FP.ddiv (FP.l2d ((p0.toInt64) + (p1.toInt64))) (FP.l2d (2 : Int64)))), .second, .val (.double (FP.ddiv (FP.l2d ((p0.toInt64) + (p1.toInt64))) (FP.i2d (2 : Int32)))), .second]) rfl ?_
      show Steps p.tables e below (T39.setTop (mkF m 167 #[.val (.int p0), .val (.int p1), .val (.int p2), .val (.int p3), .val (.int p4), .val (.ref b1), .val (.int (1 : Int32)), .val (.int (2 : Int32)), .val (.long ((p0.toInt64) + (p1.toInt64))), .second, .val (.int (own_min p0 p1)), .val (.int (own_max p0 p1)), .val (.double (FP.ddiv (FP.l2d ((p0.toInt64) + (p1.toInt64))) (FP.l2d (2 : Int64)))), .second, .val (.double (FP.ddiv (FP.l2d ((p0.toInt64) + (p1.toInt64))) (FP.i2d (2 : Int32)))), .second] [])) _
      refine XS.iload X39.here hx rfl (hb hby at_167) rfl ?_
      show Steps p.tables e below (T39.setTop (mkF m 169 _ [(.int (1 : Int32))])) _
      refine XS.ifNo X39.here hx rfl (hb hby at_169) rfl ((if0 _ _).trans (feq (by decide : ¬ ((1 : Int32) = (0 : Int32)))).1) ?_
      show Steps p.tables e below (T39.setTop (mkF m 172 _ [])) _
      refine XS.dload X39.here hx rfl (hb hby at_172) rfl ?_
      show Steps p.tables e below (T39.setTop (mkF m 174 _ [(.double (FP.ddiv (FP.l2d ((p0.toInt64) + (p1.toInt64))) (FP.l2d (2 : Int64))))])) _
      refine XS.dload X39.here hx rfl (hb hby at_174) rfl ?_
      show Steps p.tables e below (T39.setTop (mkF m 176 _ [(.double (FP.ddiv (FP.l2d ((p0.toInt64) + (p1.toInt64))) (FP.i2d (2 : Int32)))), (.double (FP.ddiv (FP.l2d ((p0.toInt64) + (p1.toInt64))) (FP.l2d (2 : Int64))))])) _
      refine XS.dcmpS X39.here hx rfl (hb hby at_176) rfl rfl ?_
      show Steps p.tables e below (T39.setTop (mkF m 177 _ [(.int (cmpValue (FP.dcmp (FP.ddiv (FP.l2d ((p0.toInt64) + (p1.toInt64))) (FP.l2d (2 : Int64))) (FP.ddiv (FP.l2d ((p0.toInt64) + (p1.toInt64))) (FP.i2d (2 : Int32)))) .l))])) _
      refine XS.ifNo X39.here hx rfl (hb hby at_177) rfl ((if0 _ _).trans (teq (own_eq2 _ _ : (cmpValue (FP.dcmp (FP.ddiv (FP.l2d ((p0.toInt64) + (p1.toInt64))) (FP.l2d (2 : Int64))) (FP.ddiv (FP.l2d ((p0.toInt64) + (p1.toInt64))) (FP.i2d (2 : Int32)))) .l) = (0 : Int32))).2) ?_
      show Steps p.tables e below (T39.setTop (mkF m 180 _ [])) _
      refine XS.iload X39.here hx rfl (hb hby at_180) rfl ?_
      show Steps p.tables e below (T39.setTop (mkF m 182 _ [(.int (own_min p0 p1))])) _
      refine XS.i2dS X39.here hx rfl (hb hby at_182) rfl rfl ?_
      show Steps p.tables e below (T39.setTop (mkF m 183 _ [(.double (FP.i2d (own_min p0 p1)))])) _
      refine XS.dload X39.here hx rfl (hb hby at_183) rfl ?_
      show Steps p.tables e below (T39.setTop (mkF m 185 _ [(.double (FP.ddiv (FP.l2d ((p0.toInt64) + (p1.toInt64))) (FP.l2d (2 : Int64)))), (.double (FP.i2d (own_min p0 p1)))])) _
      refine XS.dcmpS X39.here hx rfl (hb hby at_185) rfl rfl ?_
      show Steps p.tables e below (T39.setTop (mkF m 186 _ [(.int (cmpValue (FP.dcmp (FP.i2d (own_min p0 p1)) (FP.ddiv (FP.l2d ((p0.toInt64) + (p1.toInt64))) (FP.l2d (2 : Int64)))) .g))])) _
      refine XS.ifNo X39.here hx rfl (hb hby at_186) rfl ((if0 _ _).trans (flt (own_lo2 _ _ : ¬ ((0 : Int32) < (cmpValue (FP.dcmp (FP.i2d (own_min p0 p1)) (FP.ddiv (FP.l2d ((p0.toInt64) + (p1.toInt64))) (FP.l2d (2 : Int64)))) .g)))).2.2.1) ?_
      show Steps p.tables e below (T39.setTop (mkF m 189 _ [])) _
      refine XS.dload X39.here hx rfl (hb hby at_189) rfl ?_
      show Steps p.tables e below (T39.setTop (mkF m 191 _ [(.double (FP.ddiv (FP.l2d ((p0.toInt64) + (p1.toInt64))) (FP.l2d (2 : Int64))))])) _
      refine XS.iload X39.here hx rfl (hb hby at_191) rfl ?_
      show Steps p.tables e below (T39.setTop (mkF m 193 _ [(.int (own_max p0 p1)), (.double (FP.ddiv (FP.l2d ((p0.toInt64) + (p1.toInt64))) (FP.l2d (2 : Int64))))])) _
      refine XS.i2dS X39.here hx rfl (hb hby at_193) rfl rfl ?_
      show Steps p.tables e below (T39.setTop (mkF m 194 _ [(.double (FP.i2d (own_max p0 p1))), (.double (FP.ddiv (FP.l2d ((p0.toInt64) + (p1.toInt64))) (FP.l2d (2 : Int64))))])) _
      refine XS.dcmpS X39.here hx rfl (hb hby at_194) rfl rfl ?_
      show Steps p.tables e below (T39.setTop (mkF m 195 _ [(.int (cmpValue (FP.dcmp (FP.ddiv (FP.l2d ((p0.toInt64) + (p1.toInt64))) (FP.l2d (2 : Int64))) (FP.i2d (own_max p0 p1))) .g))])) _
      refine XS.ifNo X39.here hx rfl (hb hby at_195) rfl ((if0 _ _).trans (flt (own_hi2 _ _ : ¬ ((0 : Int32) < (cmpValue (FP.dcmp (FP.ddiv (FP.l2d ((p0.toInt64) + (p1.toInt64))) (FP.l2d (2 : Int64))) (FP.i2d (own_max p0 p1))) .g)))).2.2.1) ?_
      show Steps p.tables e below (T39.setTop (mkF m 198 _ [])) _
      refine XS.iconst X39.here hx rfl (hb hby at_198) ?_
      show Steps p.tables e below (T39.setTop (mkF m 199 _ [(.int (1 : Int32))])) _
      refine XS.goto X39.here hx rfl (pc0 := 199) (pc' := 203) rfl (hb hby at_199) (by decide) (by decide) ?_
      exact ht
    exact OFin.retB X39 hx hlk (t := .boolean) (by simp) hret (hb hby at_203) (by decide) (by decide) (by rw [hs39]; exact ⟨rfl, N41⟩)
  · rw [hq21]
    refine OFin.of (S' := T18.setTop (mkF m 55 #[.val (.int p0), .val (.int p1), .val (.int p2), .val (.int p3), .val (.int p4), .val (.ref b1), .val (.int (1 : Int32)), .val (.int (3 : Int32)), .val (.long (p0.toInt64)), .second, .val (.int p0), .val (.int p0), .unset, .unset, .unset, .unset] [(.int p1), (.ref b1)])) (fun t ht => ?_) ?_
    · refine XS.iadd X18.here hx rfl (hb hby at_33) rfl ?_
      show Steps p.tables e below (T18.setTop (mkF m 34 _ [(.int (3 : Int32))])) _
      refine XS.istore X18.here hx rfl (hb hby at_34) rfl (l' := #[.val (.int p0), .val (.int p1), .val (.int p2), .val (.int p3), .val (.int p4), .val (.ref b1), .val (.int (1 : Int32)), .val (.int (3 : Int32)), .unset, .unset, .unset, .unset, .unset, .unset, .unset, .unset]) rfl ?_
      show Steps p.tables e below (T18.setTop (mkF m 36 #[.val (.int p0), .val (.int p1), .val (.int p2), .val (.int p3), .val (.int p4), .val (.ref b1), .val (.int (1 : Int32)), .val (.int (3 : Int32)), .unset, .unset, .unset, .unset, .unset, .unset, .unset, .unset] [])) _
      refine XS.iloadN X18.here hx rfl (hb hby at_36) rfl ?_
      show Steps p.tables e below (T18.setTop (mkF m 37 _ [(.int p0)])) _
      refine XS.i2l X18.here hx rfl (hb hby at_37) rfl ?_
      show Steps p.tables e below (T18.setTop (mkF m 38 _ [(.long (p0.toInt64))])) _
      refine XS.lstore X18.here hx rfl (hb hby at_38) rfl (l' := #[.val (.int p0), .val (.int p1), .val (.int p2), .val (.int p3), .val (.int p4), .val (.ref b1), .val (.int (1 : Int32)), .val (.int (3 : Int32)), .val (.long (p0.toInt64)), .second, .unset, .unset, .unset, .unset, .unset, .unset]) rfl ?_
      show Steps p.tables e below (T18.setTop (mkF m 40 #[.val (.int p0), .val (.int p1), .val (.int p2), .val (.int p3), .val (.int p4), .val (.ref b1), .val (.int (1 : Int32)), .val (.int (3 : Int32)), .val (.long (p0.toInt64)), .second, .unset, .unset, .unset, .unset, .unset, .unset] [])) _
      refine XS.iloadN X18.here hx rfl (hb hby at_40) rfl ?_
      show Steps p.tables e below (T18.setTop (mkF m 41 _ [(.int p0)])) _
      refine XS.istore X18.here hx rfl (hb hby at_41) rfl (l' := #[.val (.int p0), .val (.int p1), .val (.int p2), .val (.int p3), .val (.int p4), .val (.ref b1), .val (.int (1 : Int32)), .val (.int (3 : Int32)), .val (.long (p0.toInt64)), .second, .val (.int p0), .unset, .unset, .unset, .unset, .unset]) rfl ?_
      show Steps p.tables e below (T18.setTop (mkF m 43 #[.val (.int p0), .val (.int p1), .val (.int p2), .val (.int p3), .val (.int p4), .val (.ref b1), .val (.int (1 : Int32)), .val (.int (3 : Int32)), .val (.long (p0.toInt64)), .second, .val (.int p0), .unset, .unset, .unset, .unset, .unset] [])) _
      refine XS.iloadN X18.here hx rfl (hb hby at_43) rfl ?_
      show Steps p.tables e below (T18.setTop (mkF m 44 _ [(.int p0)])) _
      refine XS.istore X18.here hx rfl (hb hby at_44) rfl (l' := #[.val (.int p0), .val (.int p1), .val (.int p2), .val (.int p3), .val (.int p4), .val (.ref b1), .val (.int (1 : Int32)), .val (.int (3 : Int32)), .val (.long (p0.toInt64)), .second, .val (.int p0), .val (.int p0), .unset, .unset, .unset, .unset]) rfl ?_
      show Steps p.tables e below (T18.setTop (mkF m 46 #[.val (.int p0), .val (.int p1), .val (.int p2), .val (.int p3), .val (.int p4), .val (.ref b1), .val (.int (1 : Int32)), .val (.int (3 : Int32)), .val (.long (p0.toInt64)), .second, .val (.int p0), .val (.int p0), .unset, .unset, .unset, .unset] [])) _
      refine XS.iload X18.here hx rfl (hb hby at_46) rfl ?_
      show Steps p.tables e below (T18.setTop (mkF m 48 _ [(.int (3 : Int32))])) _
      refine XS.iconst X18.here hx rfl (hb hby at_48) ?_
      show Steps p.tables e below (T18.setTop (mkF m 49 _ [(.int (2 : Int32)), (.int (3 : Int32))])) _
      refine XS.icmpNo X18.here hx rfl (hb hby at_49) rfl (flt (by decide : ¬ ((3 : Int32) < (2 : Int32)))).1 ?_
      show Steps p.tables e below (T18.setTop (mkF m 52 _ [])) _
      refine XS.aload X18.here hx rfl (hb hby at_52) rfl rfl ?_
      show Steps p.tables e below (T18.setTop (mkF m 54 _ [(.ref b1)])) _
      refine XS.iloadN X18.here hx rfl (hb hby at_54) rfl ?_
      exact ht
    obtain ⟨cq43, kq43, q43a, q43b, q43c⟩ := isOf hZ hs18 f16
    obtain ⟨_, _, ⟨T42, L42, k42, n42⟩, -, X42, ⟨Lc42, hQ42, l42, y42, z42⟩, st42⟩ := X18.virtualBack hx (y := (⟨"com/example/weekly_activity_scheduler/weeklyactivityscheduler/core/Spread", "add", "(I)V"⟩ : MethodName)) (z := (⟨"com/example/weekly_activity_scheduler/weeklyactivityscheduler/core/Spread", "add", "(I)V"⟩ : MethodName)) hown (mvT hZ (hw _ (List.mem_of_getElem? (i := 22) rfl))) (mvT hZ (hw _ (List.mem_of_getElem? (i := 23) rfl))) (notFace_of_selects (args := #[]) (mvT hZ (hw _ (List.mem_of_getElem? (i := 25) rfl)))) (mvT hZ (hw _ (List.mem_of_getElem? (i := 25) rfl))) (mvT hZ (hw _ (List.mem_of_getElem? (i := 24) rfl))) (by decide) (backOf (W := 0) (rmAd l Z _ hw [] b1 p1 (1 : Int64) (p0.toInt64) p0 p0 0 1160 T9.heap n0 Z17 f16 f10 f11 f12 f13 f14 g2 (by decide) (by decide) own_mag0 (by decide) (by decide)) hZ (hw _ (List.mem_of_getElem? (i := 26) rfl)) (hw _ (List.mem_of_getElem? (i := 2) rfl)) (by decide) (by decide)) q43a q43c (g := (mkF m 55 #[.val (.int p0), .val (.int p1), .val (.int p2), .val (.int p3), .val (.int p4), .val (.ref b1), .val (.int (1 : Int32)), .val (.int (3 : Int32)), .val (.long (p0.toInt64)), .second, .val (.int p0), .val (.int p0), .unset, .unset, .unset, .unset] [(.int p1), (.ref b1)])) rfl (by rw [hml]; rfl) (Steps.refl _) (argsL := [(.int p1)]) (rest := []) (lenOf pd_2 rfl) rfl (by show 2 * 0 + _ ≤ _; exact Nat.le_of_eq rfl) (hb hby at_55) (fun _ _ => ⟨rfl, hs18, (by decide : 1 + 0 ≤ _), (by decide : 5 + 0 ≤ _)⟩)
    dsimp only [Pt.U, Pt.locs, Pt.cells, Pt.slots] at X42 l42 y42 z42 st42 hQ42
    subst l42 y42 z42
    obtain ⟨rfl, Nq42, Kq42, f44, f45, f46, f47, f48⟩ := hQ42
    have N49 := Fr.app N20 Nq42
    have f50 := (f16.keep Kq42)
    have Z51 : n0 ≤ T42.heap.size := (Nat.le_trans Z17 Kq42.1)
    refine OFin.to (S' := T42.setTop (mkF m 58 #[.val (.int p0), .val (.int p1), .val (.int p2), .val (.int p3), .val (.int p4), .val (.ref b1), .val (.int (1 : Int32)), .val (.int (3 : Int32)), .val (.long (p0.toInt64)), .second, .val (.int p0), .val (.int p0), .unset, .unset, .unset, .unset] [])) st42 ?_
    refine OFin.of (S' := T42.setTop (mkF m 68 #[.val (.int p0), .val (.int p1), .val (.int p2), .val (.int p3), .val (.int p4), .val (.ref b1), .val (.int (1 : Int32)), .val (.int (3 : Int32)), .val (.long ((p0.toInt64) + (p1.toInt64))), .second, .val (.int p0), .val (.int p0), .unset, .unset, .unset, .unset] [(.int p1), (.int p0)])) (fun t ht => ?_) ?_
    · refine XS.lload X42.here hx rfl (hb hby at_58) rfl ?_
      show Steps p.tables e below (T42.setTop (mkF m 60 _ [(.long (p0.toInt64))])) _
      refine XS.iloadN X42.here hx rfl (hb hby at_60) rfl ?_
      show Steps p.tables e below (T42.setTop (mkF m 61 _ [(.int p1), (.long (p0.toInt64))])) _
      refine XS.i2l X42.here hx rfl (hb hby at_61) rfl ?_
      show Steps p.tables e below (T42.setTop (mkF m 62 _ [(.long (p1.toInt64)), (.long (p0.toInt64))])) _
      refine XS.ladd X42.here hx rfl (hb hby at_62) rfl ?_
      show Steps p.tables e below (T42.setTop (mkF m 63 _ [(.long ((p0.toInt64) + (p1.toInt64)))])) _
      refine XS.lstore X42.here hx rfl (hb hby at_63) rfl (l' := #[.val (.int p0), .val (.int p1), .val (.int p2), .val (.int p3), .val (.int p4), .val (.ref b1), .val (.int (1 : Int32)), .val (.int (3 : Int32)), .val (.long ((p0.toInt64) + (p1.toInt64))), .second, .val (.int p0), .val (.int p0), .unset, .unset, .unset, .unset]) rfl ?_
      show Steps p.tables e below (T42.setTop (mkF m 65 #[.val (.int p0), .val (.int p1), .val (.int p2), .val (.int p3), .val (.int p4), .val (.ref b1), .val (.int (1 : Int32)), .val (.int (3 : Int32)), .val (.long ((p0.toInt64) + (p1.toInt64))), .second, .val (.int p0), .val (.int p0), .unset, .unset, .unset, .unset] [])) _
      refine XS.iload X42.here hx rfl (hb hby at_65) rfl ?_
      show Steps p.tables e below (T42.setTop (mkF m 67 _ [(.int p0)])) _
      refine XS.iloadN X42.here hx rfl (hb hby at_67) rfl ?_
      exact ht
    obtain ⟨_, _, ⟨T52, L52, k52, n52⟩, -, X52, ⟨Lc52, hQ52, l52, y52, z52⟩, st52⟩ := Jvm.LawKit.callS X42 hx (y := (⟨"java/lang/Math", "min", "(II)I"⟩ : MethodName)) hown (mvT hZ (hw _ (List.mem_of_getElem? (i := 37) rfl))) (mvT hZ (hw _ (List.mem_of_getElem? (i := 31) rfl))) (mvT hZ (hw _ (List.mem_of_getElem? (i := 32) rfl))) (mvT hZ (hw _ (List.mem_of_getElem? (i := 33) rfl))) (by decide) (backOf (W := 0) (rmMn l Z _ hw [] p0 p1 T42.heap n0 Z51 ) hZ (hw _ (List.mem_of_getElem? (i := 33) rfl)) (hw _ (List.mem_of_getElem? (i := 32) rfl)) (by decide) (by decide)) (g := (mkF m 68 #[.val (.int p0), .val (.int p1), .val (.int p2), .val (.int p3), .val (.int p4), .val (.ref b1), .val (.int (1 : Int32)), .val (.int (3 : Int32)), .val (.long ((p0.toInt64) + (p1.toInt64))), .second, .val (.int p0), .val (.int p0), .unset, .unset, .unset, .unset] [(.int p1), (.int p0)])) rfl (by rw [hml]; rfl) (argsL := [(.int p0), (.int p1)]) (rest := []) (lenOf pd_1 rfl) rfl (by show 2 * 0 + _ ≤ _; exact Nat.le_of_eq rfl) (hb hby at_68) (fun _ _ => ⟨rfl, (rfl : T42.heap = T42.heap), (by decide : 1 + 0 ≤ _), (by decide : 5 + 0 ≤ _)⟩)
    dsimp only [Pt.U, Pt.locs, Pt.cells, Pt.slots] at X52 l52 y52 z52 st52 hQ52
    subst l52 y52 z52
    obtain ⟨rfl, Nq52, hs52⟩ := hQ52
    have N53 := Fr.app N49 Nq52
    refine OFin.of (S' := T52.setTop (mkF m 71 #[.val (.int p0), .val (.int p1), .val (.int p2), .val (.int p3), .val (.int p4), .val (.ref b1), .val (.int (1 : Int32)), .val (.int (3 : Int32)), .val (.long ((p0.toInt64) + (p1.toInt64))), .second, .val (.int p0), .val (.int p0), .unset, .unset, .unset, .unset] [(.int (own_min p0 p1))])) (fun t ht => st52 t ht) ?_
    refine OFin.of (S' := T52.setTop (mkF m 76 #[.val (.int p0), .val (.int p1), .val (.int p2), .val (.int p3), .val (.int p4), .val (.ref b1), .val (.int (1 : Int32)), .val (.int (3 : Int32)), .val (.long ((p0.toInt64) + (p1.toInt64))), .second, .val (.int (own_min p0 p1)), .val (.int p0), .unset, .unset, .unset, .unset] [(.int p1), (.int p0)])) (fun t ht => ?_) ?_
    · refine XS.istore X52.here hx rfl (hb hby at_71) rfl (l' := #[.val (.int p0), .val (.int p1), .val (.int p2), .val (.int p3), .val (.int p4), .val (.ref b1), .val (.int (1 : Int32)), .val (.int (3 : Int32)), .val (.long ((p0.toInt64) + (p1.toInt64))), .second, .val (.int (own_min p0 p1)), .val (.int p0), .unset, .unset, .unset, .unset]) rfl ?_
      show Steps p.tables e below (T52.setTop (mkF m 73 #[.val (.int p0), .val (.int p1), .val (.int p2), .val (.int p3), .val (.int p4), .val (.ref b1), .val (.int (1 : Int32)), .val (.int (3 : Int32)), .val (.long ((p0.toInt64) + (p1.toInt64))), .second, .val (.int (own_min p0 p1)), .val (.int p0), .unset, .unset, .unset, .unset] [])) _
      refine XS.iload X52.here hx rfl (hb hby at_73) rfl ?_
      show Steps p.tables e below (T52.setTop (mkF m 75 _ [(.int p0)])) _
      refine XS.iloadN X52.here hx rfl (hb hby at_75) rfl ?_
      exact ht
    obtain ⟨_, _, ⟨T54, L54, k54, n54⟩, -, X54, ⟨Lc54, hQ54, l54, y54, z54⟩, st54⟩ := Jvm.LawKit.callS X52 hx (y := (⟨"java/lang/Math", "max", "(II)I"⟩ : MethodName)) hown (mvT hZ (hw _ (List.mem_of_getElem? (i := 38) rfl))) (mvT hZ (hw _ (List.mem_of_getElem? (i := 35) rfl))) (mvT hZ (hw _ (List.mem_of_getElem? (i := 32) rfl))) (mvT hZ (hw _ (List.mem_of_getElem? (i := 36) rfl))) (by decide) (backOf (W := 0) (rmMx l Z _ hw [] p0 p1 T42.heap n0 Z51 ) hZ (hw _ (List.mem_of_getElem? (i := 36) rfl)) (hw _ (List.mem_of_getElem? (i := 32) rfl)) (by decide) (by decide)) (g := (mkF m 76 #[.val (.int p0), .val (.int p1), .val (.int p2), .val (.int p3), .val (.int p4), .val (.ref b1), .val (.int (1 : Int32)), .val (.int (3 : Int32)), .val (.long ((p0.toInt64) + (p1.toInt64))), .second, .val (.int (own_min p0 p1)), .val (.int p0), .unset, .unset, .unset, .unset] [(.int p1), (.int p0)])) rfl (by rw [hml]; rfl) (argsL := [(.int p0), (.int p1)]) (rest := []) (lenOf pd_1 rfl) rfl (by show 2 * 0 + _ ≤ _; exact Nat.le_of_eq rfl) (hb hby at_76) (fun _ _ => ⟨rfl, hs52, (by decide : 1 + 0 ≤ _), (by decide : 5 + 0 ≤ _)⟩)
    dsimp only [Pt.U, Pt.locs, Pt.cells, Pt.slots] at X54 l54 y54 z54 st54 hQ54
    subst l54 y54 z54
    obtain ⟨rfl, Nq54, hs54⟩ := hQ54
    have N55 := Fr.app N53 Nq54
    refine OFin.of (S' := T54.setTop (mkF m 79 #[.val (.int p0), .val (.int p1), .val (.int p2), .val (.int p3), .val (.int p4), .val (.ref b1), .val (.int (1 : Int32)), .val (.int (3 : Int32)), .val (.long ((p0.toInt64) + (p1.toInt64))), .second, .val (.int (own_min p0 p1)), .val (.int p0), .unset, .unset, .unset, .unset] [(.int (own_max p0 p1))])) (fun t ht => st54 t ht) ?_
    refine OFin.of (S' := T54.setTop (mkF m 90 #[.val (.int p0), .val (.int p1), .val (.int p2), .val (.int p3), .val (.int p4), .val (.ref b1), .val (.int (1 : Int32)), .val (.int (3 : Int32)), .val (.long ((p0.toInt64) + (p1.toInt64))), .second, .val (.int (own_min p0 p1)), .val (.int (own_max p0 p1)), .unset, .unset, .unset, .unset] [(.int p2), (.ref b1)])) (fun t ht => ?_) ?_
    · refine XS.istore X54.here hx rfl (hb hby at_79) rfl (l' := #[.val (.int p0), .val (.int p1), .val (.int p2), .val (.int p3), .val (.int p4), .val (.ref b1), .val (.int (1 : Int32)), .val (.int (3 : Int32)), .val (.long ((p0.toInt64) + (p1.toInt64))), .second, .val (.int (own_min p0 p1)), .val (.int (own_max p0 p1)), .unset, .unset, .unset, .unset]) rfl ?_
      show Steps p.tables e below (T54.setTop (mkF m 81 #[.val (.int p0), .val (.int p1), .val (.int p2), .val (.int p3), .val (.int p4), .val (.ref b1), .val (.int (1 : Int32)), .val (.int (3 : Int32)), .val (.long ((p0.toInt64) + (p1.toInt64))), .second, .val (.int (own_min p0 p1)), .val (.int (own_max p0 p1)), .unset, .unset, .unset, .unset] [])) _
      refine XS.iload X54.here hx rfl (hb hby at_81) rfl ?_
      show Steps p.tables e below (T54.setTop (mkF m 83 _ [(.int (3 : Int32))])) _
      refine XS.iconst X54.here hx rfl (hb hby at_83) ?_
      show Steps p.tables e below (T54.setTop (mkF m 84 _ [(.int (3 : Int32)), (.int (3 : Int32))])) _
      refine XS.icmpNo X54.here hx rfl (hb hby at_84) rfl (flt (by decide : ¬ ((3 : Int32) < (3 : Int32)))).1 ?_
      show Steps p.tables e below (T54.setTop (mkF m 87 _ [])) _
      refine XS.aload X54.here hx rfl (hb hby at_87) rfl rfl ?_
      show Steps p.tables e below (T54.setTop (mkF m 89 _ [(.ref b1)])) _
      refine XS.iloadN X54.here hx rfl (hb hby at_89) rfl ?_
      exact ht
    obtain ⟨cq57, kq57, q57a, q57b, q57c⟩ := isOf hZ hs54 f50
    obtain ⟨_, _, ⟨T56, L56, k56, n56⟩, -, X56, ⟨Lc56, hQ56, l56, y56, z56⟩, st56⟩ := X54.virtualBack hx (y := (⟨"com/example/weekly_activity_scheduler/weeklyactivityscheduler/core/Spread", "add", "(I)V"⟩ : MethodName)) (z := (⟨"com/example/weekly_activity_scheduler/weeklyactivityscheduler/core/Spread", "add", "(I)V"⟩ : MethodName)) hown (mvT hZ (hw _ (List.mem_of_getElem? (i := 22) rfl))) (mvT hZ (hw _ (List.mem_of_getElem? (i := 23) rfl))) (notFace_of_selects (args := #[]) (mvT hZ (hw _ (List.mem_of_getElem? (i := 25) rfl)))) (mvT hZ (hw _ (List.mem_of_getElem? (i := 25) rfl))) (mvT hZ (hw _ (List.mem_of_getElem? (i := 24) rfl))) (by decide) (backOf (W := 0) (rmAd l Z _ hw [] b1 p2 (2 : Int64) ((p0.toInt64) + (p1.toInt64)) (own_min p0 p1) (own_max p0 p1) (FP.dadd 0 (FP.dmul (FP.dsub (FP.i2d p1) (FP.ddiv (FP.l2d (p0.toInt64)) (FP.l2d (1 : Int64)))) (FP.dsub (FP.i2d p1) (FP.ddiv (FP.l2d ((p0.toInt64) + (p1.toInt64))) (FP.l2d (2 : Int64)))))) 1162 T42.heap n0 Z51 f50 f44 f45 f46 f47 f48 g2 (by decide) (by decide) (own_sdMag p1 (p0.toInt64) ((p0.toInt64) + (p1.toInt64)) (w := (1 : Int64)) (w' := (2 : Int64)) own_mag0 (by decide) (by decide) (by decide) (by decide)) (by decide) (by decide)) hZ (hw _ (List.mem_of_getElem? (i := 26) rfl)) (hw _ (List.mem_of_getElem? (i := 2) rfl)) (by decide) (by decide)) q57a q57c (g := (mkF m 90 #[.val (.int p0), .val (.int p1), .val (.int p2), .val (.int p3), .val (.int p4), .val (.ref b1), .val (.int (1 : Int32)), .val (.int (3 : Int32)), .val (.long ((p0.toInt64) + (p1.toInt64))), .second, .val (.int (own_min p0 p1)), .val (.int (own_max p0 p1)), .unset, .unset, .unset, .unset] [(.int p2), (.ref b1)])) rfl (by rw [hml]; rfl) (Steps.refl _) (argsL := [(.int p2)]) (rest := []) (lenOf pd_2 rfl) rfl (by show 2 * 0 + _ ≤ _; exact Nat.le_of_eq rfl) (hb hby at_90) (fun _ _ => ⟨rfl, hs54, (by decide : 1 + 0 ≤ _), (by decide : 5 + 0 ≤ _)⟩)
    dsimp only [Pt.U, Pt.locs, Pt.cells, Pt.slots] at X56 l56 y56 z56 st56 hQ56
    subst l56 y56 z56
    obtain ⟨rfl, Nq56, Kq56, f58, f59, f60, f61, f62⟩ := hQ56
    have N63 := Fr.app N55 Nq56
    have f64 := (f50.keep Kq56)
    have Z65 : n0 ≤ T56.heap.size := (Nat.le_trans Z51 Kq56.1)
    refine OFin.to (S' := T56.setTop (mkF m 93 #[.val (.int p0), .val (.int p1), .val (.int p2), .val (.int p3), .val (.int p4), .val (.ref b1), .val (.int (1 : Int32)), .val (.int (3 : Int32)), .val (.long ((p0.toInt64) + (p1.toInt64))), .second, .val (.int (own_min p0 p1)), .val (.int (own_max p0 p1)), .unset, .unset, .unset, .unset] [])) st56 ?_
    refine OFin.of (S' := T56.setTop (mkF m 103 #[.val (.int p0), .val (.int p1), .val (.int p2), .val (.int p3), .val (.int p4), .val (.ref b1), .val (.int (1 : Int32)), .val (.int (3 : Int32)), .val (.long (((p0.toInt64) + (p1.toInt64)) + (p2.toInt64))), .second, .val (.int (own_min p0 p1)), .val (.int (own_max p0 p1)), .unset, .unset, .unset, .unset] [(.int p2), (.int (own_min p0 p1))])) (fun t ht => ?_) ?_
    · refine XS.lload X56.here hx rfl (hb hby at_93) rfl ?_
      show Steps p.tables e below (T56.setTop (mkF m 95 _ [(.long ((p0.toInt64) + (p1.toInt64)))])) _
      refine XS.iloadN X56.here hx rfl (hb hby at_95) rfl ?_
      show Steps p.tables e below (T56.setTop (mkF m 96 _ [(.int p2), (.long ((p0.toInt64) + (p1.toInt64)))])) _
      refine XS.i2l X56.here hx rfl (hb hby at_96) rfl ?_
      show Steps p.tables e below (T56.setTop (mkF m 97 _ [(.long (p2.toInt64)), (.long ((p0.toInt64) + (p1.toInt64)))])) _
      refine XS.ladd X56.here hx rfl (hb hby at_97) rfl ?_
      show Steps p.tables e below (T56.setTop (mkF m 98 _ [(.long (((p0.toInt64) + (p1.toInt64)) + (p2.toInt64)))])) _
      refine XS.lstore X56.here hx rfl (hb hby at_98) rfl (l' := #[.val (.int p0), .val (.int p1), .val (.int p2), .val (.int p3), .val (.int p4), .val (.ref b1), .val (.int (1 : Int32)), .val (.int (3 : Int32)), .val (.long (((p0.toInt64) + (p1.toInt64)) + (p2.toInt64))), .second, .val (.int (own_min p0 p1)), .val (.int (own_max p0 p1)), .unset, .unset, .unset, .unset]) rfl ?_
      show Steps p.tables e below (T56.setTop (mkF m 100 #[.val (.int p0), .val (.int p1), .val (.int p2), .val (.int p3), .val (.int p4), .val (.ref b1), .val (.int (1 : Int32)), .val (.int (3 : Int32)), .val (.long (((p0.toInt64) + (p1.toInt64)) + (p2.toInt64))), .second, .val (.int (own_min p0 p1)), .val (.int (own_max p0 p1)), .unset, .unset, .unset, .unset] [])) _
      refine XS.iload X56.here hx rfl (hb hby at_100) rfl ?_
      show Steps p.tables e below (T56.setTop (mkF m 102 _ [(.int (own_min p0 p1))])) _
      refine XS.iloadN X56.here hx rfl (hb hby at_102) rfl ?_
      exact ht
    obtain ⟨_, _, ⟨T66, L66, k66, n66⟩, -, X66, ⟨Lc66, hQ66, l66, y66, z66⟩, st66⟩ := Jvm.LawKit.callS X56 hx (y := (⟨"java/lang/Math", "min", "(II)I"⟩ : MethodName)) hown (mvT hZ (hw _ (List.mem_of_getElem? (i := 37) rfl))) (mvT hZ (hw _ (List.mem_of_getElem? (i := 31) rfl))) (mvT hZ (hw _ (List.mem_of_getElem? (i := 32) rfl))) (mvT hZ (hw _ (List.mem_of_getElem? (i := 33) rfl))) (by decide) (backOf (W := 0) (rmMn l Z _ hw [] (own_min p0 p1) p2 T56.heap n0 Z65 ) hZ (hw _ (List.mem_of_getElem? (i := 33) rfl)) (hw _ (List.mem_of_getElem? (i := 32) rfl)) (by decide) (by decide)) (g := (mkF m 103 #[.val (.int p0), .val (.int p1), .val (.int p2), .val (.int p3), .val (.int p4), .val (.ref b1), .val (.int (1 : Int32)), .val (.int (3 : Int32)), .val (.long (((p0.toInt64) + (p1.toInt64)) + (p2.toInt64))), .second, .val (.int (own_min p0 p1)), .val (.int (own_max p0 p1)), .unset, .unset, .unset, .unset] [(.int p2), (.int (own_min p0 p1))])) rfl (by rw [hml]; rfl) (argsL := [(.int (own_min p0 p1)), (.int p2)]) (rest := []) (lenOf pd_1 rfl) rfl (by show 2 * 0 + _ ≤ _; exact Nat.le_of_eq rfl) (hb hby at_103) (fun _ _ => ⟨rfl, (rfl : T56.heap = T56.heap), (by decide : 1 + 0 ≤ _), (by decide : 5 + 0 ≤ _)⟩)
    dsimp only [Pt.U, Pt.locs, Pt.cells, Pt.slots] at X66 l66 y66 z66 st66 hQ66
    subst l66 y66 z66
    obtain ⟨rfl, Nq66, hs66⟩ := hQ66
    have N67 := Fr.app N63 Nq66
    refine OFin.of (S' := T66.setTop (mkF m 106 #[.val (.int p0), .val (.int p1), .val (.int p2), .val (.int p3), .val (.int p4), .val (.ref b1), .val (.int (1 : Int32)), .val (.int (3 : Int32)), .val (.long (((p0.toInt64) + (p1.toInt64)) + (p2.toInt64))), .second, .val (.int (own_min p0 p1)), .val (.int (own_max p0 p1)), .unset, .unset, .unset, .unset] [(.int (own_min (own_min p0 p1) p2))])) (fun t ht => st66 t ht) ?_
    refine OFin.of (S' := T66.setTop (mkF m 111 #[.val (.int p0), .val (.int p1), .val (.int p2), .val (.int p3), .val (.int p4), .val (.ref b1), .val (.int (1 : Int32)), .val (.int (3 : Int32)), .val (.long (((p0.toInt64) + (p1.toInt64)) + (p2.toInt64))), .second, .val (.int (own_min (own_min p0 p1) p2)), .val (.int (own_max p0 p1)), .unset, .unset, .unset, .unset] [(.int p2), (.int (own_max p0 p1))])) (fun t ht => ?_) ?_
    · refine XS.istore X66.here hx rfl (hb hby at_106) rfl (l' := #[.val (.int p0), .val (.int p1), .val (.int p2), .val (.int p3), .val (.int p4), .val (.ref b1), .val (.int (1 : Int32)), .val (.int (3 : Int32)), .val (.long (((p0.toInt64) + (p1.toInt64)) + (p2.toInt64))), .second, .val (.int (own_min (own_min p0 p1) p2)), .val (.int (own_max p0 p1)), .unset, .unset, .unset, .unset]) rfl ?_
      show Steps p.tables e below (T66.setTop (mkF m 108 #[.val (.int p0), .val (.int p1), .val (.int p2), .val (.int p3), .val (.int p4), .val (.ref b1), .val (.int (1 : Int32)), .val (.int (3 : Int32)), .val (.long (((p0.toInt64) + (p1.toInt64)) + (p2.toInt64))), .second, .val (.int (own_min (own_min p0 p1) p2)), .val (.int (own_max p0 p1)), .unset, .unset, .unset, .unset] [])) _
      refine XS.iload X66.here hx rfl (hb hby at_108) rfl ?_
      show Steps p.tables e below (T66.setTop (mkF m 110 _ [(.int (own_max p0 p1))])) _
      refine XS.iloadN X66.here hx rfl (hb hby at_110) rfl ?_
      exact ht
    obtain ⟨_, _, ⟨T68, L68, k68, n68⟩, -, X68, ⟨Lc68, hQ68, l68, y68, z68⟩, st68⟩ := Jvm.LawKit.callS X66 hx (y := (⟨"java/lang/Math", "max", "(II)I"⟩ : MethodName)) hown (mvT hZ (hw _ (List.mem_of_getElem? (i := 38) rfl))) (mvT hZ (hw _ (List.mem_of_getElem? (i := 35) rfl))) (mvT hZ (hw _ (List.mem_of_getElem? (i := 32) rfl))) (mvT hZ (hw _ (List.mem_of_getElem? (i := 36) rfl))) (by decide) (backOf (W := 0) (rmMx l Z _ hw [] (own_max p0 p1) p2 T56.heap n0 Z65 ) hZ (hw _ (List.mem_of_getElem? (i := 36) rfl)) (hw _ (List.mem_of_getElem? (i := 32) rfl)) (by decide) (by decide)) (g := (mkF m 111 #[.val (.int p0), .val (.int p1), .val (.int p2), .val (.int p3), .val (.int p4), .val (.ref b1), .val (.int (1 : Int32)), .val (.int (3 : Int32)), .val (.long (((p0.toInt64) + (p1.toInt64)) + (p2.toInt64))), .second, .val (.int (own_min (own_min p0 p1) p2)), .val (.int (own_max p0 p1)), .unset, .unset, .unset, .unset] [(.int p2), (.int (own_max p0 p1))])) rfl (by rw [hml]; rfl) (argsL := [(.int (own_max p0 p1)), (.int p2)]) (rest := []) (lenOf pd_1 rfl) rfl (by show 2 * 0 + _ ≤ _; exact Nat.le_of_eq rfl) (hb hby at_111) (fun _ _ => ⟨rfl, hs66, (by decide : 1 + 0 ≤ _), (by decide : 5 + 0 ≤ _)⟩)
    dsimp only [Pt.U, Pt.locs, Pt.cells, Pt.slots] at X68 l68 y68 z68 st68 hQ68
    subst l68 y68 z68
    obtain ⟨rfl, Nq68, hs68⟩ := hQ68
    have N69 := Fr.app N67 Nq68
    refine OFin.of (S' := T68.setTop (mkF m 114 #[.val (.int p0), .val (.int p1), .val (.int p2), .val (.int p3), .val (.int p4), .val (.ref b1), .val (.int (1 : Int32)), .val (.int (3 : Int32)), .val (.long (((p0.toInt64) + (p1.toInt64)) + (p2.toInt64))), .second, .val (.int (own_min (own_min p0 p1) p2)), .val (.int (own_max p0 p1)), .unset, .unset, .unset, .unset] [(.int (own_max (own_max p0 p1) p2))])) (fun t ht => st68 t ht) ?_
    refine OFin.of (S' := T68.setTop (mkF m 153 #[.val (.int p0), .val (.int p1), .val (.int p2), .val (.int p3), .val (.int p4), .val (.ref b1), .val (.int (1 : Int32)), .val (.int (3 : Int32)), .val (.long (((p0.toInt64) + (p1.toInt64)) + (p2.toInt64))), .second, .val (.int (own_min (own_min p0 p1) p2)), .val (.int (own_max (own_max p0 p1) p2)), .unset, .unset, .unset, .unset] [(.ref b1)])) (fun t ht => ?_) ?_
    · refine XS.istore X68.here hx rfl (hb hby at_114) rfl (l' := #[.val (.int p0), .val (.int p1), .val (.int p2), .val (.int p3), .val (.int p4), .val (.ref b1), .val (.int (1 : Int32)), .val (.int (3 : Int32)), .val (.long (((p0.toInt64) + (p1.toInt64)) + (p2.toInt64))), .second, .val (.int (own_min (own_min p0 p1) p2)), .val (.int (own_max (own_max p0 p1) p2)), .unset, .unset, .unset, .unset]) rfl ?_
      show Steps p.tables e below (T68.setTop (mkF m 116 #[.val (.int p0), .val (.int p1), .val (.int p2), .val (.int p3), .val (.int p4), .val (.ref b1), .val (.int (1 : Int32)), .val (.int (3 : Int32)), .val (.long (((p0.toInt64) + (p1.toInt64)) + (p2.toInt64))), .second, .val (.int (own_min (own_min p0 p1) p2)), .val (.int (own_max (own_max p0 p1) p2)), .unset, .unset, .unset, .unset] [])) _
      refine XS.iload X68.here hx rfl (hb hby at_116) rfl ?_
      show Steps p.tables e below (T68.setTop (mkF m 118 _ [(.int (3 : Int32))])) _
      refine XS.iconst X68.here hx rfl (hb hby at_118) ?_
      show Steps p.tables e below (T68.setTop (mkF m 119 _ [(.int (4 : Int32)), (.int (3 : Int32))])) _
      refine XS.icmpYes X68.here hx rfl (pc0 := 119) (pc' := 151) rfl (hb hby at_119) rfl (tlt (by decide : (3 : Int32) < (4 : Int32))).1 (by decide) (by decide) ?_
      show Steps p.tables e below (T68.setTop (mkF m 151 _ [])) _
      refine XS.aload X68.here hx rfl (hb hby at_151) rfl rfl ?_
      exact ht
    obtain ⟨cq71, kq71, q71a, q71b, q71c⟩ := isOf hZ hs68 f64
    obtain ⟨_, _, ⟨T70, L70, k70, n70⟩, -, X70, ⟨Lc70, hQ70, l70, y70, z70⟩, st70⟩ := X68.virtualBack hx (y := (⟨"com/example/weekly_activity_scheduler/weeklyactivityscheduler/core/Spread", "mean", "()D"⟩ : MethodName)) (z := (⟨"com/example/weekly_activity_scheduler/weeklyactivityscheduler/core/Spread", "mean", "()D"⟩ : MethodName)) hown (mvT hZ (hw _ (List.mem_of_getElem? (i := 17) rfl))) (mvT hZ (hw _ (List.mem_of_getElem? (i := 18) rfl))) (notFace_of_selects (args := #[]) (mvT hZ (hw _ (List.mem_of_getElem? (i := 20) rfl)))) (mvT hZ (hw _ (List.mem_of_getElem? (i := 20) rfl))) (mvT hZ (hw _ (List.mem_of_getElem? (i := 19) rfl))) (by decide) (backOf (W := 0) (rmMe l Z _ hw [] b1 (3 : Int64) (((p0.toInt64) + (p1.toInt64)) + (p2.toInt64)) T56.heap n0 Z65 f58 f59 (by decide)) hZ (hw _ (List.mem_of_getElem? (i := 21) rfl)) (hw _ (List.mem_of_getElem? (i := 2) rfl)) (by decide) (by decide)) q71a q71c (g := (mkF m 153 #[.val (.int p0), .val (.int p1), .val (.int p2), .val (.int p3), .val (.int p4), .val (.ref b1), .val (.int (1 : Int32)), .val (.int (3 : Int32)), .val (.long (((p0.toInt64) + (p1.toInt64)) + (p2.toInt64))), .second, .val (.int (own_min (own_min p0 p1) p2)), .val (.int (own_max (own_max p0 p1) p2)), .unset, .unset, .unset, .unset] [(.ref b1)])) rfl (by rw [hml]; rfl) (Steps.refl _) (argsL := []) (rest := []) (lenOf pd_0 rfl) rfl (by show 2 * 0 + _ ≤ _; exact Nat.le_of_eq rfl) (hb hby at_153) (fun _ _ => ⟨rfl, hs68, (by decide : 1 + 0 ≤ _), (by decide : 5 + 0 ≤ _)⟩)
    dsimp only [Pt.U, Pt.locs, Pt.cells, Pt.slots] at X70 l70 y70 z70 st70 hQ70
    subst l70 y70 z70
    obtain ⟨rfl, Nq70, hs70⟩ := hQ70
    have N72 := Fr.app N69 Nq70
    refine OFin.to (S' := T70.setTop (mkF m 156 #[.val (.int p0), .val (.int p1), .val (.int p2), .val (.int p3), .val (.int p4), .val (.ref b1), .val (.int (1 : Int32)), .val (.int (3 : Int32)), .val (.long (((p0.toInt64) + (p1.toInt64)) + (p2.toInt64))), .second, .val (.int (own_min (own_min p0 p1) p2)), .val (.int (own_max (own_max p0 p1) p2)), .unset, .unset, .unset, .unset] [(.double (FP.ddiv (FP.l2d (((p0.toInt64) + (p1.toInt64)) + (p2.toInt64))) (FP.l2d (3 : Int64))))])) st70 ?_
    refine OFin.of (S' := T70.setTop (mkF m 203 #[.val (.int p0), .val (.int p1), .val (.int p2), .val (.int p3), .val (.int p4), .val (.ref b1), .val (.int (1 : Int32)), .val (.int (3 : Int32)), .val (.long (((p0.toInt64) + (p1.toInt64)) + (p2.toInt64))), .second, .val (.int (own_min (own_min p0 p1) p2)), .val (.int (own_max (own_max p0 p1) p2)), .val (.double (FP.ddiv (FP.l2d (((p0.toInt64) + (p1.toInt64)) + (p2.toInt64))) (FP.l2d (3 : Int64)))), .second, .val (.double (FP.ddiv (FP.l2d (((p0.toInt64) + (p1.toInt64)) + (p2.toInt64))) (FP.i2d (3 : Int32)))), .second] [(.int (1 : Int32))])) (fun t ht => ?_) ?_
    · refine XS.dstore X70.here hx rfl (hb hby at_156) rfl (l' := #[.val (.int p0), .val (.int p1), .val (.int p2), .val (.int p3), .val (.int p4), .val (.ref b1), .val (.int (1 : Int32)), .val (.int (3 : Int32)), .val (.long (((p0.toInt64) + (p1.toInt64)) + (p2.toInt64))), .second, .val (.int (own_min (own_min p0 p1) p2)), .val (.int (own_max (own_max p0 p1) p2)), .val (.double (FP.ddiv (FP.l2d (((p0.toInt64) + (p1.toInt64)) + (p2.toInt64))) (FP.l2d (3 : Int64)))), .second, .unset, .unset]) rfl ?_
      show Steps p.tables e below (T70.setTop (mkF m 158 #[.val (.int p0), .val (.int p1), .val (.int p2), .val (.int p3), .val (.int p4), .val (.ref b1), .val (.int (1 : Int32)), .val (.int (3 : Int32)), .val (.long (((p0.toInt64) + (p1.toInt64)) + (p2.toInt64))), .second, .val (.int (own_min (own_min p0 p1) p2)), .val (.int (own_max (own_max p0 p1) p2)), .val (.double (FP.ddiv (FP.l2d (((p0.toInt64) + (p1.toInt64)) + (p2.toInt64))) (FP.l2d (3 : Int64)))), .second, .unset, .unset] [])) _
      refine XS.lload X70.here hx rfl (hb hby at_158) rfl ?_
      show Steps p.tables e below (T70.setTop (mkF m 160 _ [(.long (((p0.toInt64) + (p1.toInt64)) + (p2.toInt64)))])) _
      refine XS.l2dS X70.here hx rfl (hb hby at_160) rfl rfl ?_
      show Steps p.tables e below (T70.setTop (mkF m 161 _ [(.double (FP.l2d (((p0.toInt64) + (p1.toInt64)) + (p2.toInt64))))])) _
      refine XS.iload X70.here hx rfl (hb hby at_161) rfl ?_
      show Steps p.tables e below (T70.setTop (mkF m 163 _ [(.int (3 : Int32)), (.double (FP.l2d (((p0.toInt64) + (p1.toInt64)) + (p2.toInt64))))])) _
      refine XS.i2dS X70.here hx rfl (hb hby at_163) rfl rfl ?_
      show Steps p.tables e below (T70.setTop (mkF m 164 _ [(.double (FP.i2d (3 : Int32))), (.double (FP.l2d (((p0.toInt64) + (p1.toInt64)) + (p2.toInt64))))])) _
      refine XS.ddivS X70.here hx rfl (hb hby at_164) rfl (own_nni _ (by decide)) rfl ?_
      show Steps p.tables e below (T70.setTop (mkF m 165 _ [(.double (FP.ddiv (FP.l2d (((p0.toInt64) + (p1.toInt64)) + (p2.toInt64))) (FP.i2d (3 : Int32))))])) _
      refine XS.dstore X70.here hx rfl (hb hby at_165) rfl (l' := #[.val (.int p0), .val (.int p1), .val (.int p2), .val (.int p3), .val (.int p4), .val (.ref b1), .val (.int (1 : Int32)), .val (.int (3 : Int32)), .val (.long (((p0.toInt64) + (p1.toInt64)) + (p2.toInt64))), .second, .val (.int (own_min (own_min p0 p1) p2)), .val (.int (own_max (own_max p0 p1) p2)), .val (.double (FP.ddiv (FP.l2d (((p0.toInt64) + (p1.toInt64)) + (p2.toInt64))) (FP.l2d (3 : Int64)))), .second, .val (.double (FP.ddiv (FP.l2d (((p0.toInt64) + (p1.toInt64)) + (p2.toInt64))) (FP.i2d (3 : Int32)))), .second]) rfl ?_
      show Steps p.tables e below (T70.setTop (mkF m 167 #[.val (.int p0), .val (.int p1), .val (.int p2), .val (.int p3), .val (.int p4), .val (.ref b1), .val (.int (1 : Int32)), .val (.int (3 : Int32)), .val (.long (((p0.toInt64) + (p1.toInt64)) + (p2.toInt64))), .second, .val (.int (own_min (own_min p0 p1) p2)), .val (.int (own_max (own_max p0 p1) p2)), .val (.double (FP.ddiv (FP.l2d (((p0.toInt64) + (p1.toInt64)) + (p2.toInt64))) (FP.l2d (3 : Int64)))), .second, .val (.double (FP.ddiv (FP.l2d (((p0.toInt64) + (p1.toInt64)) + (p2.toInt64))) (FP.i2d (3 : Int32)))), .second] [])) _
      refine XS.iload X70.here hx rfl (hb hby at_167) rfl ?_
      show Steps p.tables e below (T70.setTop (mkF m 169 _ [(.int (1 : Int32))])) _
      refine XS.ifNo X70.here hx rfl (hb hby at_169) rfl ((if0 _ _).trans (feq (by decide : ¬ ((1 : Int32) = (0 : Int32)))).1) ?_
      show Steps p.tables e below (T70.setTop (mkF m 172 _ [])) _
      refine XS.dload X70.here hx rfl (hb hby at_172) rfl ?_
      show Steps p.tables e below (T70.setTop (mkF m 174 _ [(.double (FP.ddiv (FP.l2d (((p0.toInt64) + (p1.toInt64)) + (p2.toInt64))) (FP.l2d (3 : Int64))))])) _
      refine XS.dload X70.here hx rfl (hb hby at_174) rfl ?_
      show Steps p.tables e below (T70.setTop (mkF m 176 _ [(.double (FP.ddiv (FP.l2d (((p0.toInt64) + (p1.toInt64)) + (p2.toInt64))) (FP.i2d (3 : Int32)))), (.double (FP.ddiv (FP.l2d (((p0.toInt64) + (p1.toInt64)) + (p2.toInt64))) (FP.l2d (3 : Int64))))])) _
      refine XS.dcmpS X70.here hx rfl (hb hby at_176) rfl rfl ?_
      show Steps p.tables e below (T70.setTop (mkF m 177 _ [(.int (cmpValue (FP.dcmp (FP.ddiv (FP.l2d (((p0.toInt64) + (p1.toInt64)) + (p2.toInt64))) (FP.l2d (3 : Int64))) (FP.ddiv (FP.l2d (((p0.toInt64) + (p1.toInt64)) + (p2.toInt64))) (FP.i2d (3 : Int32)))) .l))])) _
      refine XS.ifNo X70.here hx rfl (hb hby at_177) rfl ((if0 _ _).trans (teq (own_eq3 _ _ _ : (cmpValue (FP.dcmp (FP.ddiv (FP.l2d (((p0.toInt64) + (p1.toInt64)) + (p2.toInt64))) (FP.l2d (3 : Int64))) (FP.ddiv (FP.l2d (((p0.toInt64) + (p1.toInt64)) + (p2.toInt64))) (FP.i2d (3 : Int32)))) .l) = (0 : Int32))).2) ?_
      show Steps p.tables e below (T70.setTop (mkF m 180 _ [])) _
      refine XS.iload X70.here hx rfl (hb hby at_180) rfl ?_
      show Steps p.tables e below (T70.setTop (mkF m 182 _ [(.int (own_min (own_min p0 p1) p2))])) _
      refine XS.i2dS X70.here hx rfl (hb hby at_182) rfl rfl ?_
      show Steps p.tables e below (T70.setTop (mkF m 183 _ [(.double (FP.i2d (own_min (own_min p0 p1) p2)))])) _
      refine XS.dload X70.here hx rfl (hb hby at_183) rfl ?_
      show Steps p.tables e below (T70.setTop (mkF m 185 _ [(.double (FP.ddiv (FP.l2d (((p0.toInt64) + (p1.toInt64)) + (p2.toInt64))) (FP.l2d (3 : Int64)))), (.double (FP.i2d (own_min (own_min p0 p1) p2)))])) _
      refine XS.dcmpS X70.here hx rfl (hb hby at_185) rfl rfl ?_
      show Steps p.tables e below (T70.setTop (mkF m 186 _ [(.int (cmpValue (FP.dcmp (FP.i2d (own_min (own_min p0 p1) p2)) (FP.ddiv (FP.l2d (((p0.toInt64) + (p1.toInt64)) + (p2.toInt64))) (FP.l2d (3 : Int64)))) .g))])) _
      refine XS.ifNo X70.here hx rfl (hb hby at_186) rfl ((if0 _ _).trans (flt (own_lo3 _ _ _ : ¬ ((0 : Int32) < (cmpValue (FP.dcmp (FP.i2d (own_min (own_min p0 p1) p2)) (FP.ddiv (FP.l2d (((p0.toInt64) + (p1.toInt64)) + (p2.toInt64))) (FP.l2d (3 : Int64)))) .g)))).2.2.1) ?_
      show Steps p.tables e below (T70.setTop (mkF m 189 _ [])) _
      refine XS.dload X70.here hx rfl (hb hby at_189) rfl ?_
      show Steps p.tables e below (T70.setTop (mkF m 191 _ [(.double (FP.ddiv (FP.l2d (((p0.toInt64) + (p1.toInt64)) + (p2.toInt64))) (FP.l2d (3 : Int64))))])) _
      refine XS.iload X70.here hx rfl (hb hby at_191) rfl ?_
      show Steps p.tables e below (T70.setTop (mkF m 193 _ [(.int (own_max (own_max p0 p1) p2)), (.double (FP.ddiv (FP.l2d (((p0.toInt64) + (p1.toInt64)) + (p2.toInt64))) (FP.l2d (3 : Int64))))])) _
      refine XS.i2dS X70.here hx rfl (hb hby at_193) rfl rfl ?_
      show Steps p.tables e below (T70.setTop (mkF m 194 _ [(.double (FP.i2d (own_max (own_max p0 p1) p2))), (.double (FP.ddiv (FP.l2d (((p0.toInt64) + (p1.toInt64)) + (p2.toInt64))) (FP.l2d (3 : Int64))))])) _
      refine XS.dcmpS X70.here hx rfl (hb hby at_194) rfl rfl ?_
      show Steps p.tables e below (T70.setTop (mkF m 195 _ [(.int (cmpValue (FP.dcmp (FP.ddiv (FP.l2d (((p0.toInt64) + (p1.toInt64)) + (p2.toInt64))) (FP.l2d (3 : Int64))) (FP.i2d (own_max (own_max p0 p1) p2))) .g))])) _
      refine XS.ifNo X70.here hx rfl (hb hby at_195) rfl ((if0 _ _).trans (flt (own_hi3 _ _ _ : ¬ ((0 : Int32) < (cmpValue (FP.dcmp (FP.ddiv (FP.l2d (((p0.toInt64) + (p1.toInt64)) + (p2.toInt64))) (FP.l2d (3 : Int64))) (FP.i2d (own_max (own_max p0 p1) p2))) .g)))).2.2.1) ?_
      show Steps p.tables e below (T70.setTop (mkF m 198 _ [])) _
      refine XS.iconst X70.here hx rfl (hb hby at_198) ?_
      show Steps p.tables e below (T70.setTop (mkF m 199 _ [(.int (1 : Int32))])) _
      refine XS.goto X70.here hx rfl (pc0 := 199) (pc' := 203) rfl (hb hby at_199) (by decide) (by decide) ?_
      exact ht
    exact OFin.retB X70 hx hlk (t := .boolean) (by simp) hret (hb hby at_203) (by decide) (by decide) (by rw [hs70]; exact ⟨rfl, N72⟩)
  · rw [hq21]
    refine OFin.of (S' := T18.setTop (mkF m 55 #[.val (.int p0), .val (.int p1), .val (.int p2), .val (.int p3), .val (.int p4), .val (.ref b1), .val (.int (1 : Int32)), .val (.int (4 : Int32)), .val (.long (p0.toInt64)), .second, .val (.int p0), .val (.int p0), .unset, .unset, .unset, .unset] [(.int p1), (.ref b1)])) (fun t ht => ?_) ?_
    · refine XS.iadd X18.here hx rfl (hb hby at_33) rfl ?_
      show Steps p.tables e below (T18.setTop (mkF m 34 _ [(.int (4 : Int32))])) _
      refine XS.istore X18.here hx rfl (hb hby at_34) rfl (l' := #[.val (.int p0), .val (.int p1), .val (.int p2), .val (.int p3), .val (.int p4), .val (.ref b1), .val (.int (1 : Int32)), .val (.int (4 : Int32)), .unset, .unset, .unset, .unset, .unset, .unset, .unset, .unset]) rfl ?_
      show Steps p.tables e below (T18.setTop (mkF m 36 #[.val (.int p0), .val (.int p1), .val (.int p2), .val (.int p3), .val (.int p4), .val (.ref b1), .val (.int (1 : Int32)), .val (.int (4 : Int32)), .unset, .unset, .unset, .unset, .unset, .unset, .unset, .unset] [])) _
      refine XS.iloadN X18.here hx rfl (hb hby at_36) rfl ?_
      show Steps p.tables e below (T18.setTop (mkF m 37 _ [(.int p0)])) _
      refine XS.i2l X18.here hx rfl (hb hby at_37) rfl ?_
      show Steps p.tables e below (T18.setTop (mkF m 38 _ [(.long (p0.toInt64))])) _
      refine XS.lstore X18.here hx rfl (hb hby at_38) rfl (l' := #[.val (.int p0), .val (.int p1), .val (.int p2), .val (.int p3), .val (.int p4), .val (.ref b1), .val (.int (1 : Int32)), .val (.int (4 : Int32)), .val (.long (p0.toInt64)), .second, .unset, .unset, .unset, .unset, .unset, .unset]) rfl ?_
      show Steps p.tables e below (T18.setTop (mkF m 40 #[.val (.int p0), .val (.int p1), .val (.int p2), .val (.int p3), .val (.int p4), .val (.ref b1), .val (.int (1 : Int32)), .val (.int (4 : Int32)), .val (.long (p0.toInt64)), .second, .unset, .unset, .unset, .unset, .unset, .unset] [])) _
      refine XS.iloadN X18.here hx rfl (hb hby at_40) rfl ?_
      show Steps p.tables e below (T18.setTop (mkF m 41 _ [(.int p0)])) _
      refine XS.istore X18.here hx rfl (hb hby at_41) rfl (l' := #[.val (.int p0), .val (.int p1), .val (.int p2), .val (.int p3), .val (.int p4), .val (.ref b1), .val (.int (1 : Int32)), .val (.int (4 : Int32)), .val (.long (p0.toInt64)), .second, .val (.int p0), .unset, .unset, .unset, .unset, .unset]) rfl ?_
      show Steps p.tables e below (T18.setTop (mkF m 43 #[.val (.int p0), .val (.int p1), .val (.int p2), .val (.int p3), .val (.int p4), .val (.ref b1), .val (.int (1 : Int32)), .val (.int (4 : Int32)), .val (.long (p0.toInt64)), .second, .val (.int p0), .unset, .unset, .unset, .unset, .unset] [])) _
      refine XS.iloadN X18.here hx rfl (hb hby at_43) rfl ?_
      show Steps p.tables e below (T18.setTop (mkF m 44 _ [(.int p0)])) _
      refine XS.istore X18.here hx rfl (hb hby at_44) rfl (l' := #[.val (.int p0), .val (.int p1), .val (.int p2), .val (.int p3), .val (.int p4), .val (.ref b1), .val (.int (1 : Int32)), .val (.int (4 : Int32)), .val (.long (p0.toInt64)), .second, .val (.int p0), .val (.int p0), .unset, .unset, .unset, .unset]) rfl ?_
      show Steps p.tables e below (T18.setTop (mkF m 46 #[.val (.int p0), .val (.int p1), .val (.int p2), .val (.int p3), .val (.int p4), .val (.ref b1), .val (.int (1 : Int32)), .val (.int (4 : Int32)), .val (.long (p0.toInt64)), .second, .val (.int p0), .val (.int p0), .unset, .unset, .unset, .unset] [])) _
      refine XS.iload X18.here hx rfl (hb hby at_46) rfl ?_
      show Steps p.tables e below (T18.setTop (mkF m 48 _ [(.int (4 : Int32))])) _
      refine XS.iconst X18.here hx rfl (hb hby at_48) ?_
      show Steps p.tables e below (T18.setTop (mkF m 49 _ [(.int (2 : Int32)), (.int (4 : Int32))])) _
      refine XS.icmpNo X18.here hx rfl (hb hby at_49) rfl (flt (by decide : ¬ ((4 : Int32) < (2 : Int32)))).1 ?_
      show Steps p.tables e below (T18.setTop (mkF m 52 _ [])) _
      refine XS.aload X18.here hx rfl (hb hby at_52) rfl rfl ?_
      show Steps p.tables e below (T18.setTop (mkF m 54 _ [(.ref b1)])) _
      refine XS.iloadN X18.here hx rfl (hb hby at_54) rfl ?_
      exact ht
    obtain ⟨cq74, kq74, q74a, q74b, q74c⟩ := isOf hZ hs18 f16
    obtain ⟨_, _, ⟨T73, L73, k73, n73⟩, -, X73, ⟨Lc73, hQ73, l73, y73, z73⟩, st73⟩ := X18.virtualBack hx (y := (⟨"com/example/weekly_activity_scheduler/weeklyactivityscheduler/core/Spread", "add", "(I)V"⟩ : MethodName)) (z := (⟨"com/example/weekly_activity_scheduler/weeklyactivityscheduler/core/Spread", "add", "(I)V"⟩ : MethodName)) hown (mvT hZ (hw _ (List.mem_of_getElem? (i := 22) rfl))) (mvT hZ (hw _ (List.mem_of_getElem? (i := 23) rfl))) (notFace_of_selects (args := #[]) (mvT hZ (hw _ (List.mem_of_getElem? (i := 25) rfl)))) (mvT hZ (hw _ (List.mem_of_getElem? (i := 25) rfl))) (mvT hZ (hw _ (List.mem_of_getElem? (i := 24) rfl))) (by decide) (backOf (W := 0) (rmAd l Z _ hw [] b1 p1 (1 : Int64) (p0.toInt64) p0 p0 0 1160 T9.heap n0 Z17 f16 f10 f11 f12 f13 f14 g2 (by decide) (by decide) own_mag0 (by decide) (by decide)) hZ (hw _ (List.mem_of_getElem? (i := 26) rfl)) (hw _ (List.mem_of_getElem? (i := 2) rfl)) (by decide) (by decide)) q74a q74c (g := (mkF m 55 #[.val (.int p0), .val (.int p1), .val (.int p2), .val (.int p3), .val (.int p4), .val (.ref b1), .val (.int (1 : Int32)), .val (.int (4 : Int32)), .val (.long (p0.toInt64)), .second, .val (.int p0), .val (.int p0), .unset, .unset, .unset, .unset] [(.int p1), (.ref b1)])) rfl (by rw [hml]; rfl) (Steps.refl _) (argsL := [(.int p1)]) (rest := []) (lenOf pd_2 rfl) rfl (by show 2 * 0 + _ ≤ _; exact Nat.le_of_eq rfl) (hb hby at_55) (fun _ _ => ⟨rfl, hs18, (by decide : 1 + 0 ≤ _), (by decide : 5 + 0 ≤ _)⟩)
    dsimp only [Pt.U, Pt.locs, Pt.cells, Pt.slots] at X73 l73 y73 z73 st73 hQ73
    subst l73 y73 z73
    obtain ⟨rfl, Nq73, Kq73, f75, f76, f77, f78, f79⟩ := hQ73
    have N80 := Fr.app N20 Nq73
    have f81 := (f16.keep Kq73)
    have Z82 : n0 ≤ T73.heap.size := (Nat.le_trans Z17 Kq73.1)
    refine OFin.to (S' := T73.setTop (mkF m 58 #[.val (.int p0), .val (.int p1), .val (.int p2), .val (.int p3), .val (.int p4), .val (.ref b1), .val (.int (1 : Int32)), .val (.int (4 : Int32)), .val (.long (p0.toInt64)), .second, .val (.int p0), .val (.int p0), .unset, .unset, .unset, .unset] [])) st73 ?_
    refine OFin.of (S' := T73.setTop (mkF m 68 #[.val (.int p0), .val (.int p1), .val (.int p2), .val (.int p3), .val (.int p4), .val (.ref b1), .val (.int (1 : Int32)), .val (.int (4 : Int32)), .val (.long ((p0.toInt64) + (p1.toInt64))), .second, .val (.int p0), .val (.int p0), .unset, .unset, .unset, .unset] [(.int p1), (.int p0)])) (fun t ht => ?_) ?_
    · refine XS.lload X73.here hx rfl (hb hby at_58) rfl ?_
      show Steps p.tables e below (T73.setTop (mkF m 60 _ [(.long (p0.toInt64))])) _
      refine XS.iloadN X73.here hx rfl (hb hby at_60) rfl ?_
      show Steps p.tables e below (T73.setTop (mkF m 61 _ [(.int p1), (.long (p0.toInt64))])) _
      refine XS.i2l X73.here hx rfl (hb hby at_61) rfl ?_
      show Steps p.tables e below (T73.setTop (mkF m 62 _ [(.long (p1.toInt64)), (.long (p0.toInt64))])) _
      refine XS.ladd X73.here hx rfl (hb hby at_62) rfl ?_
      show Steps p.tables e below (T73.setTop (mkF m 63 _ [(.long ((p0.toInt64) + (p1.toInt64)))])) _
      refine XS.lstore X73.here hx rfl (hb hby at_63) rfl (l' := #[.val (.int p0), .val (.int p1), .val (.int p2), .val (.int p3), .val (.int p4), .val (.ref b1), .val (.int (1 : Int32)), .val (.int (4 : Int32)), .val (.long ((p0.toInt64) + (p1.toInt64))), .second, .val (.int p0), .val (.int p0), .unset, .unset, .unset, .unset]) rfl ?_
      show Steps p.tables e below (T73.setTop (mkF m 65 #[.val (.int p0), .val (.int p1), .val (.int p2), .val (.int p3), .val (.int p4), .val (.ref b1), .val (.int (1 : Int32)), .val (.int (4 : Int32)), .val (.long ((p0.toInt64) + (p1.toInt64))), .second, .val (.int p0), .val (.int p0), .unset, .unset, .unset, .unset] [])) _
      refine XS.iload X73.here hx rfl (hb hby at_65) rfl ?_
      show Steps p.tables e below (T73.setTop (mkF m 67 _ [(.int p0)])) _
      refine XS.iloadN X73.here hx rfl (hb hby at_67) rfl ?_
      exact ht
    obtain ⟨_, _, ⟨T83, L83, k83, n83⟩, -, X83, ⟨Lc83, hQ83, l83, y83, z83⟩, st83⟩ := Jvm.LawKit.callS X73 hx (y := (⟨"java/lang/Math", "min", "(II)I"⟩ : MethodName)) hown (mvT hZ (hw _ (List.mem_of_getElem? (i := 37) rfl))) (mvT hZ (hw _ (List.mem_of_getElem? (i := 31) rfl))) (mvT hZ (hw _ (List.mem_of_getElem? (i := 32) rfl))) (mvT hZ (hw _ (List.mem_of_getElem? (i := 33) rfl))) (by decide) (backOf (W := 0) (rmMn l Z _ hw [] p0 p1 T73.heap n0 Z82 ) hZ (hw _ (List.mem_of_getElem? (i := 33) rfl)) (hw _ (List.mem_of_getElem? (i := 32) rfl)) (by decide) (by decide)) (g := (mkF m 68 #[.val (.int p0), .val (.int p1), .val (.int p2), .val (.int p3), .val (.int p4), .val (.ref b1), .val (.int (1 : Int32)), .val (.int (4 : Int32)), .val (.long ((p0.toInt64) + (p1.toInt64))), .second, .val (.int p0), .val (.int p0), .unset, .unset, .unset, .unset] [(.int p1), (.int p0)])) rfl (by rw [hml]; rfl) (argsL := [(.int p0), (.int p1)]) (rest := []) (lenOf pd_1 rfl) rfl (by show 2 * 0 + _ ≤ _; exact Nat.le_of_eq rfl) (hb hby at_68) (fun _ _ => ⟨rfl, (rfl : T73.heap = T73.heap), (by decide : 1 + 0 ≤ _), (by decide : 5 + 0 ≤ _)⟩)
    dsimp only [Pt.U, Pt.locs, Pt.cells, Pt.slots] at X83 l83 y83 z83 st83 hQ83
    subst l83 y83 z83
    obtain ⟨rfl, Nq83, hs83⟩ := hQ83
    have N84 := Fr.app N80 Nq83
    refine OFin.of (S' := T83.setTop (mkF m 71 #[.val (.int p0), .val (.int p1), .val (.int p2), .val (.int p3), .val (.int p4), .val (.ref b1), .val (.int (1 : Int32)), .val (.int (4 : Int32)), .val (.long ((p0.toInt64) + (p1.toInt64))), .second, .val (.int p0), .val (.int p0), .unset, .unset, .unset, .unset] [(.int (own_min p0 p1))])) (fun t ht => st83 t ht) ?_
    refine OFin.of (S' := T83.setTop (mkF m 76 #[.val (.int p0), .val (.int p1), .val (.int p2), .val (.int p3), .val (.int p4), .val (.ref b1), .val (.int (1 : Int32)), .val (.int (4 : Int32)), .val (.long ((p0.toInt64) + (p1.toInt64))), .second, .val (.int (own_min p0 p1)), .val (.int p0), .unset, .unset, .unset, .unset] [(.int p1), (.int p0)])) (fun t ht => ?_) ?_
    · refine XS.istore X83.here hx rfl (hb hby at_71) rfl (l' := #[.val (.int p0), .val (.int p1), .val (.int p2), .val (.int p3), .val (.int p4), .val (.ref b1), .val (.int (1 : Int32)), .val (.int (4 : Int32)), .val (.long ((p0.toInt64) + (p1.toInt64))), .second, .val (.int (own_min p0 p1)), .val (.int p0), .unset, .unset, .unset, .unset]) rfl ?_
      show Steps p.tables e below (T83.setTop (mkF m 73 #[.val (.int p0), .val (.int p1), .val (.int p2), .val (.int p3), .val (.int p4), .val (.ref b1), .val (.int (1 : Int32)), .val (.int (4 : Int32)), .val (.long ((p0.toInt64) + (p1.toInt64))), .second, .val (.int (own_min p0 p1)), .val (.int p0), .unset, .unset, .unset, .unset] [])) _
      refine XS.iload X83.here hx rfl (hb hby at_73) rfl ?_
      show Steps p.tables e below (T83.setTop (mkF m 75 _ [(.int p0)])) _
      refine XS.iloadN X83.here hx rfl (hb hby at_75) rfl ?_
      exact ht
    obtain ⟨_, _, ⟨T85, L85, k85, n85⟩, -, X85, ⟨Lc85, hQ85, l85, y85, z85⟩, st85⟩ := Jvm.LawKit.callS X83 hx (y := (⟨"java/lang/Math", "max", "(II)I"⟩ : MethodName)) hown (mvT hZ (hw _ (List.mem_of_getElem? (i := 38) rfl))) (mvT hZ (hw _ (List.mem_of_getElem? (i := 35) rfl))) (mvT hZ (hw _ (List.mem_of_getElem? (i := 32) rfl))) (mvT hZ (hw _ (List.mem_of_getElem? (i := 36) rfl))) (by decide) (backOf (W := 0) (rmMx l Z _ hw [] p0 p1 T73.heap n0 Z82 ) hZ (hw _ (List.mem_of_getElem? (i := 36) rfl)) (hw _ (List.mem_of_getElem? (i := 32) rfl)) (by decide) (by decide)) (g := (mkF m 76 #[.val (.int p0), .val (.int p1), .val (.int p2), .val (.int p3), .val (.int p4), .val (.ref b1), .val (.int (1 : Int32)), .val (.int (4 : Int32)), .val (.long ((p0.toInt64) + (p1.toInt64))), .second, .val (.int (own_min p0 p1)), .val (.int p0), .unset, .unset, .unset, .unset] [(.int p1), (.int p0)])) rfl (by rw [hml]; rfl) (argsL := [(.int p0), (.int p1)]) (rest := []) (lenOf pd_1 rfl) rfl (by show 2 * 0 + _ ≤ _; exact Nat.le_of_eq rfl) (hb hby at_76) (fun _ _ => ⟨rfl, hs83, (by decide : 1 + 0 ≤ _), (by decide : 5 + 0 ≤ _)⟩)
    dsimp only [Pt.U, Pt.locs, Pt.cells, Pt.slots] at X85 l85 y85 z85 st85 hQ85
    subst l85 y85 z85
    obtain ⟨rfl, Nq85, hs85⟩ := hQ85
    have N86 := Fr.app N84 Nq85
    refine OFin.of (S' := T85.setTop (mkF m 79 #[.val (.int p0), .val (.int p1), .val (.int p2), .val (.int p3), .val (.int p4), .val (.ref b1), .val (.int (1 : Int32)), .val (.int (4 : Int32)), .val (.long ((p0.toInt64) + (p1.toInt64))), .second, .val (.int (own_min p0 p1)), .val (.int p0), .unset, .unset, .unset, .unset] [(.int (own_max p0 p1))])) (fun t ht => st85 t ht) ?_
    refine OFin.of (S' := T85.setTop (mkF m 90 #[.val (.int p0), .val (.int p1), .val (.int p2), .val (.int p3), .val (.int p4), .val (.ref b1), .val (.int (1 : Int32)), .val (.int (4 : Int32)), .val (.long ((p0.toInt64) + (p1.toInt64))), .second, .val (.int (own_min p0 p1)), .val (.int (own_max p0 p1)), .unset, .unset, .unset, .unset] [(.int p2), (.ref b1)])) (fun t ht => ?_) ?_
    · refine XS.istore X85.here hx rfl (hb hby at_79) rfl (l' := #[.val (.int p0), .val (.int p1), .val (.int p2), .val (.int p3), .val (.int p4), .val (.ref b1), .val (.int (1 : Int32)), .val (.int (4 : Int32)), .val (.long ((p0.toInt64) + (p1.toInt64))), .second, .val (.int (own_min p0 p1)), .val (.int (own_max p0 p1)), .unset, .unset, .unset, .unset]) rfl ?_
      show Steps p.tables e below (T85.setTop (mkF m 81 #[.val (.int p0), .val (.int p1), .val (.int p2), .val (.int p3), .val (.int p4), .val (.ref b1), .val (.int (1 : Int32)), .val (.int (4 : Int32)), .val (.long ((p0.toInt64) + (p1.toInt64))), .second, .val (.int (own_min p0 p1)), .val (.int (own_max p0 p1)), .unset, .unset, .unset, .unset] [])) _
      refine XS.iload X85.here hx rfl (hb hby at_81) rfl ?_
      show Steps p.tables e below (T85.setTop (mkF m 83 _ [(.int (4 : Int32))])) _
      refine XS.iconst X85.here hx rfl (hb hby at_83) ?_
      show Steps p.tables e below (T85.setTop (mkF m 84 _ [(.int (3 : Int32)), (.int (4 : Int32))])) _
      refine XS.icmpNo X85.here hx rfl (hb hby at_84) rfl (flt (by decide : ¬ ((4 : Int32) < (3 : Int32)))).1 ?_
      show Steps p.tables e below (T85.setTop (mkF m 87 _ [])) _
      refine XS.aload X85.here hx rfl (hb hby at_87) rfl rfl ?_
      show Steps p.tables e below (T85.setTop (mkF m 89 _ [(.ref b1)])) _
      refine XS.iloadN X85.here hx rfl (hb hby at_89) rfl ?_
      exact ht
    obtain ⟨cq88, kq88, q88a, q88b, q88c⟩ := isOf hZ hs85 f81
    obtain ⟨_, _, ⟨T87, L87, k87, n87⟩, -, X87, ⟨Lc87, hQ87, l87, y87, z87⟩, st87⟩ := X85.virtualBack hx (y := (⟨"com/example/weekly_activity_scheduler/weeklyactivityscheduler/core/Spread", "add", "(I)V"⟩ : MethodName)) (z := (⟨"com/example/weekly_activity_scheduler/weeklyactivityscheduler/core/Spread", "add", "(I)V"⟩ : MethodName)) hown (mvT hZ (hw _ (List.mem_of_getElem? (i := 22) rfl))) (mvT hZ (hw _ (List.mem_of_getElem? (i := 23) rfl))) (notFace_of_selects (args := #[]) (mvT hZ (hw _ (List.mem_of_getElem? (i := 25) rfl)))) (mvT hZ (hw _ (List.mem_of_getElem? (i := 25) rfl))) (mvT hZ (hw _ (List.mem_of_getElem? (i := 24) rfl))) (by decide) (backOf (W := 0) (rmAd l Z _ hw [] b1 p2 (2 : Int64) ((p0.toInt64) + (p1.toInt64)) (own_min p0 p1) (own_max p0 p1) (FP.dadd 0 (FP.dmul (FP.dsub (FP.i2d p1) (FP.ddiv (FP.l2d (p0.toInt64)) (FP.l2d (1 : Int64)))) (FP.dsub (FP.i2d p1) (FP.ddiv (FP.l2d ((p0.toInt64) + (p1.toInt64))) (FP.l2d (2 : Int64)))))) 1162 T73.heap n0 Z82 f81 f75 f76 f77 f78 f79 g2 (by decide) (by decide) (own_sdMag p1 (p0.toInt64) ((p0.toInt64) + (p1.toInt64)) (w := (1 : Int64)) (w' := (2 : Int64)) own_mag0 (by decide) (by decide) (by decide) (by decide)) (by decide) (by decide)) hZ (hw _ (List.mem_of_getElem? (i := 26) rfl)) (hw _ (List.mem_of_getElem? (i := 2) rfl)) (by decide) (by decide)) q88a q88c (g := (mkF m 90 #[.val (.int p0), .val (.int p1), .val (.int p2), .val (.int p3), .val (.int p4), .val (.ref b1), .val (.int (1 : Int32)), .val (.int (4 : Int32)), .val (.long ((p0.toInt64) + (p1.toInt64))), .second, .val (.int (own_min p0 p1)), .val (.int (own_max p0 p1)), .unset, .unset, .unset, .unset] [(.int p2), (.ref b1)])) rfl (by rw [hml]; rfl) (Steps.refl _) (argsL := [(.int p2)]) (rest := []) (lenOf pd_2 rfl) rfl (by show 2 * 0 + _ ≤ _; exact Nat.le_of_eq rfl) (hb hby at_90) (fun _ _ => ⟨rfl, hs85, (by decide : 1 + 0 ≤ _), (by decide : 5 + 0 ≤ _)⟩)
    dsimp only [Pt.U, Pt.locs, Pt.cells, Pt.slots] at X87 l87 y87 z87 st87 hQ87
    subst l87 y87 z87
    obtain ⟨rfl, Nq87, Kq87, f89, f90, f91, f92, f93⟩ := hQ87
    have N94 := Fr.app N86 Nq87
    have f95 := (f81.keep Kq87)
    have Z96 : n0 ≤ T87.heap.size := (Nat.le_trans Z82 Kq87.1)
    refine OFin.to (S' := T87.setTop (mkF m 93 #[.val (.int p0), .val (.int p1), .val (.int p2), .val (.int p3), .val (.int p4), .val (.ref b1), .val (.int (1 : Int32)), .val (.int (4 : Int32)), .val (.long ((p0.toInt64) + (p1.toInt64))), .second, .val (.int (own_min p0 p1)), .val (.int (own_max p0 p1)), .unset, .unset, .unset, .unset] [])) st87 ?_
    refine OFin.of (S' := T87.setTop (mkF m 103 #[.val (.int p0), .val (.int p1), .val (.int p2), .val (.int p3), .val (.int p4), .val (.ref b1), .val (.int (1 : Int32)), .val (.int (4 : Int32)), .val (.long (((p0.toInt64) + (p1.toInt64)) + (p2.toInt64))), .second, .val (.int (own_min p0 p1)), .val (.int (own_max p0 p1)), .unset, .unset, .unset, .unset] [(.int p2), (.int (own_min p0 p1))])) (fun t ht => ?_) ?_
    · refine XS.lload X87.here hx rfl (hb hby at_93) rfl ?_
      show Steps p.tables e below (T87.setTop (mkF m 95 _ [(.long ((p0.toInt64) + (p1.toInt64)))])) _
      refine XS.iloadN X87.here hx rfl (hb hby at_95) rfl ?_
      show Steps p.tables e below (T87.setTop (mkF m 96 _ [(.int p2), (.long ((p0.toInt64) + (p1.toInt64)))])) _
      refine XS.i2l X87.here hx rfl (hb hby at_96) rfl ?_
      show Steps p.tables e below (T87.setTop (mkF m 97 _ [(.long (p2.toInt64)), (.long ((p0.toInt64) + (p1.toInt64)))])) _
      refine XS.ladd X87.here hx rfl (hb hby at_97) rfl ?_
      show Steps p.tables e below (T87.setTop (mkF m 98 _ [(.long (((p0.toInt64) + (p1.toInt64)) + (p2.toInt64)))])) _
      refine XS.lstore X87.here hx rfl (hb hby at_98) rfl (l' := #[.val (.int p0), .val (.int p1), .val (.int p2), .val (.int p3), .val (.int p4), .val (.ref b1), .val (.int (1 : Int32)), .val (.int (4 : Int32)), .val (.long (((p0.toInt64) + (p1.toInt64)) + (p2.toInt64))), .second, .val (.int (own_min p0 p1)), .val (.int (own_max p0 p1)), .unset, .unset, .unset, .unset]) rfl ?_
      show Steps p.tables e below (T87.setTop (mkF m 100 #[.val (.int p0), .val (.int p1), .val (.int p2), .val (.int p3), .val (.int p4), .val (.ref b1), .val (.int (1 : Int32)), .val (.int (4 : Int32)), .val (.long (((p0.toInt64) + (p1.toInt64)) + (p2.toInt64))), .second, .val (.int (own_min p0 p1)), .val (.int (own_max p0 p1)), .unset, .unset, .unset, .unset] [])) _
      refine XS.iload X87.here hx rfl (hb hby at_100) rfl ?_
      show Steps p.tables e below (T87.setTop (mkF m 102 _ [(.int (own_min p0 p1))])) _
      refine XS.iloadN X87.here hx rfl (hb hby at_102) rfl ?_
      exact ht
    obtain ⟨_, _, ⟨T97, L97, k97, n97⟩, -, X97, ⟨Lc97, hQ97, l97, y97, z97⟩, st97⟩ := Jvm.LawKit.callS X87 hx (y := (⟨"java/lang/Math", "min", "(II)I"⟩ : MethodName)) hown (mvT hZ (hw _ (List.mem_of_getElem? (i := 37) rfl))) (mvT hZ (hw _ (List.mem_of_getElem? (i := 31) rfl))) (mvT hZ (hw _ (List.mem_of_getElem? (i := 32) rfl))) (mvT hZ (hw _ (List.mem_of_getElem? (i := 33) rfl))) (by decide) (backOf (W := 0) (rmMn l Z _ hw [] (own_min p0 p1) p2 T87.heap n0 Z96 ) hZ (hw _ (List.mem_of_getElem? (i := 33) rfl)) (hw _ (List.mem_of_getElem? (i := 32) rfl)) (by decide) (by decide)) (g := (mkF m 103 #[.val (.int p0), .val (.int p1), .val (.int p2), .val (.int p3), .val (.int p4), .val (.ref b1), .val (.int (1 : Int32)), .val (.int (4 : Int32)), .val (.long (((p0.toInt64) + (p1.toInt64)) + (p2.toInt64))), .second, .val (.int (own_min p0 p1)), .val (.int (own_max p0 p1)), .unset, .unset, .unset, .unset] [(.int p2), (.int (own_min p0 p1))])) rfl (by rw [hml]; rfl) (argsL := [(.int (own_min p0 p1)), (.int p2)]) (rest := []) (lenOf pd_1 rfl) rfl (by show 2 * 0 + _ ≤ _; exact Nat.le_of_eq rfl) (hb hby at_103) (fun _ _ => ⟨rfl, (rfl : T87.heap = T87.heap), (by decide : 1 + 0 ≤ _), (by decide : 5 + 0 ≤ _)⟩)
    dsimp only [Pt.U, Pt.locs, Pt.cells, Pt.slots] at X97 l97 y97 z97 st97 hQ97
    subst l97 y97 z97
    obtain ⟨rfl, Nq97, hs97⟩ := hQ97
    have N98 := Fr.app N94 Nq97
    refine OFin.of (S' := T97.setTop (mkF m 106 #[.val (.int p0), .val (.int p1), .val (.int p2), .val (.int p3), .val (.int p4), .val (.ref b1), .val (.int (1 : Int32)), .val (.int (4 : Int32)), .val (.long (((p0.toInt64) + (p1.toInt64)) + (p2.toInt64))), .second, .val (.int (own_min p0 p1)), .val (.int (own_max p0 p1)), .unset, .unset, .unset, .unset] [(.int (own_min (own_min p0 p1) p2))])) (fun t ht => st97 t ht) ?_
    refine OFin.of (S' := T97.setTop (mkF m 111 #[.val (.int p0), .val (.int p1), .val (.int p2), .val (.int p3), .val (.int p4), .val (.ref b1), .val (.int (1 : Int32)), .val (.int (4 : Int32)), .val (.long (((p0.toInt64) + (p1.toInt64)) + (p2.toInt64))), .second, .val (.int (own_min (own_min p0 p1) p2)), .val (.int (own_max p0 p1)), .unset, .unset, .unset, .unset] [(.int p2), (.int (own_max p0 p1))])) (fun t ht => ?_) ?_
    · refine XS.istore X97.here hx rfl (hb hby at_106) rfl (l' := #[.val (.int p0), .val (.int p1), .val (.int p2), .val (.int p3), .val (.int p4), .val (.ref b1), .val (.int (1 : Int32)), .val (.int (4 : Int32)), .val (.long (((p0.toInt64) + (p1.toInt64)) + (p2.toInt64))), .second, .val (.int (own_min (own_min p0 p1) p2)), .val (.int (own_max p0 p1)), .unset, .unset, .unset, .unset]) rfl ?_
      show Steps p.tables e below (T97.setTop (mkF m 108 #[.val (.int p0), .val (.int p1), .val (.int p2), .val (.int p3), .val (.int p4), .val (.ref b1), .val (.int (1 : Int32)), .val (.int (4 : Int32)), .val (.long (((p0.toInt64) + (p1.toInt64)) + (p2.toInt64))), .second, .val (.int (own_min (own_min p0 p1) p2)), .val (.int (own_max p0 p1)), .unset, .unset, .unset, .unset] [])) _
      refine XS.iload X97.here hx rfl (hb hby at_108) rfl ?_
      show Steps p.tables e below (T97.setTop (mkF m 110 _ [(.int (own_max p0 p1))])) _
      refine XS.iloadN X97.here hx rfl (hb hby at_110) rfl ?_
      exact ht
    obtain ⟨_, _, ⟨T99, L99, k99, n99⟩, -, X99, ⟨Lc99, hQ99, l99, y99, z99⟩, st99⟩ := Jvm.LawKit.callS X97 hx (y := (⟨"java/lang/Math", "max", "(II)I"⟩ : MethodName)) hown (mvT hZ (hw _ (List.mem_of_getElem? (i := 38) rfl))) (mvT hZ (hw _ (List.mem_of_getElem? (i := 35) rfl))) (mvT hZ (hw _ (List.mem_of_getElem? (i := 32) rfl))) (mvT hZ (hw _ (List.mem_of_getElem? (i := 36) rfl))) (by decide) (backOf (W := 0) (rmMx l Z _ hw [] (own_max p0 p1) p2 T87.heap n0 Z96 ) hZ (hw _ (List.mem_of_getElem? (i := 36) rfl)) (hw _ (List.mem_of_getElem? (i := 32) rfl)) (by decide) (by decide)) (g := (mkF m 111 #[.val (.int p0), .val (.int p1), .val (.int p2), .val (.int p3), .val (.int p4), .val (.ref b1), .val (.int (1 : Int32)), .val (.int (4 : Int32)), .val (.long (((p0.toInt64) + (p1.toInt64)) + (p2.toInt64))), .second, .val (.int (own_min (own_min p0 p1) p2)), .val (.int (own_max p0 p1)), .unset, .unset, .unset, .unset] [(.int p2), (.int (own_max p0 p1))])) rfl (by rw [hml]; rfl) (argsL := [(.int (own_max p0 p1)), (.int p2)]) (rest := []) (lenOf pd_1 rfl) rfl (by show 2 * 0 + _ ≤ _; exact Nat.le_of_eq rfl) (hb hby at_111) (fun _ _ => ⟨rfl, hs97, (by decide : 1 + 0 ≤ _), (by decide : 5 + 0 ≤ _)⟩)
    dsimp only [Pt.U, Pt.locs, Pt.cells, Pt.slots] at X99 l99 y99 z99 st99 hQ99
    subst l99 y99 z99
    obtain ⟨rfl, Nq99, hs99⟩ := hQ99
    have N100 := Fr.app N98 Nq99
    refine OFin.of (S' := T99.setTop (mkF m 114 #[.val (.int p0), .val (.int p1), .val (.int p2), .val (.int p3), .val (.int p4), .val (.ref b1), .val (.int (1 : Int32)), .val (.int (4 : Int32)), .val (.long (((p0.toInt64) + (p1.toInt64)) + (p2.toInt64))), .second, .val (.int (own_min (own_min p0 p1) p2)), .val (.int (own_max p0 p1)), .unset, .unset, .unset, .unset] [(.int (own_max (own_max p0 p1) p2))])) (fun t ht => st99 t ht) ?_
    refine OFin.of (S' := T99.setTop (mkF m 125 #[.val (.int p0), .val (.int p1), .val (.int p2), .val (.int p3), .val (.int p4), .val (.ref b1), .val (.int (1 : Int32)), .val (.int (4 : Int32)), .val (.long (((p0.toInt64) + (p1.toInt64)) + (p2.toInt64))), .second, .val (.int (own_min (own_min p0 p1) p2)), .val (.int (own_max (own_max p0 p1) p2)), .unset, .unset, .unset, .unset] [(.int p3), (.ref b1)])) (fun t ht => ?_) ?_
    · refine XS.istore X99.here hx rfl (hb hby at_114) rfl (l' := #[.val (.int p0), .val (.int p1), .val (.int p2), .val (.int p3), .val (.int p4), .val (.ref b1), .val (.int (1 : Int32)), .val (.int (4 : Int32)), .val (.long (((p0.toInt64) + (p1.toInt64)) + (p2.toInt64))), .second, .val (.int (own_min (own_min p0 p1) p2)), .val (.int (own_max (own_max p0 p1) p2)), .unset, .unset, .unset, .unset]) rfl ?_
      show Steps p.tables e below (T99.setTop (mkF m 116 #[.val (.int p0), .val (.int p1), .val (.int p2), .val (.int p3), .val (.int p4), .val (.ref b1), .val (.int (1 : Int32)), .val (.int (4 : Int32)), .val (.long (((p0.toInt64) + (p1.toInt64)) + (p2.toInt64))), .second, .val (.int (own_min (own_min p0 p1) p2)), .val (.int (own_max (own_max p0 p1) p2)), .unset, .unset, .unset, .unset] [])) _
      refine XS.iload X99.here hx rfl (hb hby at_116) rfl ?_
      show Steps p.tables e below (T99.setTop (mkF m 118 _ [(.int (4 : Int32))])) _
      refine XS.iconst X99.here hx rfl (hb hby at_118) ?_
      show Steps p.tables e below (T99.setTop (mkF m 119 _ [(.int (4 : Int32)), (.int (4 : Int32))])) _
      refine XS.icmpNo X99.here hx rfl (hb hby at_119) rfl (flt (by decide : ¬ ((4 : Int32) < (4 : Int32)))).1 ?_
      show Steps p.tables e below (T99.setTop (mkF m 122 _ [])) _
      refine XS.aload X99.here hx rfl (hb hby at_122) rfl rfl ?_
      show Steps p.tables e below (T99.setTop (mkF m 124 _ [(.ref b1)])) _
      refine XS.iloadN X99.here hx rfl (hb hby at_124) rfl ?_
      exact ht
    obtain ⟨cq102, kq102, q102a, q102b, q102c⟩ := isOf hZ hs99 f95
    obtain ⟨_, _, ⟨T101, L101, k101, n101⟩, -, X101, ⟨Lc101, hQ101, l101, y101, z101⟩, st101⟩ := X99.virtualBack hx (y := (⟨"com/example/weekly_activity_scheduler/weeklyactivityscheduler/core/Spread", "add", "(I)V"⟩ : MethodName)) (z := (⟨"com/example/weekly_activity_scheduler/weeklyactivityscheduler/core/Spread", "add", "(I)V"⟩ : MethodName)) hown (mvT hZ (hw _ (List.mem_of_getElem? (i := 22) rfl))) (mvT hZ (hw _ (List.mem_of_getElem? (i := 23) rfl))) (notFace_of_selects (args := #[]) (mvT hZ (hw _ (List.mem_of_getElem? (i := 25) rfl)))) (mvT hZ (hw _ (List.mem_of_getElem? (i := 25) rfl))) (mvT hZ (hw _ (List.mem_of_getElem? (i := 24) rfl))) (by decide) (backOf (W := 0) (rmAd l Z _ hw [] b1 p3 (3 : Int64) (((p0.toInt64) + (p1.toInt64)) + (p2.toInt64)) (own_min (own_min p0 p1) p2) (own_max (own_max p0 p1) p2) (FP.dadd (FP.dadd 0 (FP.dmul (FP.dsub (FP.i2d p1) (FP.ddiv (FP.l2d (p0.toInt64)) (FP.l2d (1 : Int64)))) (FP.dsub (FP.i2d p1) (FP.ddiv (FP.l2d ((p0.toInt64) + (p1.toInt64))) (FP.l2d (2 : Int64)))))) (FP.dmul (FP.dsub (FP.i2d p2) (FP.ddiv (FP.l2d ((p0.toInt64) + (p1.toInt64))) (FP.l2d (2 : Int64)))) (FP.dsub (FP.i2d p2) (FP.ddiv (FP.l2d (((p0.toInt64) + (p1.toInt64)) + (p2.toInt64))) (FP.l2d (3 : Int64)))))) 1164 T87.heap n0 Z96 f95 f89 f90 f91 f92 f93 g2 (by decide) (by decide) (own_sdMag p2 ((p0.toInt64) + (p1.toInt64)) (((p0.toInt64) + (p1.toInt64)) + (p2.toInt64)) (w := (2 : Int64)) (w' := (3 : Int64)) (own_sdMag p1 (p0.toInt64) ((p0.toInt64) + (p1.toInt64)) (w := (1 : Int64)) (w' := (2 : Int64)) own_mag0 (by decide) (by decide) (by decide) (by decide)) (by decide) (by decide) (by decide) (by decide)) (by decide) (by decide)) hZ (hw _ (List.mem_of_getElem? (i := 26) rfl)) (hw _ (List.mem_of_getElem? (i := 2) rfl)) (by decide) (by decide)) q102a q102c (g := (mkF m 125 #[.val (.int p0), .val (.int p1), .val (.int p2), .val (.int p3), .val (.int p4), .val (.ref b1), .val (.int (1 : Int32)), .val (.int (4 : Int32)), .val (.long (((p0.toInt64) + (p1.toInt64)) + (p2.toInt64))), .second, .val (.int (own_min (own_min p0 p1) p2)), .val (.int (own_max (own_max p0 p1) p2)), .unset, .unset, .unset, .unset] [(.int p3), (.ref b1)])) rfl (by rw [hml]; rfl) (Steps.refl _) (argsL := [(.int p3)]) (rest := []) (lenOf pd_2 rfl) rfl (by show 2 * 0 + _ ≤ _; exact Nat.le_of_eq rfl) (hb hby at_125) (fun _ _ => ⟨rfl, hs99, (by decide : 1 + 0 ≤ _), (by decide : 5 + 0 ≤ _)⟩)
    dsimp only [Pt.U, Pt.locs, Pt.cells, Pt.slots] at X101 l101 y101 z101 st101 hQ101
    subst l101 y101 z101
    obtain ⟨rfl, Nq101, Kq101, f103, f104, f105, f106, f107⟩ := hQ101
    have N108 := Fr.app N100 Nq101
    have f109 := (f95.keep Kq101)
    have Z110 : n0 ≤ T101.heap.size := (Nat.le_trans Z96 Kq101.1)
    refine OFin.to (S' := T101.setTop (mkF m 128 #[.val (.int p0), .val (.int p1), .val (.int p2), .val (.int p3), .val (.int p4), .val (.ref b1), .val (.int (1 : Int32)), .val (.int (4 : Int32)), .val (.long (((p0.toInt64) + (p1.toInt64)) + (p2.toInt64))), .second, .val (.int (own_min (own_min p0 p1) p2)), .val (.int (own_max (own_max p0 p1) p2)), .unset, .unset, .unset, .unset] [])) st101 ?_
    refine OFin.of (S' := T101.setTop (mkF m 138 #[.val (.int p0), .val (.int p1), .val (.int p2), .val (.int p3), .val (.int p4), .val (.ref b1), .val (.int (1 : Int32)), .val (.int (4 : Int32)), .val (.long ((((p0.toInt64) + (p1.toInt64)) + (p2.toInt64)) + (p3.toInt64))), .second, .val (.int (own_min (own_min p0 p1) p2)), .val (.int (own_max (own_max p0 p1) p2)), .unset, .unset, .unset, .unset] [(.int p3), (.int (own_min (own_min p0 p1) p2))])) (fun t ht => ?_) ?_
    · refine XS.lload X101.here hx rfl (hb hby at_128) rfl ?_
      show Steps p.tables e below (T101.setTop (mkF m 130 _ [(.long (((p0.toInt64) + (p1.toInt64)) + (p2.toInt64)))])) _
      refine XS.iloadN X101.here hx rfl (hb hby at_130) rfl ?_
      show Steps p.tables e below (T101.setTop (mkF m 131 _ [(.int p3), (.long (((p0.toInt64) + (p1.toInt64)) + (p2.toInt64)))])) _
      refine XS.i2l X101.here hx rfl (hb hby at_131) rfl ?_
      show Steps p.tables e below (T101.setTop (mkF m 132 _ [(.long (p3.toInt64)), (.long (((p0.toInt64) + (p1.toInt64)) + (p2.toInt64)))])) _
      refine XS.ladd X101.here hx rfl (hb hby at_132) rfl ?_
      show Steps p.tables e below (T101.setTop (mkF m 133 _ [(.long ((((p0.toInt64) + (p1.toInt64)) + (p2.toInt64)) + (p3.toInt64)))])) _
      refine XS.lstore X101.here hx rfl (hb hby at_133) rfl (l' := #[.val (.int p0), .val (.int p1), .val (.int p2), .val (.int p3), .val (.int p4), .val (.ref b1), .val (.int (1 : Int32)), .val (.int (4 : Int32)), .val (.long ((((p0.toInt64) + (p1.toInt64)) + (p2.toInt64)) + (p3.toInt64))), .second, .val (.int (own_min (own_min p0 p1) p2)), .val (.int (own_max (own_max p0 p1) p2)), .unset, .unset, .unset, .unset]) rfl ?_
      show Steps p.tables e below (T101.setTop (mkF m 135 #[.val (.int p0), .val (.int p1), .val (.int p2), .val (.int p3), .val (.int p4), .val (.ref b1), .val (.int (1 : Int32)), .val (.int (4 : Int32)), .val (.long ((((p0.toInt64) + (p1.toInt64)) + (p2.toInt64)) + (p3.toInt64))), .second, .val (.int (own_min (own_min p0 p1) p2)), .val (.int (own_max (own_max p0 p1) p2)), .unset, .unset, .unset, .unset] [])) _
      refine XS.iload X101.here hx rfl (hb hby at_135) rfl ?_
      show Steps p.tables e below (T101.setTop (mkF m 137 _ [(.int (own_min (own_min p0 p1) p2))])) _
      refine XS.iloadN X101.here hx rfl (hb hby at_137) rfl ?_
      exact ht
    obtain ⟨_, _, ⟨T111, L111, k111, n111⟩, -, X111, ⟨Lc111, hQ111, l111, y111, z111⟩, st111⟩ := Jvm.LawKit.callS X101 hx (y := (⟨"java/lang/Math", "min", "(II)I"⟩ : MethodName)) hown (mvT hZ (hw _ (List.mem_of_getElem? (i := 37) rfl))) (mvT hZ (hw _ (List.mem_of_getElem? (i := 31) rfl))) (mvT hZ (hw _ (List.mem_of_getElem? (i := 32) rfl))) (mvT hZ (hw _ (List.mem_of_getElem? (i := 33) rfl))) (by decide) (backOf (W := 0) (rmMn l Z _ hw [] (own_min (own_min p0 p1) p2) p3 T101.heap n0 Z110 ) hZ (hw _ (List.mem_of_getElem? (i := 33) rfl)) (hw _ (List.mem_of_getElem? (i := 32) rfl)) (by decide) (by decide)) (g := (mkF m 138 #[.val (.int p0), .val (.int p1), .val (.int p2), .val (.int p3), .val (.int p4), .val (.ref b1), .val (.int (1 : Int32)), .val (.int (4 : Int32)), .val (.long ((((p0.toInt64) + (p1.toInt64)) + (p2.toInt64)) + (p3.toInt64))), .second, .val (.int (own_min (own_min p0 p1) p2)), .val (.int (own_max (own_max p0 p1) p2)), .unset, .unset, .unset, .unset] [(.int p3), (.int (own_min (own_min p0 p1) p2))])) rfl (by rw [hml]; rfl) (argsL := [(.int (own_min (own_min p0 p1) p2)), (.int p3)]) (rest := []) (lenOf pd_1 rfl) rfl (by show 2 * 0 + _ ≤ _; exact Nat.le_of_eq rfl) (hb hby at_138) (fun _ _ => ⟨rfl, (rfl : T101.heap = T101.heap), (by decide : 1 + 0 ≤ _), (by decide : 5 + 0 ≤ _)⟩)
    dsimp only [Pt.U, Pt.locs, Pt.cells, Pt.slots] at X111 l111 y111 z111 st111 hQ111
    subst l111 y111 z111
    obtain ⟨rfl, Nq111, hs111⟩ := hQ111
    have N112 := Fr.app N108 Nq111
    refine OFin.of (S' := T111.setTop (mkF m 141 #[.val (.int p0), .val (.int p1), .val (.int p2), .val (.int p3), .val (.int p4), .val (.ref b1), .val (.int (1 : Int32)), .val (.int (4 : Int32)), .val (.long ((((p0.toInt64) + (p1.toInt64)) + (p2.toInt64)) + (p3.toInt64))), .second, .val (.int (own_min (own_min p0 p1) p2)), .val (.int (own_max (own_max p0 p1) p2)), .unset, .unset, .unset, .unset] [(.int (own_min (own_min (own_min p0 p1) p2) p3))])) (fun t ht => st111 t ht) ?_
    refine OFin.of (S' := T111.setTop (mkF m 146 #[.val (.int p0), .val (.int p1), .val (.int p2), .val (.int p3), .val (.int p4), .val (.ref b1), .val (.int (1 : Int32)), .val (.int (4 : Int32)), .val (.long ((((p0.toInt64) + (p1.toInt64)) + (p2.toInt64)) + (p3.toInt64))), .second, .val (.int (own_min (own_min (own_min p0 p1) p2) p3)), .val (.int (own_max (own_max p0 p1) p2)), .unset, .unset, .unset, .unset] [(.int p3), (.int (own_max (own_max p0 p1) p2))])) (fun t ht => ?_) ?_
    · refine XS.istore X111.here hx rfl (hb hby at_141) rfl (l' := #[.val (.int p0), .val (.int p1), .val (.int p2), .val (.int p3), .val (.int p4), .val (.ref b1), .val (.int (1 : Int32)), .val (.int (4 : Int32)), .val (.long ((((p0.toInt64) + (p1.toInt64)) + (p2.toInt64)) + (p3.toInt64))), .second, .val (.int (own_min (own_min (own_min p0 p1) p2) p3)), .val (.int (own_max (own_max p0 p1) p2)), .unset, .unset, .unset, .unset]) rfl ?_
      show Steps p.tables e below (T111.setTop (mkF m 143 #[.val (.int p0), .val (.int p1), .val (.int p2), .val (.int p3), .val (.int p4), .val (.ref b1), .val (.int (1 : Int32)), .val (.int (4 : Int32)), .val (.long ((((p0.toInt64) + (p1.toInt64)) + (p2.toInt64)) + (p3.toInt64))), .second, .val (.int (own_min (own_min (own_min p0 p1) p2) p3)), .val (.int (own_max (own_max p0 p1) p2)), .unset, .unset, .unset, .unset] [])) _
      refine XS.iload X111.here hx rfl (hb hby at_143) rfl ?_
      show Steps p.tables e below (T111.setTop (mkF m 145 _ [(.int (own_max (own_max p0 p1) p2))])) _
      refine XS.iloadN X111.here hx rfl (hb hby at_145) rfl ?_
      exact ht
    obtain ⟨_, _, ⟨T113, L113, k113, n113⟩, -, X113, ⟨Lc113, hQ113, l113, y113, z113⟩, st113⟩ := Jvm.LawKit.callS X111 hx (y := (⟨"java/lang/Math", "max", "(II)I"⟩ : MethodName)) hown (mvT hZ (hw _ (List.mem_of_getElem? (i := 38) rfl))) (mvT hZ (hw _ (List.mem_of_getElem? (i := 35) rfl))) (mvT hZ (hw _ (List.mem_of_getElem? (i := 32) rfl))) (mvT hZ (hw _ (List.mem_of_getElem? (i := 36) rfl))) (by decide) (backOf (W := 0) (rmMx l Z _ hw [] (own_max (own_max p0 p1) p2) p3 T101.heap n0 Z110 ) hZ (hw _ (List.mem_of_getElem? (i := 36) rfl)) (hw _ (List.mem_of_getElem? (i := 32) rfl)) (by decide) (by decide)) (g := (mkF m 146 #[.val (.int p0), .val (.int p1), .val (.int p2), .val (.int p3), .val (.int p4), .val (.ref b1), .val (.int (1 : Int32)), .val (.int (4 : Int32)), .val (.long ((((p0.toInt64) + (p1.toInt64)) + (p2.toInt64)) + (p3.toInt64))), .second, .val (.int (own_min (own_min (own_min p0 p1) p2) p3)), .val (.int (own_max (own_max p0 p1) p2)), .unset, .unset, .unset, .unset] [(.int p3), (.int (own_max (own_max p0 p1) p2))])) rfl (by rw [hml]; rfl) (argsL := [(.int (own_max (own_max p0 p1) p2)), (.int p3)]) (rest := []) (lenOf pd_1 rfl) rfl (by show 2 * 0 + _ ≤ _; exact Nat.le_of_eq rfl) (hb hby at_146) (fun _ _ => ⟨rfl, hs111, (by decide : 1 + 0 ≤ _), (by decide : 5 + 0 ≤ _)⟩)
    dsimp only [Pt.U, Pt.locs, Pt.cells, Pt.slots] at X113 l113 y113 z113 st113 hQ113
    subst l113 y113 z113
    obtain ⟨rfl, Nq113, hs113⟩ := hQ113
    have N114 := Fr.app N112 Nq113
    refine OFin.of (S' := T113.setTop (mkF m 149 #[.val (.int p0), .val (.int p1), .val (.int p2), .val (.int p3), .val (.int p4), .val (.ref b1), .val (.int (1 : Int32)), .val (.int (4 : Int32)), .val (.long ((((p0.toInt64) + (p1.toInt64)) + (p2.toInt64)) + (p3.toInt64))), .second, .val (.int (own_min (own_min (own_min p0 p1) p2) p3)), .val (.int (own_max (own_max p0 p1) p2)), .unset, .unset, .unset, .unset] [(.int (own_max (own_max (own_max p0 p1) p2) p3))])) (fun t ht => st113 t ht) ?_
    refine OFin.of (S' := T113.setTop (mkF m 153 #[.val (.int p0), .val (.int p1), .val (.int p2), .val (.int p3), .val (.int p4), .val (.ref b1), .val (.int (1 : Int32)), .val (.int (4 : Int32)), .val (.long ((((p0.toInt64) + (p1.toInt64)) + (p2.toInt64)) + (p3.toInt64))), .second, .val (.int (own_min (own_min (own_min p0 p1) p2) p3)), .val (.int (own_max (own_max (own_max p0 p1) p2) p3)), .unset, .unset, .unset, .unset] [(.ref b1)])) (fun t ht => ?_) ?_
    · refine XS.istore X113.here hx rfl (hb hby at_149) rfl (l' := #[.val (.int p0), .val (.int p1), .val (.int p2), .val (.int p3), .val (.int p4), .val (.ref b1), .val (.int (1 : Int32)), .val (.int (4 : Int32)), .val (.long ((((p0.toInt64) + (p1.toInt64)) + (p2.toInt64)) + (p3.toInt64))), .second, .val (.int (own_min (own_min (own_min p0 p1) p2) p3)), .val (.int (own_max (own_max (own_max p0 p1) p2) p3)), .unset, .unset, .unset, .unset]) rfl ?_
      show Steps p.tables e below (T113.setTop (mkF m 151 #[.val (.int p0), .val (.int p1), .val (.int p2), .val (.int p3), .val (.int p4), .val (.ref b1), .val (.int (1 : Int32)), .val (.int (4 : Int32)), .val (.long ((((p0.toInt64) + (p1.toInt64)) + (p2.toInt64)) + (p3.toInt64))), .second, .val (.int (own_min (own_min (own_min p0 p1) p2) p3)), .val (.int (own_max (own_max (own_max p0 p1) p2) p3)), .unset, .unset, .unset, .unset] [])) _
      refine XS.aload X113.here hx rfl (hb hby at_151) rfl rfl ?_
      exact ht
    obtain ⟨cq116, kq116, q116a, q116b, q116c⟩ := isOf hZ hs113 f109
    obtain ⟨_, _, ⟨T115, L115, k115, n115⟩, -, X115, ⟨Lc115, hQ115, l115, y115, z115⟩, st115⟩ := X113.virtualBack hx (y := (⟨"com/example/weekly_activity_scheduler/weeklyactivityscheduler/core/Spread", "mean", "()D"⟩ : MethodName)) (z := (⟨"com/example/weekly_activity_scheduler/weeklyactivityscheduler/core/Spread", "mean", "()D"⟩ : MethodName)) hown (mvT hZ (hw _ (List.mem_of_getElem? (i := 17) rfl))) (mvT hZ (hw _ (List.mem_of_getElem? (i := 18) rfl))) (notFace_of_selects (args := #[]) (mvT hZ (hw _ (List.mem_of_getElem? (i := 20) rfl)))) (mvT hZ (hw _ (List.mem_of_getElem? (i := 20) rfl))) (mvT hZ (hw _ (List.mem_of_getElem? (i := 19) rfl))) (by decide) (backOf (W := 0) (rmMe l Z _ hw [] b1 (4 : Int64) ((((p0.toInt64) + (p1.toInt64)) + (p2.toInt64)) + (p3.toInt64)) T101.heap n0 Z110 f103 f104 (by decide)) hZ (hw _ (List.mem_of_getElem? (i := 21) rfl)) (hw _ (List.mem_of_getElem? (i := 2) rfl)) (by decide) (by decide)) q116a q116c (g := (mkF m 153 #[.val (.int p0), .val (.int p1), .val (.int p2), .val (.int p3), .val (.int p4), .val (.ref b1), .val (.int (1 : Int32)), .val (.int (4 : Int32)), .val (.long ((((p0.toInt64) + (p1.toInt64)) + (p2.toInt64)) + (p3.toInt64))), .second, .val (.int (own_min (own_min (own_min p0 p1) p2) p3)), .val (.int (own_max (own_max (own_max p0 p1) p2) p3)), .unset, .unset, .unset, .unset] [(.ref b1)])) rfl (by rw [hml]; rfl) (Steps.refl _) (argsL := []) (rest := []) (lenOf pd_0 rfl) rfl (by show 2 * 0 + _ ≤ _; exact Nat.le_of_eq rfl) (hb hby at_153) (fun _ _ => ⟨rfl, hs113, (by decide : 1 + 0 ≤ _), (by decide : 5 + 0 ≤ _)⟩)
    dsimp only [Pt.U, Pt.locs, Pt.cells, Pt.slots] at X115 l115 y115 z115 st115 hQ115
    subst l115 y115 z115
    obtain ⟨rfl, Nq115, hs115⟩ := hQ115
    have N117 := Fr.app N114 Nq115
    refine OFin.to (S' := T115.setTop (mkF m 156 #[.val (.int p0), .val (.int p1), .val (.int p2), .val (.int p3), .val (.int p4), .val (.ref b1), .val (.int (1 : Int32)), .val (.int (4 : Int32)), .val (.long ((((p0.toInt64) + (p1.toInt64)) + (p2.toInt64)) + (p3.toInt64))), .second, .val (.int (own_min (own_min (own_min p0 p1) p2) p3)), .val (.int (own_max (own_max (own_max p0 p1) p2) p3)), .unset, .unset, .unset, .unset] [(.double (FP.ddiv (FP.l2d ((((p0.toInt64) + (p1.toInt64)) + (p2.toInt64)) + (p3.toInt64))) (FP.l2d (4 : Int64))))])) st115 ?_
    refine OFin.of (S' := T115.setTop (mkF m 203 #[.val (.int p0), .val (.int p1), .val (.int p2), .val (.int p3), .val (.int p4), .val (.ref b1), .val (.int (1 : Int32)), .val (.int (4 : Int32)), .val (.long ((((p0.toInt64) + (p1.toInt64)) + (p2.toInt64)) + (p3.toInt64))), .second, .val (.int (own_min (own_min (own_min p0 p1) p2) p3)), .val (.int (own_max (own_max (own_max p0 p1) p2) p3)), .val (.double (FP.ddiv (FP.l2d ((((p0.toInt64) + (p1.toInt64)) + (p2.toInt64)) + (p3.toInt64))) (FP.l2d (4 : Int64)))), .second, .val (.double (FP.ddiv (FP.l2d ((((p0.toInt64) + (p1.toInt64)) + (p2.toInt64)) + (p3.toInt64))) (FP.i2d (4 : Int32)))), .second] [(.int (1 : Int32))])) (fun t ht => ?_) ?_
    · refine XS.dstore X115.here hx rfl (hb hby at_156) rfl (l' := #[.val (.int p0), .val (.int p1), .val (.int p2), .val (.int p3), .val (.int p4), .val (.ref b1), .val (.int (1 : Int32)), .val (.int (4 : Int32)), .val (.long ((((p0.toInt64) + (p1.toInt64)) + (p2.toInt64)) + (p3.toInt64))), .second, .val (.int (own_min (own_min (own_min p0 p1) p2) p3)), .val (.int (own_max (own_max (own_max p0 p1) p2) p3)), .val (.double (FP.ddiv (FP.l2d ((((p0.toInt64) + (p1.toInt64)) + (p2.toInt64)) + (p3.toInt64))) (FP.l2d (4 : Int64)))), .second, .unset, .unset]) rfl ?_
      show Steps p.tables e below (T115.setTop (mkF m 158 #[.val (.int p0), .val (.int p1), .val (.int p2), .val (.int p3), .val (.int p4), .val (.ref b1), .val (.int (1 : Int32)), .val (.int (4 : Int32)), .val (.long ((((p0.toInt64) + (p1.toInt64)) + (p2.toInt64)) + (p3.toInt64))), .second, .val (.int (own_min (own_min (own_min p0 p1) p2) p3)), .val (.int (own_max (own_max (own_max p0 p1) p2) p3)), .val (.double (FP.ddiv (FP.l2d ((((p0.toInt64) + (p1.toInt64)) + (p2.toInt64)) + (p3.toInt64))) (FP.l2d (4 : Int64)))), .second, .unset, .unset] [])) _
      refine XS.lload X115.here hx rfl (hb hby at_158) rfl ?_
      show Steps p.tables e below (T115.setTop (mkF m 160 _ [(.long ((((p0.toInt64) + (p1.toInt64)) + (p2.toInt64)) + (p3.toInt64)))])) _
      refine XS.l2dS X115.here hx rfl (hb hby at_160) rfl rfl ?_
      show Steps p.tables e below (T115.setTop (mkF m 161 _ [(.double (FP.l2d ((((p0.toInt64) + (p1.toInt64)) + (p2.toInt64)) + (p3.toInt64))))])) _
      refine XS.iload X115.here hx rfl (hb hby at_161) rfl ?_
      show Steps p.tables e below (T115.setTop (mkF m 163 _ [(.int (4 : Int32)), (.double (FP.l2d ((((p0.toInt64) + (p1.toInt64)) + (p2.toInt64)) + (p3.toInt64))))])) _
      refine XS.i2dS X115.here hx rfl (hb hby at_163) rfl rfl ?_
      show Steps p.tables e below (T115.setTop (mkF m 164 _ [(.double (FP.i2d (4 : Int32))), (.double (FP.l2d ((((p0.toInt64) + (p1.toInt64)) + (p2.toInt64)) + (p3.toInt64))))])) _
      refine XS.ddivS X115.here hx rfl (hb hby at_164) rfl (own_nni _ (by decide)) rfl ?_
      show Steps p.tables e below (T115.setTop (mkF m 165 _ [(.double (FP.ddiv (FP.l2d ((((p0.toInt64) + (p1.toInt64)) + (p2.toInt64)) + (p3.toInt64))) (FP.i2d (4 : Int32))))])) _
      refine XS.dstore X115.here hx rfl (hb hby at_165) rfl (l' := #[.val (.int p0), .val (.int p1), .val (.int p2), .val (.int p3), .val (.int p4), .val (.ref b1), .val (.int (1 : Int32)), .val (.int (4 : Int32)), .val (.long ((((p0.toInt64) + (p1.toInt64)) + (p2.toInt64)) + (p3.toInt64))), .second, .val (.int (own_min (own_min (own_min p0 p1) p2) p3)), .val (.int (own_max (own_max (own_max p0 p1) p2) p3)), .val (.double (FP.ddiv (FP.l2d ((((p0.toInt64) + (p1.toInt64)) + (p2.toInt64)) + (p3.toInt64))) (FP.l2d (4 : Int64)))), .second, .val (.double (FP.ddiv (FP.l2d ((((p0.toInt64) + (p1.toInt64)) + (p2.toInt64)) + (p3.toInt64))) (FP.i2d (4 : Int32)))), .second]) rfl ?_
      show Steps p.tables e below (T115.setTop (mkF m 167 #[.val (.int p0), .val (.int p1), .val (.int p2), .val (.int p3), .val (.int p4), .val (.ref b1), .val (.int (1 : Int32)), .val (.int (4 : Int32)), .val (.long ((((p0.toInt64) + (p1.toInt64)) + (p2.toInt64)) + (p3.toInt64))), .second, .val (.int (own_min (own_min (own_min p0 p1) p2) p3)), .val (.int (own_max (own_max (own_max p0 p1) p2) p3)), .val (.double (FP.ddiv (FP.l2d ((((p0.toInt64) + (p1.toInt64)) + (p2.toInt64)) + (p3.toInt64))) (FP.l2d (4 : Int64)))), .second, .val (.double (FP.ddiv (FP.l2d ((((p0.toInt64) + (p1.toInt64)) + (p2.toInt64)) + (p3.toInt64))) (FP.i2d (4 : Int32)))), .second] [])) _
      refine XS.iload X115.here hx rfl (hb hby at_167) rfl ?_
      show Steps p.tables e below (T115.setTop (mkF m 169 _ [(.int (1 : Int32))])) _
      refine XS.ifNo X115.here hx rfl (hb hby at_169) rfl ((if0 _ _).trans (feq (by decide : ¬ ((1 : Int32) = (0 : Int32)))).1) ?_
      show Steps p.tables e below (T115.setTop (mkF m 172 _ [])) _
      refine XS.dload X115.here hx rfl (hb hby at_172) rfl ?_
      show Steps p.tables e below (T115.setTop (mkF m 174 _ [(.double (FP.ddiv (FP.l2d ((((p0.toInt64) + (p1.toInt64)) + (p2.toInt64)) + (p3.toInt64))) (FP.l2d (4 : Int64))))])) _
      refine XS.dload X115.here hx rfl (hb hby at_174) rfl ?_
      show Steps p.tables e below (T115.setTop (mkF m 176 _ [(.double (FP.ddiv (FP.l2d ((((p0.toInt64) + (p1.toInt64)) + (p2.toInt64)) + (p3.toInt64))) (FP.i2d (4 : Int32)))), (.double (FP.ddiv (FP.l2d ((((p0.toInt64) + (p1.toInt64)) + (p2.toInt64)) + (p3.toInt64))) (FP.l2d (4 : Int64))))])) _
      refine XS.dcmpS X115.here hx rfl (hb hby at_176) rfl rfl ?_
      show Steps p.tables e below (T115.setTop (mkF m 177 _ [(.int (cmpValue (FP.dcmp (FP.ddiv (FP.l2d ((((p0.toInt64) + (p1.toInt64)) + (p2.toInt64)) + (p3.toInt64))) (FP.l2d (4 : Int64))) (FP.ddiv (FP.l2d ((((p0.toInt64) + (p1.toInt64)) + (p2.toInt64)) + (p3.toInt64))) (FP.i2d (4 : Int32)))) .l))])) _
      refine XS.ifNo X115.here hx rfl (hb hby at_177) rfl ((if0 _ _).trans (teq (own_eq4 _ _ _ _ : (cmpValue (FP.dcmp (FP.ddiv (FP.l2d ((((p0.toInt64) + (p1.toInt64)) + (p2.toInt64)) + (p3.toInt64))) (FP.l2d (4 : Int64))) (FP.ddiv (FP.l2d ((((p0.toInt64) + (p1.toInt64)) + (p2.toInt64)) + (p3.toInt64))) (FP.i2d (4 : Int32)))) .l) = (0 : Int32))).2) ?_
      show Steps p.tables e below (T115.setTop (mkF m 180 _ [])) _
      refine XS.iload X115.here hx rfl (hb hby at_180) rfl ?_
      show Steps p.tables e below (T115.setTop (mkF m 182 _ [(.int (own_min (own_min (own_min p0 p1) p2) p3))])) _
      refine XS.i2dS X115.here hx rfl (hb hby at_182) rfl rfl ?_
      show Steps p.tables e below (T115.setTop (mkF m 183 _ [(.double (FP.i2d (own_min (own_min (own_min p0 p1) p2) p3)))])) _
      refine XS.dload X115.here hx rfl (hb hby at_183) rfl ?_
      show Steps p.tables e below (T115.setTop (mkF m 185 _ [(.double (FP.ddiv (FP.l2d ((((p0.toInt64) + (p1.toInt64)) + (p2.toInt64)) + (p3.toInt64))) (FP.l2d (4 : Int64)))), (.double (FP.i2d (own_min (own_min (own_min p0 p1) p2) p3)))])) _
      refine XS.dcmpS X115.here hx rfl (hb hby at_185) rfl rfl ?_
      show Steps p.tables e below (T115.setTop (mkF m 186 _ [(.int (cmpValue (FP.dcmp (FP.i2d (own_min (own_min (own_min p0 p1) p2) p3)) (FP.ddiv (FP.l2d ((((p0.toInt64) + (p1.toInt64)) + (p2.toInt64)) + (p3.toInt64))) (FP.l2d (4 : Int64)))) .g))])) _
      refine XS.ifNo X115.here hx rfl (hb hby at_186) rfl ((if0 _ _).trans (flt (own_lo4 _ _ _ _ : ¬ ((0 : Int32) < (cmpValue (FP.dcmp (FP.i2d (own_min (own_min (own_min p0 p1) p2) p3)) (FP.ddiv (FP.l2d ((((p0.toInt64) + (p1.toInt64)) + (p2.toInt64)) + (p3.toInt64))) (FP.l2d (4 : Int64)))) .g)))).2.2.1) ?_
      show Steps p.tables e below (T115.setTop (mkF m 189 _ [])) _
      refine XS.dload X115.here hx rfl (hb hby at_189) rfl ?_
      show Steps p.tables e below (T115.setTop (mkF m 191 _ [(.double (FP.ddiv (FP.l2d ((((p0.toInt64) + (p1.toInt64)) + (p2.toInt64)) + (p3.toInt64))) (FP.l2d (4 : Int64))))])) _
      refine XS.iload X115.here hx rfl (hb hby at_191) rfl ?_
      show Steps p.tables e below (T115.setTop (mkF m 193 _ [(.int (own_max (own_max (own_max p0 p1) p2) p3)), (.double (FP.ddiv (FP.l2d ((((p0.toInt64) + (p1.toInt64)) + (p2.toInt64)) + (p3.toInt64))) (FP.l2d (4 : Int64))))])) _
      refine XS.i2dS X115.here hx rfl (hb hby at_193) rfl rfl ?_
      show Steps p.tables e below (T115.setTop (mkF m 194 _ [(.double (FP.i2d (own_max (own_max (own_max p0 p1) p2) p3))), (.double (FP.ddiv (FP.l2d ((((p0.toInt64) + (p1.toInt64)) + (p2.toInt64)) + (p3.toInt64))) (FP.l2d (4 : Int64))))])) _
      refine XS.dcmpS X115.here hx rfl (hb hby at_194) rfl rfl ?_
      show Steps p.tables e below (T115.setTop (mkF m 195 _ [(.int (cmpValue (FP.dcmp (FP.ddiv (FP.l2d ((((p0.toInt64) + (p1.toInt64)) + (p2.toInt64)) + (p3.toInt64))) (FP.l2d (4 : Int64))) (FP.i2d (own_max (own_max (own_max p0 p1) p2) p3))) .g))])) _
      refine XS.ifNo X115.here hx rfl (hb hby at_195) rfl ((if0 _ _).trans (flt (own_hi4 _ _ _ _ : ¬ ((0 : Int32) < (cmpValue (FP.dcmp (FP.ddiv (FP.l2d ((((p0.toInt64) + (p1.toInt64)) + (p2.toInt64)) + (p3.toInt64))) (FP.l2d (4 : Int64))) (FP.i2d (own_max (own_max (own_max p0 p1) p2) p3))) .g)))).2.2.1) ?_
      show Steps p.tables e below (T115.setTop (mkF m 198 _ [])) _
      refine XS.iconst X115.here hx rfl (hb hby at_198) ?_
      show Steps p.tables e below (T115.setTop (mkF m 199 _ [(.int (1 : Int32))])) _
      refine XS.goto X115.here hx rfl (pc0 := 199) (pc' := 203) rfl (hb hby at_199) (by decide) (by decide) ?_
      exact ht
    exact OFin.retB X115 hx hlk (t := .boolean) (by simp) hret (hb hby at_203) (by decide) (by decide) (by rw [hs115]; exact ⟨rfl, N117⟩)
set_option maxRecDepth 65536 in
set_option maxHeartbeats 40000000 in
theorem comes_1 {Post : Tables → Env → Array Value → State → Outcome → State → Prop} (hpost : ∀ tb e args s v u, (limb_1_1.after args s (.returned v) u = true ∧ limb_1_2.after args s (.returned v) u = true ∧ True) → FrameEnd s (.returned v) u (Jvm.fieldLocs frame_1_writes args s ++ Jvm.arrayLocs frame_1_arrays args s ++ Jvm.staticLocs frame_1_statics s) 16 128 → Post tb e args s (.returned v) u) :
    ArmFor flags0 classFile x code maxLocals ret World_1 tables_1 room_1 Calls_1 rest_1 Pre_1 Post := by
  intro l hfl _ _ p e ha hc hk s m args below hf hA hF happ hP
  obtain ⟨hcalls, hrest, hpre⟩ := hP
  obtain ⟨-, -, -, hnamed, -, -, -, hat⟩ := (Spec.applies_iff hf).mp happ
  obtain ⟨hg, hn⟩ := and_e (Cond.before_iff.mp (show (Jvm.Cond.and given_1 narrow_1).before args s = true from hpre))
  obtain ⟨gg0, hg0⟩ := and_e hg
  obtain ⟨gg1, hg1⟩ := and_e hg0
  obtain ⟨gg2, hg2⟩ := and_e hg1
  obtain ⟨gg3, hg3⟩ := and_e hg2
  obtain ⟨gg4, hg4⟩ := and_e hg3
  obtain ⟨w0, w1, w2, w3, w4, rfl⟩ : ∃ w0 w1 w2 w3 w4 : Value, args = #[w0, w1, w2, w3, w4] := by
    have hs : args.size = 5 := by simpa [Cond.value, given_1] using gg0
    obtain ⟨L⟩ := args
    match L, hs with
    | [w0, w1, w2, w3, w4], _ => exact ⟨w0, w1, w2, w3, w4, rfl⟩
  have hw := fun d (hd : d ∈ tables_1) => atoms_spec (ws := Jvm.Cond.code x code maxLocals ret :: tables_1) hat d (List.mem_cons_of_mem _ hd)
  have hfit : Fit s := fun {y c} hc i hi => by
    obtain ⟨ha, rfl⟩ := Array.getElem?_eq_some_iff.mp hc
    have q := List.all_eq_true.mp ((Array.all_eq_true_iff_forall_mem.mp hF) _ (Array.getElem_mem ha)) i (List.mem_range.mpr hi)
    simpa [Array.getElem?_eq_getElem hi] using q
  obtain ⟨i0, ei0⟩ := is_v gg1
  obtain rfl : w0 = (.int i0) := Option.some.inj ei0
  obtain ⟨i1, ei1⟩ := is_v gg2
  obtain rfl : w1 = (.int i1) := Option.some.inj ei1
  obtain ⟨i2, ei2⟩ := is_v gg3
  obtain rfl : w2 = (.int i2) := Option.some.inj ei2
  obtain ⟨i3, ei3⟩ := is_v gg4
  obtain rfl : w3 = (.int i3) := Option.some.inj ei3
  obtain ⟨i4, ei4⟩ := is_v hg4
  obtain rfl : w4 = (.int i4) := Option.some.inj ei4

  obtain ⟨n, o, h1, h2, h3, _, L, rfl, ⟨rfl, N⟩, hq⟩ := rm0 l s _ hw tables_1 i0 i1 i2 i3 i4  s.heap s.heap.size (Nat.le_refl _)  p e ha hc hk s m _ below hf ((Spec.applies_iff_loose hf).mp happ).1 ⟨rfl, State.Warmed39.refl s, rfl⟩ trivial
  refine ⟨n, _, h1, h2, h3, hpost _ _ _ _ _ _ ⟨Cond.after_iff.mpr rfl, Cond.after_iff.mpr (eq_i res_at (Term.int_eval (1)) rfl), trivial⟩ ⟨hq.1, hq.2.1, (hq.2.2.sift fun y hy => Or.inr (N y hy)).mono (by decide) (by decide)⟩⟩
theorem main_1_1 : Claimed_1_1 := comes_1 fun _ _ _ _ _ _ h hF => ⟨h.1, hF⟩
theorem main_1_2 : Claimed_1_2 := comes_1 fun _ _ _ _ _ _ h hF => ⟨h.2.1, hF⟩
end Jvm.Pilot.@@N@@
namespace Jvm.Pilot.@@N@@
open Jvm Jvm.ClassFile Sem Op Lib Jvm.Free Jvm.Stand Jvm.Pilot.@@N@@.Jvm.D
/-! MADE BY PROGRAM (witnessworld.py) out of the Statement's table words and the real class files: 10 classes; the members and pool entries that the words name. The judged class is class 1, her method 1. -/
namespace start1
open Jvm.ClassFile
def u (s : String) : CpInfo := .utf8 (stringToUtf16 s)
/-- a pool by its gaps: so many unusable entries, then the entry; so many at the end -/
def gap : Nat → List CpInfo → List CpInfo
  | 0, r => r
  | n + 1, r => .unusable :: gap n r
def poolList (es : List (Nat × CpInfo)) (last : Nat) : List CpInfo := es.foldr (fun e r => gap e.1 (e.2 :: r)) (gap last [])
def pool (es : List (Nat × CpInfo)) (last : Nat) : Array CpInfo := ⟨poolList es last⟩
def fileOf (pool : Array CpInfo) (this : Nat) (attrs : Array Attribute := #[]) (ms : Array MethodInfo := #[]) (fl : Nat := 33) (sup : Nat := 0) (ifs : Array Nat := #[]) (fds : Array FieldInfo := #[]) : ClassFile where
  minorVersion := 0
  majorVersion := 65
  constantPool := pool
  accessFlags := fl
  thisClass := this
  superClass := sup
  interfaces := ifs
  fields := fds
  methods := ms
  attributes := attrs
def plain (name : String) (sup : Option ClassId) : Class where
  name := name
  kind := .ordinary
  loader := none
  accessFlags := 33
  super := sup
  interfaces := #[]
  cf := none
  fields := #[]
  methods := #[]
  instanceTypes := #[]
  staticTypes := #[]
  resolved := #[]
  callSites := []
  init := .initialized
  statics := none
  mirror := none

def pool0 : Array CpInfo := pool [(5, u "<init>"), (0, u "()V"), (1, .class_ 10), (1, u "java/lang/Object")] 113

def k0c0 : Code := { maxStack := 0, maxLocals := 1, code := object_method_1_code, exceptionTable := #[], attributes := #[] }
def k0m0 : Method := { name := "<init>", desc := "()V", sig := { parameters := [], returnType := none }, accessFlags := 1, code := some k0c0 }
/-- java/lang/Object -/
def k0 : Class := { plain "java/lang/Object" none with
  accessFlags := 33
  interfaces := #[]
  cf := some (fileOf pool0 8 #[] #[{ accessFlags := 1, nameIndex := 5, descriptorIndex := 6, attributes := #[] }] 33 0 #[] #[])
  fields := #[]
  methods := #[k0m0]
  instanceTypes := #[]
  staticTypes := #[]
  resolved := Array.replicate 124 none
  statics := none }

def pool1 : Array CpInfo := pool [(2, .class_ 4), (1, u "java/lang/Object"), (0, u "<init>"), (0, u "()V"), (0, .class_ 8), (0, u "com/example/weekly_activity_scheduler/weeklyactivityscheduler/core/Spread"), (0, .methodref 7 10), (0, .nameAndType 5 11), (0, u "(I)V"), (0, .methodref 7 13), (0, .nameAndType 14 15), (0, u "mean"), (0, u "()D"), (0, .methodref 7 17), (0, .nameAndType 18 11), (0, u "add"), (0, .methodref 20 21), (0, .class_ 22), (0, .nameAndType 23 24), (0, u "java/lang/Math"), (0, u "min"), (0, u "(II)I"), (0, .methodref 20 26), (0, .nameAndType 27 24), (0, u "max"), (0, .class_ 29), (0, u "com/example/weekly_activity_scheduler/weeklyactivityscheduler/core/SpreadMeanPinLaw"), (2, u "law"), (0, u "(IIIII)Z")] 3

def k1m0 : Method := { name := "<init>", desc := "()V", sig := { parameters := [], returnType := none }, accessFlags := 1, code := none }
def k1c1 : Code := { maxStack := 4, maxLocals := 16, code := code, exceptionTable := #[], attributes := #[] }
def k1m1 : Method := { name := "law", desc := "(IIIII)Z", sig := { parameters := [.int, .int, .int, .int, .int], returnType := some .boolean }, accessFlags := 9, code := some k1c1 }
/-- com/example/weekly_activity_scheduler/weeklyactivityscheduler/core/SpreadMeanPinLaw -/
def k1 : Class := { plain "com/example/weekly_activity_scheduler/weeklyactivityscheduler/core/SpreadMeanPinLaw" (some 0) with
  accessFlags := 49
  interfaces := #[]
  cf := some (fileOf pool1 28 #[] #[{ accessFlags := 1, nameIndex := 5, descriptorIndex := 6, attributes := #[] }, { accessFlags := 9, nameIndex := 32, descriptorIndex := 33, attributes := #[] }] 49 2 #[] #[])
  fields := #[]
  methods := #[k1m0, k1m1]
  instanceTypes := #[]
  staticTypes := #[]
  resolved := Array.replicate 37 none
  statics := none }

def pool2 : Array CpInfo := pool [(1, .methodref 2 3), (0, .class_ 4), (0, .nameAndType 5 6), (0, u "java/lang/Object"), (0, u "<init>"), (0, u "()V"), (0, .fieldref 8 9), (0, .class_ 10), (0, .nameAndType 11 12), (0, u "com/example/weekly_activity_scheduler/weeklyactivityscheduler/core/Spread"), (0, u "replications"), (0, u "J"), (0, .fieldref 8 14), (0, .nameAndType 15 12), (0, u "sum"), (0, .fieldref 8 17), (0, .nameAndType 18 19), (0, u "min"), (0, u "I"), (0, .fieldref 8 21), (0, .nameAndType 22 19), (0, u "max"), (0, .methodref 8 24), (0, .nameAndType 25 26), (0, u "mean"), (0, u "()D"), (0, .fieldref 8 28), (0, .nameAndType 29 30), (0, u "squaredDeviations"), (0, u "D"), (0, .methodref 32 33), (0, .class_ 34), (0, .nameAndType 18 35), (0, u "java/lang/Math"), (0, u "(II)I"), (0, .methodref 32 37), (0, .nameAndType 22 35), (22, u "(I)V"), (2, u "add")] 7

def k2c0 : Code := { maxStack := 3, maxLocals := 2, code := prog_28_method_1_code, exceptionTable := #[], attributes := #[] }
def k2m0 : Method := { name := "<init>", desc := "(I)V", sig := { parameters := [.int], returnType := none }, accessFlags := 1, code := some k2c0 }
def k2c1 : Code := { maxStack := 9, maxLocals := 4, code := prog_28_method_2_code, exceptionTable := #[], attributes := #[] }
def k2m1 : Method := { name := "add", desc := "(I)V", sig := { parameters := [.int], returnType := none }, accessFlags := 1, code := some k2c1 }
def k2c2 : Code := { maxStack := 4, maxLocals := 1, code := prog_28_method_4_code, exceptionTable := #[], attributes := #[] }
def k2m2 : Method := { name := "mean", desc := "()D", sig := { parameters := [], returnType := some .double }, accessFlags := 1, code := some k2c2 }
/-- com/example/weekly_activity_scheduler/weeklyactivityscheduler/core/Spread -/
def k2 : Class := { plain "com/example/weekly_activity_scheduler/weeklyactivityscheduler/core/Spread" (some 0) with
  accessFlags := 33
  interfaces := #[]
  cf := some (fileOf pool2 8 #[] #[{ accessFlags := 1, nameIndex := 5, descriptorIndex := 60, attributes := #[] }, { accessFlags := 1, nameIndex := 63, descriptorIndex := 60, attributes := #[] }, { accessFlags := 1, nameIndex := 25, descriptorIndex := 26, attributes := #[] }] 33 2 #[] #[{ accessFlags := 2, nameIndex := 11, descriptorIndex := 12, attributes := #[] }, { accessFlags := 2, nameIndex := 15, descriptorIndex := 12, attributes := #[] }, { accessFlags := 2, nameIndex := 29, descriptorIndex := 30, attributes := #[] }, { accessFlags := 2, nameIndex := 18, descriptorIndex := 19, attributes := #[] }, { accessFlags := 2, nameIndex := 22, descriptorIndex := 19, attributes := #[] }])
  fields := #[{ name := "replications", type := .long, accessFlags := 2, slot := 0, constantValue := 0 }, { name := "sum", type := .long, accessFlags := 2, slot := 1, constantValue := 0 }, { name := "squaredDeviations", type := .double, accessFlags := 2, slot := 2, constantValue := 0 }, { name := "min", type := .int, accessFlags := 2, slot := 3, constantValue := 0 }, { name := "max", type := .int, accessFlags := 2, slot := 4, constantValue := 0 }]
  methods := #[k2m0, k2m1, k2m2]
  instanceTypes := #[.long, .long, .double, .int, .int]
  staticTypes := #[]
  resolved := Array.replicate 71 none
  statics := none }

def pool3 : Array CpInfo := pool [(1, .class_ 2), (0, u "java/lang/Math"), (1, .class_ 6), (1, u "java/lang/Object"), (0, u "<init>"), (0, u "()V"), (89, .class_ 100), (1, u "java/lang/Math$RandomNumberGeneratorHolder"), (71, u "negativeZeroFloatBits"), (0, u "J"), (2, u "negativeZeroDoubleBits"), (21, u "max"), (2, u "min"), (43, u "$assertionsDisabled"), (0, u "Z"), (88, u "(II)I"), (2, u "twoToTheDoubleScaleDown"), (0, u "D"), (4, u "twoToTheDoubleScaleUp"), (9, u "E"), (3, u "PI"), (2, u "TAU"), (2, u "DEGREES_TO_RADIANS"), (0, u "RADIANS_TO_DEGREES")] 94

def k3m0 : Method := { name := "<init>", desc := "()V", sig := { parameters := [], returnType := none }, accessFlags := 2, code := none }
def k3c1 : Code := { maxStack := 2, maxLocals := 2, code := jdk_29_method_65_code, exceptionTable := #[], attributes := #[] }
def k3m1 : Method := { name := "max", desc := "(II)I", sig := { parameters := [.int, .int], returnType := some .int }, accessFlags := 9, code := some k3c1 }
def k3c2 : Code := { maxStack := 2, maxLocals := 2, code := jdk_29_method_69_code, exceptionTable := #[], attributes := #[] }
def k3m2 : Method := { name := "min", desc := "(II)I", sig := { parameters := [.int, .int], returnType := some .int }, accessFlags := 9, code := some k3c2 }
/-- java/lang/Math -/
def k3 : Class := { plain "java/lang/Math" (some 0) with
  accessFlags := 49
  interfaces := #[]
  cf := some (fileOf pool3 1 #[.nestMembers #[98]] #[{ accessFlags := 2, nameIndex := 7, descriptorIndex := 8, attributes := #[] }, { accessFlags := 9, nameIndex := 198, descriptorIndex := 335, attributes := #[] }, { accessFlags := 9, nameIndex := 201, descriptorIndex := 335, attributes := #[] }] 49 4 #[] #[{ accessFlags := 25, nameIndex := 354, descriptorIndex := 339, attributes := #[] }, { accessFlags := 25, nameIndex := 358, descriptorIndex := 339, attributes := #[] }, { accessFlags := 25, nameIndex := 361, descriptorIndex := 339, attributes := #[] }, { accessFlags := 26, nameIndex := 364, descriptorIndex := 339, attributes := #[] }, { accessFlags := 26, nameIndex := 365, descriptorIndex := 339, attributes := #[] }, { accessFlags := 26, nameIndex := 172, descriptorIndex := 173, attributes := #[] }, { accessFlags := 26, nameIndex := 176, descriptorIndex := 173, attributes := #[] }, { accessFlags := 8, nameIndex := 344, descriptorIndex := 339, attributes := #[] }, { accessFlags := 8, nameIndex := 338, descriptorIndex := 339, attributes := #[] }, { accessFlags := 4120, nameIndex := 245, descriptorIndex := 246, attributes := #[] }])
  fields := #[{ name := "E", type := .double, accessFlags := 25, slot := 0, constantValue := 0 }, { name := "PI", type := .double, accessFlags := 25, slot := 1, constantValue := 0 }, { name := "TAU", type := .double, accessFlags := 25, slot := 2, constantValue := 0 }, { name := "DEGREES_TO_RADIANS", type := .double, accessFlags := 26, slot := 3, constantValue := 0 }, { name := "RADIANS_TO_DEGREES", type := .double, accessFlags := 26, slot := 4, constantValue := 0 }, { name := "negativeZeroFloatBits", type := .long, accessFlags := 26, slot := 5, constantValue := 0 }, { name := "negativeZeroDoubleBits", type := .long, accessFlags := 26, slot := 6, constantValue := 0 }, { name := "twoToTheDoubleScaleUp", type := .double, accessFlags := 8, slot := 7, constantValue := 0 }, { name := "twoToTheDoubleScaleDown", type := .double, accessFlags := 8, slot := 8, constantValue := 0 }, { name := "$assertionsDisabled", type := .boolean, accessFlags := 4120, slot := 9, constantValue := 0 }]
  methods := #[k3m0, k3m1, k3m2]
  instanceTypes := #[]
  staticTypes := #[.double, .double, .double, .double, .double, .long, .long, .double, .double, .boolean]
  resolved := Array.replicate 460 none
  statics := none }

def pool4 : Array CpInfo := pool [(1, u "java/lang/Cloneable"), (0, .class_ 1), (0, u "java/lang/Object"), (0, .class_ 3)] 3

/-- java/lang/Cloneable -/
def k4 : Class := { plain "java/lang/Cloneable" (some 0) with
  accessFlags := 1537
  interfaces := #[]
  cf := some (fileOf pool4 2 #[] #[] 1537 4 #[] #[])
  fields := #[]
  methods := #[]
  instanceTypes := #[]
  staticTypes := #[]
  resolved := Array.replicate 8 none
  statics := none }

def pool5 : Array CpInfo := pool [(1, u "java/io/Serializable"), (0, .class_ 1), (0, u "java/lang/Object"), (0, .class_ 3)] 3

/-- java/io/Serializable -/
def k5 : Class := { plain "java/io/Serializable" (some 0) with
  accessFlags := 1537
  interfaces := #[]
  cf := some (fileOf pool5 2 #[] #[] 1537 4 #[] #[])
  fields := #[]
  methods := #[]
  instanceTypes := #[]
  staticTypes := #[]
  resolved := Array.replicate 8 none
  statics := none }

/-- the primitive byte -/
def k6 : Class := { plain "byte" none with kind := .primitive 'B', accessFlags := 0x411 }
/-- [B -/
def k7 : Class := { plain "[B" (some 0) with kind := .array 6 .byte, interfaces := #[4, 5], accessFlags := 1041 }

/-- the primitive int -/
def k8 : Class := { plain "int" none with kind := .primitive 'I', accessFlags := 0x411 }
/-- [I -/
def k9 : Class := { plain "[I" (some 0) with kind := .array 8 .int, interfaces := #[4, 5], accessFlags := 1041 }

def heap : Heap := #[]
def classes : Array Class := #[k0, k1, k2, k3, k4, k5, k6, k7, k8, k9]
def interned : List (Array UInt16 × Addr) := []
def slotsUsed : Nat := 0
def theMethod : MethodId := ⟨1, 1⟩
def args0 : Array Value := #[.int 5, .int 5, .int 5, .int 5, .int 5]
def aboutOver (below : List Frame) : State where
  vm := { classes := classes, interned := interned.toArray }
  heap := heap
  slotsUsed := slotsUsed
  threads := #[{ frames := .invoking theMethod args0 :: below }]
def below0 : List Frame := [.native { method := ⟨0, 0⟩, args := #[] }]
def about1 : State := aboutOver below0
def p0 : Program := .bare "" "" ""
def e0 : Env := launch0.env 0 0 0
theorem w_frames : about1.frames = Frame.invoking theMethod args0 :: below0 := rfl
set_option maxRecDepth 65536 in
theorem w_args : argsFit about1.vm theMethod args0 = true := by decide +kernel
set_option maxRecDepth 65536 in
theorem w_heap : heapFits about1 = true := by decide +kernel
set_option maxRecDepth 65536 in
theorem w_runnable : about1.curStatus? = some .runnable := by decide +kernel
set_option maxRecDepth 65536 in
theorem w_alone : about1.alone = true := by decide +kernel
set_option maxRecDepth 65536 in
theorem w_named : about1.methodNamed? x = some theMethod := by decide +kernel
set_option maxRecDepth 65536 in
theorem w_hears : about1.hears theMethod below0 = true := by decide +kernel
set_option maxRecDepth 65536 in
theorem w_ripe : about1.ripe theMethod args0 below0 = true := by decide +kernel
theorem w_running : about1.status = .running := rfl
set_option maxRecDepth 65536 in
theorem w_room : about1.hasRoom e0.platform room_1 = true :=
  launch0.hasRoom_least _ room_1 (by decide +kernel) (by decide +kernel) (by decide +kernel) (by decide +kernel) (by decide +kernel) (by decide +kernel)
theorem allAtoms_all (ts : List Jvm.Cond) (a : Array Jvm.Value) (st : Jvm.State) : (allAtoms ts).before a st = ts.all (fun c => c.before a st) := by
  induction ts with
  | nil => rfl
  | cons c t ih =>
    show (Jvm.Cond.and c (allAtoms t)).before a st = _
    rw [Jvm.Cond.before_and, ih, List.all_cons]
def words1 : List Jvm.Cond := Jvm.Cond.code x code maxLocals ret :: tables_1
/-- a 'code' word, met by the world's own term for the bytes: nothing is compared byte by byte -/
theorem code_word {y : MethodName} {bytes : ByteArray} {mx : Nat} {rt : Option FieldType} {a : Array Value} {s : State} {m : MethodId} {meth : Method} {c : Code} (h1 : s.methodNamed? y = some m) (h2 : s.vm.method? m = some meth) (h3 : meth.code = some c) (h4 : c.code = bytes)
    (h5 : (c.maxLocals == mx && c.exceptionTable.isEmpty && decide (c.maxStack ≤ mostOperands) && decide (meth.sig.returnType = rt) && !meth.locks && decide (parseMethodDescriptor y.desc = some meth.sig)) = true) : (Jvm.Cond.code y bytes mx rt).before a s = true := by
  simp only [Bool.and_eq_true, beq_iff_eq, Bool.not_eq_true', decide_eq_true_eq] at h5
  obtain ⟨⟨⟨⟨⟨g1, g2⟩, g3⟩, g4⟩, g5⟩, g6⟩ := h5
  simp [Cond.before, Cond.holds, Cond.value, h1, h2, h3, h4, g1, g2, g3, g4, g5, g6]
def isCode : Jvm.Cond → Bool
  | .code _ _ _ _ => true
  | _ => false
theorem all_split {L : List Jvm.Cond} {P : Jvm.Cond → Bool} (h1 : L.all (fun c => isCode c || P c) = true) (h2 : ∀ c ∈ L.filter isCode, P c = true) : L.all P = true := by
  refine List.all_eq_true.mpr fun c hc => ?_
  have h := List.all_eq_true.mp h1 c hc
  rcases Bool.eq_false_or_eq_true (isCode c) with hi | hi
  · exact h2 c (List.mem_filter.mpr ⟨hc, hi⟩)
  · simpa [hi] using h
set_option maxRecDepth 65536 in
theorem w_c0 : (Jvm.Cond.code x code maxLocals ret).before args0 about1 = true := code_word (m := ⟨1, 1⟩) (meth := k1m1) (c := k1c1) (by decide +kernel) rfl rfl rfl (by decide +kernel)
set_option maxRecDepth 65536 in
theorem w_c1 : (Jvm.Cond.code ({ cls := "com/example/weekly_activity_scheduler/weeklyactivityscheduler/core/Spread", name := "<init>", desc := "(I)V" } : Jvm.MethodName) prog_28_method_1_code (2 : Nat) (Option.none : Option Jvm.ClassFile.FieldType)).before args0 about1 = true := code_word (m := ⟨2, 0⟩) (meth := k2m0) (c := k2c0) (by decide +kernel) rfl rfl rfl (by decide +kernel)
set_option maxRecDepth 65536 in
theorem w_c2 : (Jvm.Cond.code ({ cls := "java/lang/Object", name := "<init>", desc := "()V" } : Jvm.MethodName) object_method_1_code (1 : Nat) (Option.none : Option Jvm.ClassFile.FieldType)).before args0 about1 = true := code_word (m := ⟨0, 0⟩) (meth := k0m0) (c := k0c0) (by decide +kernel) rfl rfl rfl (by decide +kernel)
set_option maxRecDepth 65536 in
theorem w_c3 : (Jvm.Cond.code ({ cls := "com/example/weekly_activity_scheduler/weeklyactivityscheduler/core/Spread", name := "mean", desc := "()D" } : Jvm.MethodName) prog_28_method_4_code (1 : Nat) (Option.some Jvm.ClassFile.FieldType.double)).before args0 about1 = true := code_word (m := ⟨2, 2⟩) (meth := k2m2) (c := k2c2) (by decide +kernel) rfl rfl rfl (by decide +kernel)
set_option maxRecDepth 65536 in
theorem w_c4 : (Jvm.Cond.code ({ cls := "com/example/weekly_activity_scheduler/weeklyactivityscheduler/core/Spread", name := "add", desc := "(I)V" } : Jvm.MethodName) prog_28_method_2_code (4 : Nat) (Option.none : Option Jvm.ClassFile.FieldType)).before args0 about1 = true := code_word (m := ⟨2, 1⟩) (meth := k2m1) (c := k2c1) (by decide +kernel) rfl rfl rfl (by decide +kernel)
set_option maxRecDepth 65536 in
theorem w_c5 : (Jvm.Cond.code ({ cls := "java/lang/Math", name := "min", desc := "(II)I" } : Jvm.MethodName) jdk_29_method_69_code (2 : Nat) (Option.some Jvm.ClassFile.FieldType.int)).before args0 about1 = true := code_word (m := ⟨3, 2⟩) (meth := k3m2) (c := k3c2) (by decide +kernel) rfl rfl rfl (by decide +kernel)
set_option maxRecDepth 65536 in
theorem w_c6 : (Jvm.Cond.code ({ cls := "java/lang/Math", name := "max", desc := "(II)I" } : Jvm.MethodName) jdk_29_method_65_code (2 : Nat) (Option.some Jvm.ClassFile.FieldType.int)).before args0 about1 = true := code_word (m := ⟨3, 1⟩) (meth := k3m1) (c := k3c1) (by decide +kernel) rfl rfl rfl (by decide +kernel)
def codes1 : List Jvm.Cond := [Jvm.Cond.code x code maxLocals ret, Jvm.Cond.code ({ cls := "com/example/weekly_activity_scheduler/weeklyactivityscheduler/core/Spread", name := "<init>", desc := "(I)V" } : Jvm.MethodName) prog_28_method_1_code (2 : Nat) (Option.none : Option Jvm.ClassFile.FieldType), Jvm.Cond.code ({ cls := "java/lang/Object", name := "<init>", desc := "()V" } : Jvm.MethodName) object_method_1_code (1 : Nat) (Option.none : Option Jvm.ClassFile.FieldType), Jvm.Cond.code ({ cls := "com/example/weekly_activity_scheduler/weeklyactivityscheduler/core/Spread", name := "mean", desc := "()D" } : Jvm.MethodName) prog_28_method_4_code (1 : Nat) (Option.some Jvm.ClassFile.FieldType.double), Jvm.Cond.code ({ cls := "com/example/weekly_activity_scheduler/weeklyactivityscheduler/core/Spread", name := "add", desc := "(I)V" } : Jvm.MethodName) prog_28_method_2_code (4 : Nat) (Option.none : Option Jvm.ClassFile.FieldType), Jvm.Cond.code ({ cls := "java/lang/Math", name := "min", desc := "(II)I" } : Jvm.MethodName) jdk_29_method_69_code (2 : Nat) (Option.some Jvm.ClassFile.FieldType.int), Jvm.Cond.code ({ cls := "java/lang/Math", name := "max", desc := "(II)I" } : Jvm.MethodName) jdk_29_method_65_code (2 : Nat) (Option.some Jvm.ClassFile.FieldType.int)]
set_option maxRecDepth 65536 in
theorem codes_eq : words1.filter isCode = codes1 := rfl
theorem w_codes : ∀ c ∈ words1.filter isCode, c.before args0 about1 = true := by
  rw [codes_eq]
  intro c hc
  simp only [codes1, List.mem_cons, List.not_mem_nil, or_false] at hc
  rcases hc with rfl | rfl | rfl | rfl | rfl | rfl | rfl
  · exact w_c0
  · exact w_c1
  · exact w_c2
  · exact w_c3
  · exact w_c4
  · exact w_c5
  · exact w_c6
set_option maxRecDepth 65536 in
theorem w_t1 : (words1.take 24).all (fun c => isCode c || c.before args0 about1) = true := by decide +kernel
set_option maxRecDepth 65536 in
theorem w_t2 : (words1.drop 24).all (fun c => isCode c || c.before args0 about1) = true := by decide +kernel
theorem w_tables : (allAtoms (Jvm.Cond.code x code maxLocals ret :: tables_1)).before args0 about1 = true := by
  rw [allAtoms_all]
  show words1.all (fun c => c.before args0 about1) = true
  refine all_split ?_ w_codes
  rw [← List.take_append_drop 24 words1, List.all_append, w_t1, w_t2]
  rfl
set_option maxRecDepth 65536 in
theorem w_case : (Jvm.Cond.and given_1 narrow_1).before args0 about1 = true := by decide +kernel
theorem w_applies : (headSpec (Jvm.Cond.code x code maxLocals ret :: tables_1) room_1).applies x e0.platform about1 = true :=
  (Spec.applies_iff w_frames).mpr ⟨w_running, w_runnable, w_alone, w_named, w_hears, w_ripe, w_room, w_tables⟩
theorem atStart : AtStart classFile x code maxLocals ret World_1 tables_1 room_1 Calls_1 rest_1 Pre_1 launch0 p0 e0 about1 theMethod args0 below0 :=
  ⟨lists_1, trivial, launch0.admits_env _ _ _, launch0.least_env, fairChoices_fair.cas, fairChoices_fair.clock, w_frames, w_args, w_heap, w_applies, trivial, trivial, w_case⟩
end start1
theorem witness_1 : WitnessClaimed_1 := ⟨start1.p0, start1.e0, start1.about1, start1.theMethod, start1.args0, start1.below0, start1.atStart⟩
end Jvm.Pilot.@@N@@
