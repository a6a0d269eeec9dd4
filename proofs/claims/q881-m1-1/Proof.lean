import JvmDerived
import JvmDerived.Pilot.@@N@@Statement
import JvmDerived.Pilot.@@N@@Code
set_option linter.unusedVariables false
set_option linter.unusedSimpArgs false
namespace Jvm.RoadKit
open Sem ClassFile Op Lib Jvm.Stand Jvm.Free Jvm.LawKit
section OwnNew
variable {p : Program} {l : Launch} {e : Env} {R : Room} {s : State} {m : MethodId} {args : Array Value} {below : List Frame} {meth : Method} {c : Code} {T : State} {locs : List Loc} {cells slots : Nat}
theorem retI (X : Stand p l e R s m args below meth c T locs cells slots) (hx : p.tables.exec = Jvm.exec) {pc : Nat} {Ls : Array Slot} {z : Int32} {rest : List Value} (hret : meth.sig.returnType = some .int) (hd : decode c.code pc = .ok (.ireturn, 1)) {fs : List Frame}
    (hl : ∀ (f : JFrame) (acts : List Action), f.method = m → f.locked = none → f.entered = [] → (doReturn e (T.setTop f) acts (some (.int z))).1 = T.setFrames fs) : Steps p.tables e below (T.setTop (mkF m pc Ls (.int z :: rest))) (T.setFrames fs) := by
  have hm' : T.vm.method? m = some meth := X.method'
  have hn : narrow .int (.int z) = .int z := rfl
  show Steps p.tables e below (T.setTop { method := m, pc := pc, locals := Ls, stack := _ :: rest, locked := none }) _
  jvm_step X.here [X.here.top, hx, hd, hm', hret, hn]
  first | (intro acts; rw [hl _ acts rfl rfl rfl]) | rw [hl _ _ rfl rfl rfl]
  exact Steps.refl _
/-- from S the run comes to an end of this invocation at which K holds -/
def OFin (p : Program) (e : Env) (below : List Frame) (K : Outcome → State → Prop) (S : State) : Prop := ∃ s₂ o, Steps p.tables e below S s₂ ∧ s₂.status = .running ∧ Ended s₂ below o ∧ K o s₂
theorem OFin.of {K : Outcome → State → Prop} {S S' : State} (h : ∀ t, Steps p.tables e below S' t → Steps p.tables e below S t) (k : OFin p e below K S') : OFin p e below K S := by
  obtain ⟨t, o, a, b⟩ := k; exact ⟨t, o, h t a, b⟩
theorem OFin.to {K : Outcome → State → Prop} {S S' : State} (h : Steps p.tables e below S S') (k : OFin p e below K S') : OFin p e below K S := by
  obtain ⟨t, o, a, b⟩ := k; exact ⟨t, o, h.trans a, b⟩
abbrev KPost (s : State) (Q : Option Value → Heap → List Loc → Prop) (C D : Nat) : Outcome → State → Prop := fun o U' => ∃ v L, o = .returned v ∧ Q v U'.heap L ∧ FrameEnd s o U' L C D
theorem OFin.retI (X : Stand p l e R s m args below meth c T locs cells slots) (hx : p.tables.exec = Jvm.exec) (hlk : meth.locks = false) {pc : Nat} {Ls : Array Slot} {z : Int32} {rest : List Value} {Q : Option Value → Heap → List Loc → Prop} {C D : Nat} (hret : meth.sig.returnType = some .int) (hd : decode c.code pc = .ok (.ireturn, 1)) (hC : cells ≤ C) (hD : slots ≤ D) (hQ : Q (some (.int z)) T.heap locs) :
    OFin p e below (KPost s Q C D) (T.setTop (mkF m pc Ls (.int z :: rest))) := by
  obtain ⟨fs, hr, hrun, hended, hW, hsame⟩ := X.leave (v := some (.int z)) (fun h => by rw [hret] at h; cases h) hlk
  exact ⟨_, _, Jvm.RoadKit.retI X hx hret hd hr, hrun, hended, _, _, rfl, hQ, ⟨_, rfl⟩, hW, hsame.mono hC hD⟩
theorem OFin.retB (X : Stand p l e R s m args below meth c T locs cells slots) (hx : p.tables.exec = Jvm.exec) (hlk : meth.locks = false) {pc : Nat} {Ls : Array Slot} {z : Int32} {rest : List Value} {Q : Option Value → Heap → List Loc → Prop} {C D : Nat} {t : FieldType} (ht : t = .boolean ∨ t = .byte ∨ t = .char ∨ t = .short) (hret : meth.sig.returnType = some t) (hd : decode c.code pc = .ok (.ireturn, 1)) (hC : cells ≤ C) (hD : slots ≤ D) (hQ : Q (some (.int (nar t z))) T.heap locs) :
    OFin p e below (KPost s Q C D) (T.setTop (mkF m pc Ls (.int z :: rest))) := by
  obtain ⟨fs, hr, hrun, hended, hW, hsame⟩ := X.leave (v := some (.int (nar t z))) (fun h => by rw [hret] at h; cases h) hlk
  exact ⟨_, _, retN X hx hret ht hd hr, hrun, hended, _, _, rfl, hQ, ⟨_, rfl⟩, hW, hsame.mono hC hD⟩
theorem OFin.retJ (X : Stand p l e R s m args below meth c T locs cells slots) (hx : p.tables.exec = Jvm.exec) (hlk : meth.locks = false) {pc : Nat} {Ls : Array Slot} {z : Int64} {Q : Option Value → Heap → List Loc → Prop} {C D : Nat} (hret : meth.sig.returnType = some .long) (hd : decode c.code pc = .ok (.lreturn, 1)) (hC : cells ≤ C) (hD : slots ≤ D) (hQ : Q (some (.long z)) T.heap locs) :
    OFin p e below (KPost s Q C D) (T.setTop (mkF m pc Ls [.long z])) := by
  obtain ⟨fs, hr, hrun, hended, hW, hsame⟩ := X.leave (v := some (.long z)) (fun h => by rw [hret] at h; cases h) hlk
  exact ⟨_, _, X.lreturnOut hx hret hd hr, hrun, hended, _, _, rfl, hQ, ⟨_, rfl⟩, hW, hsame.mono hC hD⟩
theorem OFin.retA (X : Stand p l e R s m args below meth c T locs cells slots) (hx : p.tables.exec = Jvm.exec) (hlk : meth.locks = false) {pc : Nat} {Ls : Array Slot} {z : Value} {Q : Option Value → Heap → List Loc → Prop} {C D : Nat} {t : FieldType} (ht : t.isReference = true) (hz : z.isRef = true) (hret : meth.sig.returnType = some t) (hd : decode c.code pc = .ok (.areturn, 1)) (hC : cells ≤ C) (hD : slots ≤ D) (hQ : Q (some z) T.heap locs) :
    OFin p e below (KPost s Q C D) (T.setTop (mkF m pc Ls [z])) := by
  obtain ⟨fs, hr, hrun, hended, hW, hsame⟩ := X.leave (v := some z) (fun h => by rw [hret] at h; cases h) hlk
  exact ⟨_, _, X.areturnOut hx hz hret ht hd hr, hrun, hended, _, _, rfl, hQ, ⟨_, rfl⟩, hW, hsame.mono hC hD⟩
theorem OFin.retD (X : Stand p l e R s m args below meth c T locs cells slots) (hx : p.tables.exec = Jvm.exec) (hlk : meth.locks = false) {pc : Nat} {Ls : Array Slot} {z : UInt64} {rest : List Value} {Q : Option Value → Heap → List Loc → Prop} {C D : Nat} (hret : meth.sig.returnType = some .double) (hd : decode c.code pc = .ok (.dreturn, 1)) (hC : cells ≤ C) (hD : slots ≤ D) (hQ : Q (some (.double z)) T.heap locs) :
    OFin p e below (KPost s Q C D) (T.setTop (mkF m pc Ls (.double z :: rest))) := by
  obtain ⟨fs, hr, hrun, hended, hW, hsame⟩ := X.leave (v := some (.double z)) (fun h => by rw [hret] at h; cases h) hlk
  exact ⟨_, _, retOut X hx hret rfl (Or.inr (Or.inr (Or.inl ⟨rfl, rfl, z, rfl⟩))) hd hr, hrun, hended, _, _, rfl, hQ, ⟨_, rfl⟩, hW, hsame.mono hC hD⟩
theorem OFin.retV (X : Stand p l e R s m args below meth c T locs cells slots) (hx : p.tables.exec = Jvm.exec) (hlk : meth.locks = false) {pc : Nat} {Ls : Array Slot} {Q : Option Value → Heap → List Loc → Prop} {C D : Nat} (hret : meth.sig.returnType = none) (hd : decode c.code pc = .ok (.return_, 1)) (hC : cells ≤ C) (hD : slots ≤ D) (hQ : Q none T.heap locs) :
    OFin p e below (KPost s Q C D) (T.setTop (mkF m pc Ls [])) := by
  obtain ⟨fs, hr, hrun, hended, hW, hsame⟩ := X.leave (v := none) (fun _ => rfl) hlk
  exact ⟨_, _, X.returnOut hx hret hd hr, hrun, hended, _, _, rfl, hQ, ⟨_, rfl⟩, hW, hsame.mono hC hD⟩
abbrev KPostW (s : State) (Q : Option Value → Heap → List Loc → Prop) (C D : Nat) : Outcome → State → Prop := fun o U' => ∃ v L, o = .returned v ∧ Q v U'.heap L ∧ ReturnedEndW s o U' L C D
theorem OFin.retBW {vm₁ : Vm} {k : Nat} (X : Stand p l e R (s.setVm vm₁) m args below meth c T locs cells slots) (hS : s.Since vm₁ k) (hk : k ≤ T.heap.size) (hx : p.tables.exec = Jvm.exec) (hlk : meth.locks = false) {pc : Nat} {Ls : Array Slot} {z : Int32} {rest : List Value} {Q : Option Value → Heap → List Loc → Prop} {C D : Nat} {t : FieldType} (ht : t = .boolean ∨ t = .byte ∨ t = .char ∨ t = .short) (hret : meth.sig.returnType = some t) (hd : decode c.code pc = .ok (.ireturn, 1)) (hC : cells ≤ C) (hD : slots ≤ D) (hQ : Q (some (.int (nar t z))) T.heap locs) :
    OFin p e below (KPostW s Q C D) (T.setTop (mkF m pc Ls (.int z :: rest))) := by
  obtain ⟨fs, hr, hrun, hended, h1, h2, h3, h4⟩ := X.leaveW hS hk (v := some (.int (nar t z))) (fun h => by rw [hret] at h; cases h) hlk
  exact ⟨_, _, retN X hx hret ht hd hr, hrun, hended, _, _, rfl, hQ, ⟨_, rfl⟩, h2, h3, h4.mono hC hD⟩
theorem own_alen {Z : State} {h : Heap} {a : Addr} {cl : Cell} {ty : FieldType} {z : Int32} {g : JFrame} {rest : List Value} {target : State} (X : Stand p l e R s m args below meth c T locs cells slots) (hx : p.tables.exec = Jvm.exec) (hZ : Z.Warmed39 s.vm) (eT : T.heap = h) (A : Arr Z h a cl ty) (S : cl.slots.size = z.toNatClampNeg) (q : ¬ z < 0) (hg : g.method = m) (hs : g.stack = .ref a :: rest) (hd : decode c.code g.pc = .ok (.arraylength, 1))
    (hr : Steps p.tables e below (T.setTop { g with pc := g.pc + 1, stack := .int z :: rest }) target) : Steps p.tables e below (T.setTop g) target := by
  refine X.arraylength hx (by rw [eT]; exact A.1) (State.isArrayOf_alike hZ.alike A.2.1) hg hs hd _ ?_
  rw [len_of S q]; exact hr
def OwnNoSta (h : Heap) (ws : List Addr) : Prop := ∀ x ∈ ws, ∀ cell : Cell, h[x]? = some cell → cell.vm.isStatics = false
theorem own_sn0 {h : Heap} : OwnNoSta h [] := fun _ q => nomatch q
theorem own_snS {Z : State} {h : Heap} {a : Addr} {C : String} {ws : List Addr} (E : Exa Z h a C) (r : OwnNoSta h ws) : OwnNoSta h (a :: ws) := fun x q cell hc => by
  rcases List.mem_cons.mp q with rfl | q
  · obtain ⟨c', _, h1, -, -, h4, -⟩ := E; cases h1.symm.trans hc; exact h4
  · exact r x q cell hc
theorem own_snV {Z : State} {h : Heap} {a : Addr} {k : ClassId} {ty : FieldType} {z : Int32} {vs : List Value} {dv : Value} {ws : List Addr} (F : Arv Z h a k ty z vs dv) (r : OwnNoSta h ws) : OwnNoSta h (a :: ws) := fun x q cell hc => by
  rcases List.mem_cons.mp q with rfl | q
  · obtain ⟨c', A, -⟩ := F; cases A.1.symm.trans hc; exact A.plain
  · exact r x q cell hc
theorem own_staKeep {Z : State} {h h' : Heap} {C n d : String} {v : Value} {ws : List Addr} (F : Sta Z h C n d v) (K : Keep h h' ws) (q : OwnNoSta h ws) : Sta Z h' C n d v := by
  obtain ⟨cf, i, k, f, st, cell, h1, h2, h3, h4, h5, h6, h7⟩ := F
  refine ⟨cf, i, k, f, st, cell, h1, h2, h3, h4, K.2.1 st cell h5 (fun z => ?_), h6, h7⟩
  have := q st z cell h5
  rw [this] at h6; cases h6
theorem own_pop2L {tb : Tables} [Ours tb] {e : Env} {below : List Frame} {T target : State} {m : MethodId} {c : Code} {g : JFrame} (h : At T m c below) (hx : tb.exec = Jvm.exec) (hg : g.method = m) {x : Int64} {rest : List Value} (hd : decode c.code g.pc = .ok (.pop2, 1)) (hs : g.stack = .long x :: rest)
    (hr : Steps tb e below (T.setTop { g with pc := g.pc + 1, stack := rest }) target) : Steps tb e below (T.setTop g) target := by
  subst hg
  jvm_step h [h.top, hx, hd, hs, Value.category]
  exact hr
def OwnMet (E : Int32) (h0 : Heap) (n0 : Nat) (v : Option Value) (h : Heap) (L : List Loc) : Prop := v = some (.int E) ∧ Fr n0 L ∧ h = h0
end OwnNew
end Jvm.RoadKit
namespace Jvm.Pilot.@@N@@
open Jvm Jvm.ClassFile Sem Op Lib Jvm.Free Jvm.Stand Jvm.LawKit Jvm.RoadKit Bundle Jvm.Pilot.@@N@@.Jvm.D
theorem pd_0 : parseMethodDescriptor "(J)D" = some ⟨[.long], some .double⟩ := by decide +kernel
section OwnPure
open Jvm.FP.Core
theorem own_zv {a b : UInt64} (ha : val64 a ≠ .nan) (hb : val64 b ≠ .nan) : FP.dcmp a b = some (compare (zval b64 (val64 a)) (zval b64 (val64 b))) := dcmp_zval ha hb
/-- a sum whose exact value is a number of the format -/
theorem own_addz {x y : UInt64} {V : Datum} (hx : DFin x) (hy : DFin y) (fV : FP.Core.fits b64 V) (hV : V ≠ .nan) (h : zval b64 (val64 x) + zval b64 (val64 y) = zval b64 V) : zval b64 (val64 (FP.dadd x y)) = zval b64 V := by
  have e : val64 (FP.dadd x y) = round b64 (exactSum (val64 x) (val64 y)) := val64_dadd x y
  rw [e]
  have h1 := sum_le good_b64 hx hy (val64_fits x) (val64_fits y) fV hV (by omega)
  have h2 := sum_ge good_b64 hx hy (val64_fits x) (val64_fits y) fV hV (by omega)
  omega
/-- a product of two positive numbers whose exact value is a number of the format -/
theorem own_mulz {x y : UInt64} {V : Datum} (hx : DFin x) (hy : DFin y) (sx : sgn (val64 x) = false) (sy : sgn (val64 y) = false) (fV : FP.Core.fits b64 V) (hV : V ≠ .nan) (sV : sgn V = false)
    (h : zmag b64 (val64 x) * zmag b64 (val64 y) = zmag b64 V * one64) : zval b64 (val64 (FP.dmul x y)) = zval b64 V := by
  have e : val64 (FP.dmul x y) = round b64 (exactProduct (val64 x) (val64 y)) := val64_dmul x y
  rw [e]
  obtain ⟨s, c, q, ex⟩ := hx
  obtain ⟨t, d, r, ey⟩ := hy
  have fx := val64_fits x
  have fy := val64_fits y
  rw [ex] at fx sx h ⊢
  rw [ey] at fy sy h ⊢
  obtain ⟨h1, h2, h3⟩ := product_units fx fy
  have es : s = false := sx
  have et : t = false := sy
  subst es et
  rw [h1]
  have qm : (b64.qmin - 2 * b64.qmin).toNat = 1074 := by decide +kernel
  have hz : zval b64 V = (zmag b64 V : Int) := by unfold zval; rw [sV]; rfl
  have hp : ((2 ^ (b64.qmin - 2 * b64.qmin).toNat : Nat) : Int) = (one64 : Int) := by rw [qm]; rfl
  have hh : signed (false != false) (inUnits (c * d) (q + r) (2 * b64.qmin)) = zval b64 V * ((2 ^ (b64.qmin - 2 * b64.qmin).toNat : Nat) : Int) := by
    rw [h3, hp, hz, h]
    show ((zmag b64 V * one64 : Nat) : Int) = _
    rw [Int.natCast_mul]
  have hq : 2 * b64.qmin ≤ b64.qmin := by decide +kernel
  have l1 := zval_round_le good_b64 (s := (false != false)) (c := c * d) (q := q + r) fV hV hq h2 (Int.le_of_eq hh)
  have l2 := zval_round_ge good_b64 (s := (false != false)) (c := c * d) (q := q + r) fV hV hq h2 (Int.le_of_eq hh.symm)
  omega
theorem own_qmax : b64.qmax = 971 := by decide +kernel
/-- the number (c) * 2^q of at most 53 digits -/
theorem own_num {c : Nat} {q : Int} (hc : c < 2 ^ 53) (h1 : -1074 ≤ q) (h2 : q ≤ 971) : ∃ V, FP.Core.fits b64 V ∧ V ≠ .nan ∧ sgn V = false ∧ zmag b64 V = c * 2 ^ (q + 1074).toNat := by
  obtain ⟨c', q', e1, e2⟩ := round_exact good_b64 false (c := c) (q := q) hc (by rw [qmin_b64]; exact h1) (by rw [own_qmax]; exact h2)
  refine ⟨round b64 (.fin false c q), round_fits good_b64 _, by rw [e1]; exact Datum.noConfusion, by rw [e1]; rfl, ?_⟩
  rw [e1]
  show inUnits c' q' b64.qmin = _
  rw [e2]
  unfold inUnits
  rw [qmin_b64]
  congr 2
def own_ou (k : Int64) : UInt64 := FP.dmul (FP.dadd (FP.l2d k) (4602678819172646912 : UInt64)) (4372995238176751616 : UInt64)
theorem own_half : val64 (4602678819172646912 : UInt64) = .fin false (2 ^ 52) (-53) := by decide +kernel
theorem own_eps : val64 (4372995238176751616 : UInt64) = .fin false (2 ^ 52) (-104) := by decide +kernel
theorem own_scale : val64 (4845873199050653696 : UInt64) = .fin false (2 ^ 52) 1 := by decide +kernel
theorem own_halfz : zmag b64 (val64 (4602678819172646912 : UInt64)) = 2 ^ 1073 := by
  rw [own_half]; show 2 ^ 52 * 2 ^ ((-53 : Int) - b64.qmin).toNat = _
  rw [show ((-53 : Int) - b64.qmin).toNat = 1021 by decide +kernel, ← Nat.pow_add]
theorem own_epsz : zmag b64 (val64 (4372995238176751616 : UInt64)) = 2 ^ 1022 := by
  rw [own_eps]; show 2 ^ 52 * 2 ^ ((-104 : Int) - b64.qmin).toNat = _
  rw [show ((-104 : Int) - b64.qmin).toNat = 970 by decide +kernel, ← Nat.pow_add]
theorem own_scalez : zmag b64 (val64 (4845873199050653696 : UInt64)) = 2 ^ 1127 := by
  rw [own_scale]; show 2 ^ 52 * 2 ^ ((1 : Int) - b64.qmin).toNat = _
  rw [show ((1 : Int) - b64.qmin).toNat = 1075 by decide +kernel, ← Nat.pow_add]
theorem own_lz {a : Int64} (h0 : 0 ≤ a.toInt) (h1 : a.toInt < 9007199254740992) : DFin (FP.l2d a) ∧ sgn (val64 (FP.l2d a)) = false ∧ zmag b64 (val64 (FP.l2d a)) = a.toInt.toNat * 2 ^ 1074 := by
  obtain ⟨c, q, e⟩ := l2d_shape a
  rw [show decide (a.toInt < 0) = false from decide_eq_false (by omega)] at e
  have hw : zval b64 (val64 (FP.l2d a)) = a.toInt * ((2 ^ (-b64.qmin).toNat : Nat) : Int) := whole_zval good_b64 (val64_fits _) (l2d_whole ⟨by omega, h1⟩)
  have hs : sgn (val64 (FP.l2d a)) = false := by
    have : val64 (FP.l2d a) = .fin false c q := e
    rw [this]; rfl
  refine ⟨l2d_fin a, hs, ?_⟩
  unfold zval at hw
  rw [hs, show (-b64.qmin).toNat = 1074 by decide +kernel] at hw
  have e2 : a.toInt = ((a.toInt.toNat : Nat) : Int) := by omega
  rw [e2, ← Int.natCast_mul] at hw
  exact Int.ofNat.inj hw
theorem own_finz {x : UInt64} {V : Datum} (h : zval b64 (val64 x) = zval b64 V) (hx : val64 x ≠ .nan) (sV : sgn V = false) (pV : 0 < zmag b64 V) (lt : zmag b64 V < 2 ^ 1200) : DFin x ∧ sgn (val64 x) = false ∧ zmag b64 (val64 x) = zmag b64 V := by
  have hz : zval b64 V = (zmag b64 V : Int) := by unfold zval; rw [sV]; rfl
  rw [hz] at h
  unfold zval at h
  have hs : sgn (val64 x) = false := by
    cases hq : sgn (val64 x) with
    | false => rfl
    | true => rw [hq] at h; simp only [signed, if_true] at h; omega
  rw [hs] at h
  have hm : zmag b64 (val64 x) = zmag b64 V := Int.ofNat.inj h
  refine ⟨?_, hs, hm⟩
  cases hv : val64 x with
  | nan => exact absurd hv hx
  | inf s =>
    exfalso
    rw [hv] at hm
    have : zmag b64 (.inf s) = b64.tails * 2 ^ (b64.exps - 2) := rfl
    rw [this] at hm
    rw [← hm] at lt
    revert lt
    rw [show b64.tails = 2 ^ 52 by decide +kernel, show b64.exps - 2 = 2046 by decide +kernel, ← Nat.pow_add]
    intro lt
    exact absurd ((Nat.pow_lt_pow_iff_right (by decide : 1 < 2)).mp lt) (by decide)
  | fin s c q => exact ⟨s, c, q, hv⟩
theorem own_dbl (n : Nat) : 2 ^ (n + 1) = 2 * 2 ^ n := by rw [Nat.pow_succ, Nat.mul_comm]
theorem own_alg (k P Q : Nat) (e : Q = 2 * P) : k * Q + P = (2 * k + 1) * P := by subst e; rw [Nat.add_mul, Nat.one_mul, ← Nat.mul_assoc, Nat.mul_comm k 2]
theorem own_step1 {k : Int64} (h0 : 0 ≤ k.toInt) (h1 : k.toInt < 4503599627370496) : DFin (FP.dadd (FP.l2d k) (4602678819172646912 : UInt64)) ∧ sgn (val64 (FP.dadd (FP.l2d k) (4602678819172646912 : UInt64))) = false ∧ zmag b64 (val64 (FP.dadd (FP.l2d k) (4602678819172646912 : UInt64))) = (2 * k.toInt.toNat + 1) * 2 ^ 1073 := by
  obtain ⟨f1, s1, z1⟩ := own_lz h0 (by omega)
  have f2 : DFin (4602678819172646912 : UInt64) := ⟨_, _, _, own_half⟩
  have s2 : sgn (val64 (4602678819172646912 : UInt64)) = false := by rw [own_half]; rfl
  obtain ⟨V, fV, nV, sV, zV⟩ := own_num (c := 2 * k.toInt.toNat + 1) (q := -1) (by omega) (by omega) (by omega)
  rw [show ((-1 : Int) + 1074).toNat = 1073 by decide] at zV
  have hs : zval b64 (val64 (FP.l2d k)) + zval b64 (val64 (4602678819172646912 : UInt64)) = zval b64 V := by
    unfold zval
    rw [s1, s2, sV, z1, own_halfz, zV]
    show ((_ : Nat) : Int) + ((_ : Nat) : Int) = ((_ : Nat) : Int)
    rw [← Int.natCast_add, own_alg k.toInt.toNat (2 ^ 1073) (2 ^ 1074) (own_dbl 1073)]
  have hz := own_addz f1 f2 fV nV hs
  have hn : val64 (FP.dadd (FP.l2d k) (4602678819172646912 : UInt64)) ≠ .nan := (notNaN_iff _).mp (dadd_out (l2d_notNaN k) f2)
  have hl : (2 * k.toInt.toNat + 1) * 2 ^ 1073 < 2 ^ 1200 := by
    rw [show (1200 : Nat) = 127 + 1073 by decide, Nat.pow_add]
    exact Nat.mul_lt_mul_of_pos_right (by omega) (Nat.two_pow_pos _)
  obtain ⟨a1, a2, a3⟩ := own_finz hz hn sV (by rw [zV]; exact Nat.mul_pos (by omega) (Nat.two_pow_pos _)) (by rw [zV]; exact hl)
  exact ⟨a1, a2, a3.trans zV⟩
theorem own_step2 {k : Int64} (h0 : 0 ≤ k.toInt) (h1 : k.toInt < 4503599627370496) : DFin (own_ou k) ∧ sgn (val64 (own_ou k)) = false ∧ zmag b64 (val64 (own_ou k)) = (2 * k.toInt.toNat + 1) * 2 ^ 1021 := by
  obtain ⟨f1, s1, z1⟩ := own_step1 h0 h1
  have f2 : DFin (4372995238176751616 : UInt64) := ⟨_, _, _, own_eps⟩
  have s2 : sgn (val64 (4372995238176751616 : UInt64)) = false := by rw [own_eps]; rfl
  obtain ⟨V, fV, nV, sV, zV⟩ := own_num (c := 2 * k.toInt.toNat + 1) (q := -53) (by omega) (by omega) (by omega)
  rw [show ((-53 : Int) + 1074).toNat = 1021 by decide] at zV
  have hz := own_mulz f1 f2 s1 s2 fV nV sV (by
    rw [z1, own_epsz, zV]; unfold one64
    rw [Nat.mul_assoc, Nat.mul_assoc, ← Nat.pow_add, ← Nat.pow_add])
  have hn : val64 (own_ou k) ≠ .nan := (notNaN_iff _).mp (dmul_out f1 f2)
  have hl : (2 * k.toInt.toNat + 1) * 2 ^ 1021 < 2 ^ 1200 := by
    rw [show (1200 : Nat) = 179 + 1021 by decide, Nat.pow_add]
    exact Nat.mul_lt_mul_of_pos_right (by omega) (Nat.two_pow_pos _)
  obtain ⟨a1, a2, a3⟩ := own_finz hz hn sV (by rw [zV]; exact Nat.mul_pos (by omega) (Nat.two_pow_pos _)) (by rw [zV]; exact hl)
  exact ⟨a1, a2, a3.trans zV⟩
theorem own_exact {k o : Int64} (h0 : 0 ≤ k.toInt) (h1 : k.toInt < 4503599627370496) (ho : o.toInt = 2 * k.toInt + 1) : cmpValue (FP.dcmp (FP.dmul (own_ou k) (4845873199050653696 : UInt64)) (FP.l2d o)) .l = (0 : Int32) := by
  obtain ⟨f1, s1, z1⟩ := own_step2 h0 h1
  have f2 : DFin (4845873199050653696 : UInt64) := ⟨_, _, _, own_scale⟩
  have s2 : sgn (val64 (4845873199050653696 : UInt64)) = false := by rw [own_scale]; rfl
  obtain ⟨f3, s3, z3⟩ := own_lz (a := o) (by omega) (by omega)
  have hz := own_mulz f1 f2 s1 s2 (val64_fits (FP.l2d o)) f3.ne_nan s3 (by
    rw [z1, own_scalez, z3]; unfold one64
    rw [show o.toInt.toNat = 2 * k.toInt.toNat + 1 by omega, Nat.mul_assoc, Nat.mul_assoc, ← Nat.pow_add, ← Nat.pow_add])
  have hn : val64 (FP.dmul (own_ou k) (4845873199050653696 : UInt64)) ≠ .nan := (notNaN_iff _).mp (dmul_out f1 f2)
  rw [own_zv hn f3.ne_nan, hz, compare_ite, if_neg (Int.lt_irrefl _), if_pos rfl]
  rfl
theorem own_nnA (k : Int64) : Jvm.Free.Fl.NoNaN64 (FP.dadd (FP.l2d k) (4602678819172646912 : UInt64)) := Jvm.Free.Fl.noNaN64_no.mpr (dadd_out (l2d_notNaN k) ⟨_, _, _, own_half⟩)
theorem own_nnB {k : Int64} (h0 : 0 ≤ k.toInt) (h1 : k.toInt < 4503599627370496) : Jvm.Free.Fl.NoNaN64 (FP.dmul (FP.dadd (FP.l2d k) (4602678819172646912 : UInt64)) (4372995238176751616 : UInt64)) := Jvm.Free.Fl.noNaN64_no.mpr (own_step2 h0 h1).1.notNaN
theorem own_nnC {k : Int64} (h0 : 0 ≤ k.toInt) (h1 : k.toInt < 4503599627370496) : Jvm.Free.Fl.NoNaN64 (FP.dmul (own_ou k) (4845873199050653696 : UInt64)) := Jvm.Free.Fl.noNaN64_no.mpr (dmul_out (own_step2 h0 h1).1 ⟨_, _, _, own_scale⟩)
theorem own_pos {k : Int64} (h0 : 0 ≤ k.toInt) (h1 : k.toInt < 4503599627370496) : cmpValue (FP.dcmp FP.dconst0 (own_ou k)) .g < (0 : Int32) := by
  obtain ⟨f1, s1, z1⟩ := own_step2 h0 h1
  have e0 : val64 FP.dconst0 = .fin false 0 b64.qmin := val64_dconst0
  have n0 : val64 FP.dconst0 ≠ .nan := by rw [e0]; exact Datum.noConfusion
  have z0 : zval b64 (val64 FP.dconst0) = 0 := by rw [e0]; simp [zval, FP.Core.sgn, zmag, inUnits, signed]
  have zp : 0 < zval b64 (val64 (own_ou k)) := by
    unfold zval; rw [s1, z1]
    show (0 : Int) < ((_ : Nat) : Int)
    have : 0 < (2 * k.toInt.toNat + 1) * 2 ^ 1021 := Nat.mul_pos (by omega) (Nat.two_pow_pos _)
    exact Int.natCast_pos.mpr this
  rw [own_zv n0 f1.ne_nan, z0, compare_ite, if_pos zp]
  decide
theorem own_lt1 {k : Int64} (h0 : 0 ≤ k.toInt) (h1 : k.toInt < 4503599627370496) : cmpValue (FP.dcmp (own_ou k) FP.dconst1) .g < (0 : Int32) := by
  obtain ⟨f1, s1, z1⟩ := own_step2 h0 h1
  have e0 : val64 FP.dconst1 = .fin false (2 ^ 52) (-52) := val64_dconst1
  have n0 : val64 FP.dconst1 ≠ .nan := by rw [e0]; exact Datum.noConfusion
  have m0 : zmag b64 (val64 FP.dconst1) = 2 ^ 1074 := by
    rw [e0]; show 2 ^ 52 * 2 ^ ((-52 : Int) - b64.qmin).toNat = _
    rw [show ((-52 : Int) - b64.qmin).toNat = 1022 by decide +kernel, ← Nat.pow_add]
  have s0 : sgn (val64 FP.dconst1) = false := by rw [e0]; rfl
  have zp : zval b64 (val64 (own_ou k)) < zval b64 (val64 FP.dconst1) := by
    unfold zval; rw [s1, z1, s0, m0]
    show ((_ : Nat) : Int) < ((_ : Nat) : Int)
    refine Int.ofNat_lt.mpr ?_
    rw [show (1074 : Nat) = 53 + 1021 by decide, Nat.pow_add]
    exact Nat.mul_lt_mul_of_pos_right (by omega) (Nat.two_pow_pos _)
  rw [own_zv f1.ne_nan n0, compare_ite, if_pos zp]
  decide
end OwnPure
def own_k (n : Int64) : Int64 := ((n.toUInt64 >>> ((12 : Int32) &&& 0x3f).toInt64.toUInt64).toInt64)
def own_o (n : Int64) : Int64 := (((n.toUInt64 >>> ((11 : Int32) &&& 0x3f).toInt64.toUInt64).toInt64) ||| (1 : Int64))
theorem own_kInt (n : Int64) : (own_k n).toInt = (n.toInt % 18446744073709551616) / 4096 := by
  have h := c_lushr n 12 12 (by decide) (by decide)
  rw [show ((2 ^ 12 : Nat) : Int) = 4096 by decide] at h
  exact h
theorem own_k0 (n : Int64) : 0 ≤ (own_k n).toInt := by have := own_kInt n; omega
theorem own_k1 (n : Int64) : (own_k n).toInt < 4503599627370496 := by have := own_kInt n; omega
theorem own_or1 (m : Nat) : m ||| 1 = 2 * (m / 2) + 1 := by
  have h1 : (m ||| 1) / 2 = m / 2 := by rw [Nat.or_div_two]; simp
  have h2 : (m ||| 1) % 2 = 1 := by rw [Nat.or_mod_two_eq_one]; simp
  omega
theorem own_oInt (n : Int64) : (own_o n).toInt = 2 * (own_k n).toInt + 1 := by
  have h := c_lushr n 11 11 (by decide) (by decide)
  rw [show ((2 ^ 11 : Nat) : Int) = 2048 by decide] at h
  have hk := own_kInt n
  unfold own_o
  generalize ((n.toUInt64 >>> ((11 : Int32) &&& 0x3f).toInt64.toUInt64).toInt64) = x at *
  have r := rng64 x
  have hx : x.toBitVec.toNat = x.toInt.toNat := by
    have : x.toInt = (x.toBitVec.toInt) := rfl
    rw [this, BitVec.toInt_eq_toNat_cond]
    split
    · simp
    · rename_i hc
      have e : x.toBitVec.toInt = (x.toBitVec.toNat : Int) - ((2 ^ 64 : Nat) : Int) := by rw [BitVec.toInt_eq_toNat_cond, if_neg hc]
      have e2 : x.toInt = x.toBitVec.toInt := rfl
      have := x.toBitVec.isLt
      omega
  have ho : (x ||| 1).toBitVec.toNat = 2 * (x.toInt.toNat / 2) + 1 := by
    rw [Int64.toBitVec_or, BitVec.toNat_or, hx]
    exact own_or1 _
  have e2 : (x ||| 1).toInt = (x ||| 1).toBitVec.toInt := rfl
  rw [e2, BitVec.toInt_eq_toNat_cond, if_pos (by rw [ho]; omega), ho]
  omega
theorem dOu_0 : decode prog_72_method_5_code 0 = .ok (.lload_n 0, 1) := by decide +kernel
theorem dOu_1 : decode prog_72_method_5_code 1 = .ok (.bipush 12, 2) := by decide +kernel
theorem dOu_3 : decode prog_72_method_5_code 3 = .ok (.lushr, 1) := by decide +kernel
theorem dOu_4 : decode prog_72_method_5_code 4 = .ok (.l2d, 1) := by decide +kernel
theorem dOu_5 : decode prog_72_method_5_code 5 = .ok (.ldc2_w 46, 3) := by decide +kernel
theorem dOu_8 : decode prog_72_method_5_code 8 = .ok (.dadd, 1) := by decide +kernel
theorem dOu_9 : decode prog_72_method_5_code 9 = .ok (.ldc2_w 48, 3) := by decide +kernel
theorem dOu_12 : decode prog_72_method_5_code 12 = .ok (.dmul, 1) := by decide +kernel
theorem dOu_13 : decode prog_72_method_5_code 13 = .ok (.dreturn, 1) := by decide +kernel
theorem pnOu : plainName "com/example/weekly_activity_scheduler/weeklyactivityscheduler/models/RandomStream" = true := by first | (simp [plainName, overriddenIn]; done) | decide +kernel
theorem efOu (m : MethodId) (q0 : Int64) : entryFrame m #[(.long q0)] 2 = mkF m 0 #[.val (.long q0), .second] [] := by first | (simp [entryFrame, mkF, argsToLocals, Value.category]; done) | rfl
def QOu (Z : State) (q0 : Int64) (h0 : Heap) (n0 : Nat) (v : Option Value) (h : Heap) (L : List Loc) : Prop := v = some (.double (own_ou (own_k q0))) ∧ Fr n0 L ∧ h = h0
set_option maxRecDepth 65536 in
set_option maxHeartbeats 40000000 in
theorem rmOu (l : Launch) (Z : State) (a0 : Array Value) (hw : ∀ d ∈ tables_1, d.before a0 Z = true) (ws : List Jvm.Cond) (q0 : Int64) (h0 : Heap) (n0 : Nat) (Z0 : n0 ≤ h0.size)  :
    MetFree l (⟨"com/example/weekly_activity_scheduler/weeklyactivityscheduler/models/RandomStream", "openUnit", "(J)D"⟩ : MethodName) (head1 (Jvm.Cond.code (⟨"com/example/weekly_activity_scheduler/weeklyactivityscheduler/models/RandomStream", "openUnit", "(J)D"⟩ : MethodName) prog_72_method_5_code 2 (some .double) :: ws) ({ frames := 0, cells := 0, slots := 0, locals := 0 } : Room)) (fun a U => a = #[(.long q0)] ∧ Z.Warmed39 U.vm ∧ U.heap = h0) (fun _ _ _ _ _ => True) (fun _ U o U' => ∃ v L, o = .returned v ∧ QOu Z q0 h0 n0 v U'.heap L ∧ FrameEnd U o U' L ({ frames := 0, cells := 0, slots := 0, locals := 0 } : Room).cells ({ frames := 0, cells := 0, slots := 0, locals := 0 } : Room).slots) := by
  refine MetFree.of_bodySF (plainFor_of_name pnOu) hisR ?_
  intro p e s m args below meth c s₁ Bd hml0 hP hK
  obtain ⟨rfl, hZ, hh⟩ := hP
  have hx := Bd.exec
  have hby := Bd.bytes
  have hlk := BodyLoose.notSynchronized Bd
  have hret := Bd.returns
  have hml : c.maxLocals = 2 := hml0
  have hown : s.vm.findClass "com/example/weekly_activity_scheduler/weeklyactivityscheduler/models/RandomStream" = some m.cls := findClass_of_methodNamed Bd.named
  have hnm := (name_of_methodNamed Bd.named Bd.method).1
  have X0 : Stand p l e ({ frames := 0, cells := 0, slots := 0, locals := 0 } : Room) s m #[(.long q0)] below meth c s₁ [] 0 0 := Stand.of_body Bd
  have e0 : s₁.heap = h0 := by rw [← hh, Bd.state]; rfl
  have N0 := Fr.nil n0
  show OFin p e below (KPost s (QOu Z q0 h0 n0) ({ frames := 0, cells := 0, slots := 0, locals := 0 } : Room).cells ({ frames := 0, cells := 0, slots := 0, locals := 0 } : Room).slots) _
  rw [efOu m q0]
  refine OFin.of (S' := s₁.setTop (mkF m 13 #[.val (.long q0), .second] [(.double (FP.dmul (FP.dadd (FP.l2d ((q0.toUInt64 >>> ((12 : Int32) &&& 0x3f).toInt64.toUInt64).toInt64)) (4602678819172646912 : UInt64)) (4372995238176751616 : UInt64)))])) (fun t ht => ?_) ?_
  · refine XS.lloadN X0.here hx rfl (hb hby dOu_0) rfl ?_
    show Steps p.tables e below (s₁.setTop (mkF m 1 _ [(.long q0)])) _
    refine XS.bipush X0.here hx rfl (hb hby dOu_1) ?_
    show Steps p.tables e below (s₁.setTop (mkF m 3 _ [(.int (12 : Int32)), (.long q0)])) _
    refine XS.lushr X0.here hx rfl (hb hby dOu_3) rfl ?_
    show Steps p.tables e below (s₁.setTop (mkF m 4 _ [(.long ((q0.toUInt64 >>> ((12 : Int32) &&& 0x3f).toInt64.toUInt64).toInt64))])) _
    refine XS.l2dS X0.here hx rfl (hb hby dOu_4) rfl rfl ?_
    show Steps p.tables e below (s₁.setTop (mkF m 5 _ [(.double (FP.l2d ((q0.toUInt64 >>> ((12 : Int32) &&& 0x3f).toInt64.toUInt64).toInt64)))])) _
    refine X0.ldc2DoubleC hx hown (mvT hZ (hw _ (List.mem_of_getElem? (i := 4) rfl))) (g := (mkF m 5 #[.val (.long q0), .second] [(.double (FP.l2d ((q0.toUInt64 >>> ((12 : Int32) &&& 0x3f).toInt64.toUInt64).toInt64)))])) rfl (hb hby dOu_5) _ ?_
    show Steps p.tables e below (s₁.setTop (mkF m 8 _ [(.double (4602678819172646912 : UInt64)), (.double (FP.l2d ((q0.toUInt64 >>> ((12 : Int32) &&& 0x3f).toInt64.toUInt64).toInt64)))])) _
    refine XS.daddS X0.here hx rfl (hb hby dOu_8) rfl (own_nnA _) rfl ?_
    show Steps p.tables e below (s₁.setTop (mkF m 9 _ [(.double (FP.dadd (FP.l2d ((q0.toUInt64 >>> ((12 : Int32) &&& 0x3f).toInt64.toUInt64).toInt64)) (4602678819172646912 : UInt64)))])) _
    refine X0.ldc2DoubleC hx hown (mvT hZ (hw _ (List.mem_of_getElem? (i := 5) rfl))) (g := (mkF m 9 #[.val (.long q0), .second] [(.double (FP.dadd (FP.l2d ((q0.toUInt64 >>> ((12 : Int32) &&& 0x3f).toInt64.toUInt64).toInt64)) (4602678819172646912 : UInt64)))])) rfl (hb hby dOu_9) _ ?_
    show Steps p.tables e below (s₁.setTop (mkF m 12 _ [(.double (4372995238176751616 : UInt64)), (.double (FP.dadd (FP.l2d ((q0.toUInt64 >>> ((12 : Int32) &&& 0x3f).toInt64.toUInt64).toInt64)) (4602678819172646912 : UInt64)))])) _
    refine XS.dmulS X0.here hx rfl (hb hby dOu_12) rfl (own_nnB (own_k0 q0) (own_k1 q0)) rfl ?_
    exact ht
  exact OFin.retD X0 hx hlk hret (hb hby dOu_13) (by decide) (by decide) (by rw [e0]; exact ⟨rfl, N0, rfl⟩)
theorem pn0 : plainName "com/example/weekly_activity_scheduler/weeklyactivityscheduler/models/RandomStreamOpenUnitPinLaw" = true := by first | (simp [plainName, overriddenIn]; done) | decide +kernel
theorem ef0 (m : MethodId) (q0 : Int64) : entryFrame m #[(.long q0)] maxLocals = mkF m 0 #[.val (.long q0), .second, .unset, .unset, .unset, .unset, .unset, .unset, .unset, .unset, .unset, .unset] [] := by first | (simp [entryFrame, mkF, argsToLocals, Value.category, maxLocals]; done) | rfl
def Q0 (Z : State) (q0 : Int64) (h0 : Heap) (n0 : Nat) (v : Option Value) (h : Heap) (L : List Loc) : Prop := v = some (.int (1 : Int32)) ∧ Fr n0 L
set_option maxRecDepth 65536 in
set_option maxHeartbeats 40000000 in
theorem rm0 (l : Launch) (Z : State) (a0 : Array Value) (hw : ∀ d ∈ tables_1, d.before a0 Z = true) (ws : List Jvm.Cond) (q0 : Int64) (h0 : Heap) (n0 : Nat) (Z0 : n0 ≤ h0.size)  :
    MetFree l x (head1 (Jvm.Cond.code x code maxLocals ret :: ws) room_1) (fun a U => a = #[(.long q0)] ∧ Z.Warmed39 U.vm ∧ U.heap = h0) (fun _ _ _ _ _ => True) (fun _ U o U' => ∃ v L, o = .returned v ∧ Q0 Z q0 h0 n0 v U'.heap L ∧ FrameEnd U o U' L room_1.cells room_1.slots) := by
  refine MetFree.of_bodySF (plainFor_of_name pn0) hisR ?_
  intro p e s m args below meth c s₁ Bd hml0 hP hK
  obtain ⟨rfl, hZ, hh⟩ := hP
  have hx := Bd.exec
  have hby := Bd.bytes
  have hlk := BodyLoose.notSynchronized Bd
  have hret := Bd.returns
  have hml : c.maxLocals = 12 := hml0
  have hown : s.vm.findClass "com/example/weekly_activity_scheduler/weeklyactivityscheduler/models/RandomStreamOpenUnitPinLaw" = some m.cls := findClass_of_methodNamed Bd.named
  have hnm := (name_of_methodNamed Bd.named Bd.method).1
  have X0 : Stand p l e room_1 s m #[(.long q0)] below meth c s₁ [] 0 0 := Stand.of_body Bd
  have e0 : s₁.heap = h0 := by rw [← hh, Bd.state]; rfl
  have N0 := Fr.nil n0
  show OFin p e below (KPost s (Q0 Z q0 h0 n0) room_1.cells room_1.slots) _
  rw [ef0 m q0]
  refine OFin.of (S' := s₁.setTop (mkF m 1 #[.val (.long q0), .second, .unset, .unset, .unset, .unset, .unset, .unset, .unset, .unset, .unset, .unset] [(.long q0)])) (fun t ht => ?_) ?_
  · refine XS.lloadN X0.here hx rfl (hb hby at_0) rfl ?_
    exact ht
  obtain ⟨_, _, ⟨T1, L1, k1, n1⟩, -, X1, ⟨Lc1, hQ1, l1, y1, z1⟩, st1⟩ := Jvm.LawKit.callS X0 hx (y := (⟨"com/example/weekly_activity_scheduler/weeklyactivityscheduler/models/RandomStream", "openUnit", "(J)D"⟩ : MethodName)) hown (mvT hZ (hw _ (List.mem_of_getElem? (i := 0) rfl))) (mvT hZ (hw _ (List.mem_of_getElem? (i := 1) rfl))) (mvT hZ (hw _ (List.mem_of_getElem? (i := 2) rfl))) (mvT hZ (hw _ (List.mem_of_getElem? (i := 3) rfl))) (by decide) (backOf (W := 0) (rmOu l Z _ hw [] q0 h0 n0 Z0 ) hZ (hw _ (List.mem_of_getElem? (i := 3) rfl)) (hw _ (List.mem_of_getElem? (i := 2) rfl)) (by decide) (by decide)) (g := (mkF m 1 #[.val (.long q0), .second, .unset, .unset, .unset, .unset, .unset, .unset, .unset, .unset, .unset, .unset] [(.long q0)])) rfl (by rw [hml]; rfl) (argsL := [(.long q0)]) (rest := []) (lenOf pd_0 rfl) rfl (by show 2 * 0 + _ ≤ _; exact Nat.le_of_eq rfl) (hb hby at_1) (fun _ _ => ⟨rfl, e0, (by decide : 0 + 0 ≤ _), (by decide : 0 + 0 ≤ _)⟩)
  dsimp only [Pt.U, Pt.locs, Pt.cells, Pt.slots] at X1 l1 y1 z1 st1 hQ1
  subst l1 y1 z1
  obtain ⟨rfl, Nq1, hs1⟩ := hQ1
  have N2 := Fr.app N0 Nq1
  refine OFin.of (S' := T1.setTop (mkF m 4 #[.val (.long q0), .second, .unset, .unset, .unset, .unset, .unset, .unset, .unset, .unset, .unset, .unset] [(.double (own_ou (own_k q0)))])) (fun t ht => st1 t ht) ?_
  refine OFin.of (S' := T1.setTop (mkF m 74 #[.val (.long q0), .second, .val (.double (own_ou (own_k q0))), .second, .val (.double (4845873199050653696 : UInt64)), .second, .val (.long (((q0.toUInt64 >>> ((11 : Int32) &&& 0x3f).toInt64.toUInt64).toInt64) ||| (1 : Int64))), .second, .val (.double (FP.l2d (((q0.toUInt64 >>> ((11 : Int32) &&& 0x3f).toInt64.toUInt64).toInt64) ||| (1 : Int64)))), .second, .val (.int (1 : Int32)), .val (.int (1 : Int32))] [(.int (1 : Int32))])) (fun t ht => ?_) ?_
  · refine XS.dstoreN X1.here hx rfl (hb hby at_4) rfl (l' := #[.val (.long q0), .second, .val (.double (own_ou (own_k q0))), .second, .unset, .unset, .unset, .unset, .unset, .unset, .unset, .unset]) rfl ?_
    show Steps p.tables e below (T1.setTop (mkF m 5 #[.val (.long q0), .second, .val (.double (own_ou (own_k q0))), .second, .unset, .unset, .unset, .unset, .unset, .unset, .unset, .unset] [])) _
    refine X1.ldc2DoubleC hx hown (mvT hZ (hw _ (List.mem_of_getElem? (i := 6) rfl))) (g := (mkF m 5 #[.val (.long q0), .second, .val (.double (own_ou (own_k q0))), .second, .unset, .unset, .unset, .unset, .unset, .unset, .unset, .unset] [])) rfl (hb hby at_5) _ ?_
    show Steps p.tables e below (T1.setTop (mkF m 8 _ [(.double (4845873199050653696 : UInt64))])) _
    refine XS.dstore X1.here hx rfl (hb hby at_8) rfl (l' := #[.val (.long q0), .second, .val (.double (own_ou (own_k q0))), .second, .val (.double (4845873199050653696 : UInt64)), .second, .unset, .unset, .unset, .unset, .unset, .unset]) rfl ?_
    show Steps p.tables e below (T1.setTop (mkF m 10 #[.val (.long q0), .second, .val (.double (own_ou (own_k q0))), .second, .val (.double (4845873199050653696 : UInt64)), .second, .unset, .unset, .unset, .unset, .unset, .unset] [])) _
    refine XS.lloadN X1.here hx rfl (hb hby at_10) rfl ?_
    show Steps p.tables e below (T1.setTop (mkF m 11 _ [(.long q0)])) _
    refine XS.bipush X1.here hx rfl (hb hby at_11) ?_
    show Steps p.tables e below (T1.setTop (mkF m 13 _ [(.int (11 : Int32)), (.long q0)])) _
    refine XS.lushr X1.here hx rfl (hb hby at_13) rfl ?_
    show Steps p.tables e below (T1.setTop (mkF m 14 _ [(.long ((q0.toUInt64 >>> ((11 : Int32) &&& 0x3f).toInt64.toUInt64).toInt64))])) _
    refine XS.lconst X1.here hx rfl (hb hby at_14) ?_
    show Steps p.tables e below (T1.setTop (mkF m 15 _ [(.long (1 : Int64)), (.long ((q0.toUInt64 >>> ((11 : Int32) &&& 0x3f).toInt64.toUInt64).toInt64))])) _
    refine XS.lor X1.here hx rfl (hb hby at_15) rfl ?_
    show Steps p.tables e below (T1.setTop (mkF m 16 _ [(.long (((q0.toUInt64 >>> ((11 : Int32) &&& 0x3f).toInt64.toUInt64).toInt64) ||| (1 : Int64)))])) _
    refine XS.lstore X1.here hx rfl (hb hby at_16) rfl (l' := #[.val (.long q0), .second, .val (.double (own_ou (own_k q0))), .second, .val (.double (4845873199050653696 : UInt64)), .second, .val (.long (((q0.toUInt64 >>> ((11 : Int32) &&& 0x3f).toInt64.toUInt64).toInt64) ||| (1 : Int64))), .second, .unset, .unset, .unset, .unset]) rfl ?_
    show Steps p.tables e below (T1.setTop (mkF m 18 #[.val (.long q0), .second, .val (.double (own_ou (own_k q0))), .second, .val (.double (4845873199050653696 : UInt64)), .second, .val (.long (((q0.toUInt64 >>> ((11 : Int32) &&& 0x3f).toInt64.toUInt64).toInt64) ||| (1 : Int64))), .second, .unset, .unset, .unset, .unset] [])) _
    refine XS.lload X1.here hx rfl (hb hby at_18) rfl ?_
    show Steps p.tables e below (T1.setTop (mkF m 20 _ [(.long (((q0.toUInt64 >>> ((11 : Int32) &&& 0x3f).toInt64.toUInt64).toInt64) ||| (1 : Int64)))])) _
    refine XS.l2dS X1.here hx rfl (hb hby at_20) rfl rfl ?_
    show Steps p.tables e below (T1.setTop (mkF m 21 _ [(.double (FP.l2d (((q0.toUInt64 >>> ((11 : Int32) &&& 0x3f).toInt64.toUInt64).toInt64) ||| (1 : Int64))))])) _
    refine XS.dstore X1.here hx rfl (hb hby at_21) rfl (l' := #[.val (.long q0), .second, .val (.double (own_ou (own_k q0))), .second, .val (.double (4845873199050653696 : UInt64)), .second, .val (.long (((q0.toUInt64 >>> ((11 : Int32) &&& 0x3f).toInt64.toUInt64).toInt64) ||| (1 : Int64))), .second, .val (.double (FP.l2d (((q0.toUInt64 >>> ((11 : Int32) &&& 0x3f).toInt64.toUInt64).toInt64) ||| (1 : Int64)))), .second, .unset, .unset]) rfl ?_
    show Steps p.tables e below (T1.setTop (mkF m 23 #[.val (.long q0), .second, .val (.double (own_ou (own_k q0))), .second, .val (.double (4845873199050653696 : UInt64)), .second, .val (.long (((q0.toUInt64 >>> ((11 : Int32) &&& 0x3f).toInt64.toUInt64).toInt64) ||| (1 : Int64))), .second, .val (.double (FP.l2d (((q0.toUInt64 >>> ((11 : Int32) &&& 0x3f).toInt64.toUInt64).toInt64) ||| (1 : Int64)))), .second, .unset, .unset] [])) _
    refine XS.dloadN X1.here hx rfl (hb hby at_23) rfl ?_
    show Steps p.tables e below (T1.setTop (mkF m 24 _ [(.double (own_ou (own_k q0)))])) _
    refine XS.dload X1.here hx rfl (hb hby at_24) rfl ?_
    show Steps p.tables e below (T1.setTop (mkF m 26 _ [(.double (4845873199050653696 : UInt64)), (.double (own_ou (own_k q0)))])) _
    refine XS.dmulS X1.here hx rfl (hb hby at_26) rfl (own_nnC (own_k0 q0) (own_k1 q0)) rfl ?_
    show Steps p.tables e below (T1.setTop (mkF m 27 _ [(.double (FP.dmul (own_ou (own_k q0)) (4845873199050653696 : UInt64)))])) _
    refine XS.dload X1.here hx rfl (hb hby at_27) rfl ?_
    show Steps p.tables e below (T1.setTop (mkF m 29 _ [(.double (FP.l2d (((q0.toUInt64 >>> ((11 : Int32) &&& 0x3f).toInt64.toUInt64).toInt64) ||| (1 : Int64)))), (.double (FP.dmul (own_ou (own_k q0)) (4845873199050653696 : UInt64)))])) _
    refine XS.dcmpS X1.here hx rfl (hb hby at_29) rfl rfl ?_
    show Steps p.tables e below (T1.setTop (mkF m 30 _ [(.int (cmpValue (FP.dcmp (FP.dmul (own_ou (own_k q0)) (4845873199050653696 : UInt64)) (FP.l2d (((q0.toUInt64 >>> ((11 : Int32) &&& 0x3f).toInt64.toUInt64).toInt64) ||| (1 : Int64)))) .l))])) _
    refine XS.ifNo X1.here hx rfl (hb hby at_30) rfl ((if0 _ _).trans (teq (own_exact (o := own_o q0) (own_k0 q0) (own_k1 q0) (own_oInt q0) : (cmpValue (FP.dcmp (FP.dmul (own_ou (own_k q0)) (4845873199050653696 : UInt64)) (FP.l2d (((q0.toUInt64 >>> ((11 : Int32) &&& 0x3f).toInt64.toUInt64).toInt64) ||| (1 : Int64)))) .l) = (0 : Int32))).2) ?_
    show Steps p.tables e below (T1.setTop (mkF m 33 _ [])) _
    refine XS.iconst X1.here hx rfl (hb hby at_33) ?_
    show Steps p.tables e below (T1.setTop (mkF m 34 _ [(.int (1 : Int32))])) _
    refine XS.goto X1.here hx rfl (pc0 := 34) (pc' := 38) rfl (hb hby at_34) (by decide) (by decide) ?_
    show Steps p.tables e below (T1.setTop (mkF m 38 _ [(.int (1 : Int32))])) _
    refine XS.istore X1.here hx rfl (hb hby at_38) rfl (l' := #[.val (.long q0), .second, .val (.double (own_ou (own_k q0))), .second, .val (.double (4845873199050653696 : UInt64)), .second, .val (.long (((q0.toUInt64 >>> ((11 : Int32) &&& 0x3f).toInt64.toUInt64).toInt64) ||| (1 : Int64))), .second, .val (.double (FP.l2d (((q0.toUInt64 >>> ((11 : Int32) &&& 0x3f).toInt64.toUInt64).toInt64) ||| (1 : Int64)))), .second, .val (.int (1 : Int32)), .unset]) rfl ?_
    show Steps p.tables e below (T1.setTop (mkF m 40 #[.val (.long q0), .second, .val (.double (own_ou (own_k q0))), .second, .val (.double (4845873199050653696 : UInt64)), .second, .val (.long (((q0.toUInt64 >>> ((11 : Int32) &&& 0x3f).toInt64.toUInt64).toInt64) ||| (1 : Int64))), .second, .val (.double (FP.l2d (((q0.toUInt64 >>> ((11 : Int32) &&& 0x3f).toInt64.toUInt64).toInt64) ||| (1 : Int64)))), .second, .val (.int (1 : Int32)), .unset] [])) _
    refine XS.dconst0 X1.here hx rfl (hb hby at_40) rfl ?_
    show Steps p.tables e below (T1.setTop (mkF m 41 _ [(.double FP.dconst0)])) _
    refine XS.dloadN X1.here hx rfl (hb hby at_41) rfl ?_
    show Steps p.tables e below (T1.setTop (mkF m 42 _ [(.double (own_ou (own_k q0))), (.double FP.dconst0)])) _
    refine XS.dcmpS X1.here hx rfl (hb hby at_42) rfl rfl ?_
    show Steps p.tables e below (T1.setTop (mkF m 43 _ [(.int (cmpValue (FP.dcmp FP.dconst0 (own_ou (own_k q0))) .g))])) _
    refine XS.ifNo X1.here hx rfl (hb hby at_43) rfl ((if0 _ _).trans (tlt (own_pos (own_k0 q0) (own_k1 q0) : (cmpValue (FP.dcmp FP.dconst0 (own_ou (own_k q0))) .g) < (0 : Int32))).2.1) ?_
    show Steps p.tables e below (T1.setTop (mkF m 46 _ [])) _
    refine XS.dloadN X1.here hx rfl (hb hby at_46) rfl ?_
    show Steps p.tables e below (T1.setTop (mkF m 47 _ [(.double (own_ou (own_k q0)))])) _
    refine XS.dconst1 X1.here hx rfl (hb hby at_47) rfl ?_
    show Steps p.tables e below (T1.setTop (mkF m 48 _ [(.double FP.dconst1), (.double (own_ou (own_k q0)))])) _
    refine XS.dcmpS X1.here hx rfl (hb hby at_48) rfl rfl ?_
    show Steps p.tables e below (T1.setTop (mkF m 49 _ [(.int (cmpValue (FP.dcmp (own_ou (own_k q0)) FP.dconst1) .g))])) _
    refine XS.ifNo X1.here hx rfl (hb hby at_49) rfl ((if0 _ _).trans (tlt (own_lt1 (own_k0 q0) (own_k1 q0) : (cmpValue (FP.dcmp (own_ou (own_k q0)) FP.dconst1) .g) < (0 : Int32))).2.1) ?_
    show Steps p.tables e below (T1.setTop (mkF m 52 _ [])) _
    refine XS.iconst X1.here hx rfl (hb hby at_52) ?_
    show Steps p.tables e below (T1.setTop (mkF m 53 _ [(.int (1 : Int32))])) _
    refine XS.goto X1.here hx rfl (pc0 := 53) (pc' := 57) rfl (hb hby at_53) (by decide) (by decide) ?_
    show Steps p.tables e below (T1.setTop (mkF m 57 _ [(.int (1 : Int32))])) _
    refine XS.istore X1.here hx rfl (hb hby at_57) rfl (l' := #[.val (.long q0), .second, .val (.double (own_ou (own_k q0))), .second, .val (.double (4845873199050653696 : UInt64)), .second, .val (.long (((q0.toUInt64 >>> ((11 : Int32) &&& 0x3f).toInt64.toUInt64).toInt64) ||| (1 : Int64))), .second, .val (.double (FP.l2d (((q0.toUInt64 >>> ((11 : Int32) &&& 0x3f).toInt64.toUInt64).toInt64) ||| (1 : Int64)))), .second, .val (.int (1 : Int32)), .val (.int (1 : Int32))]) rfl ?_
    show Steps p.tables e below (T1.setTop (mkF m 59 #[.val (.long q0), .second, .val (.double (own_ou (own_k q0))), .second, .val (.double (4845873199050653696 : UInt64)), .second, .val (.long (((q0.toUInt64 >>> ((11 : Int32) &&& 0x3f).toInt64.toUInt64).toInt64) ||| (1 : Int64))), .second, .val (.double (FP.l2d (((q0.toUInt64 >>> ((11 : Int32) &&& 0x3f).toInt64.toUInt64).toInt64) ||| (1 : Int64)))), .second, .val (.int (1 : Int32)), .val (.int (1 : Int32))] [])) _
    refine XS.iload X1.here hx rfl (hb hby at_59) rfl ?_
    show Steps p.tables e below (T1.setTop (mkF m 61 _ [(.int (1 : Int32))])) _
    refine XS.ifNo X1.here hx rfl (hb hby at_61) rfl ((if0 _ _).trans (feq (by decide : ¬ ((1 : Int32) = (0 : Int32)))).1) ?_
    show Steps p.tables e below (T1.setTop (mkF m 64 _ [])) _
    refine XS.iload X1.here hx rfl (hb hby at_64) rfl ?_
    show Steps p.tables e below (T1.setTop (mkF m 66 _ [(.int (1 : Int32))])) _
    refine XS.ifNo X1.here hx rfl (hb hby at_66) rfl ((if0 _ _).trans (feq (by decide : ¬ ((1 : Int32) = (0 : Int32)))).1) ?_
    show Steps p.tables e below (T1.setTop (mkF m 69 _ [])) _
    refine XS.iconst X1.here hx rfl (hb hby at_69) ?_
    show Steps p.tables e below (T1.setTop (mkF m 70 _ [(.int (1 : Int32))])) _
    refine XS.goto X1.here hx rfl (pc0 := 70) (pc' := 74) rfl (hb hby at_70) (by decide) (by decide) ?_
    exact ht
  exact OFin.retB X1 hx hlk (t := .boolean) (by simp) hret (hb hby at_74) (by decide) (by decide) (by rw [hs1]; exact ⟨rfl, N2⟩)
set_option maxRecDepth 65536 in
set_option maxHeartbeats 40000000 in
theorem comes_1 {Post : Tables → Env → Array Value → State → Outcome → State → Prop} (hpost : ∀ tb e args s v u, (limb_1_1.after args s (.returned v) u = true ∧ limb_1_2.after args s (.returned v) u = true ∧ True) → FrameEnd s (.returned v) u (Jvm.fieldLocs frame_1_writes args s ++ Jvm.arrayLocs frame_1_arrays args s ++ Jvm.staticLocs frame_1_statics s) 0 0 → Post tb e args s (.returned v) u) :
    ArmFor flags0 classFile x code maxLocals ret World_1 tables_1 room_1 Calls_1 rest_1 Pre_1 Post := by
  intro l hfl _ _ p e ha hc hk s m args below hf hA hF happ hP
  obtain ⟨hcalls, hrest, hpre⟩ := hP
  obtain ⟨-, -, -, hnamed, -, -, -, hat⟩ := (Spec.applies_iff hf).mp happ
  obtain ⟨hg, hn⟩ := and_e (Cond.before_iff.mp (show (Jvm.Cond.and given_1 narrow_1).before args s = true from hpre))
  obtain ⟨gg0, hg0⟩ := and_e hg
  obtain ⟨w0, rfl⟩ : ∃ w0 : Value, args = #[w0] := by
    have hs : args.size = 1 := by simpa [Cond.value, given_1] using gg0
    obtain ⟨L⟩ := args
    match L, hs with
    | [w0], _ => exact ⟨w0, rfl⟩
  have hw := fun d (hd : d ∈ tables_1) => atoms_spec (ws := Jvm.Cond.code x code maxLocals ret :: tables_1) hat d (List.mem_cons_of_mem _ hd)
  have hfit : Fit s := fun {y c} hc i hi => by
    obtain ⟨ha, rfl⟩ := Array.getElem?_eq_some_iff.mp hc
    have q := List.all_eq_true.mp ((Array.all_eq_true_iff_forall_mem.mp hF) _ (Array.getElem_mem ha)) i (List.mem_range.mpr hi)
    simpa [Array.getElem?_eq_getElem hi] using q
  obtain ⟨i0, ei0⟩ := isL_v hg0
  obtain rfl : w0 = (.long i0) := Option.some.inj ei0

  obtain ⟨n, o, h1, h2, h3, _, L, rfl, ⟨rfl, N⟩, hq⟩ := rm0 l s _ hw tables_1 i0  s.heap s.heap.size (Nat.le_refl _)  p e ha hc hk s m _ below hf ((Spec.applies_iff_loose hf).mp happ).1 ⟨rfl, State.Warmed39.refl s, rfl⟩ trivial
  refine ⟨n, _, h1, h2, h3, hpost _ _ _ _ _ _ ⟨Cond.after_iff.mpr rfl, Cond.after_iff.mpr (eq_i res_at (Term.int_eval (1)) rfl), trivial⟩ ⟨hq.1, hq.2.1, (hq.2.2.sift fun y hy => Or.inr (N y hy)).mono (by decide) (by decide)⟩⟩
theorem main_1_1 : Claimed_1_1 := comes_1 fun _ _ _ _ _ _ h hF => ⟨h.1, hF⟩
theorem main_1_2 : Claimed_1_2 := comes_1 fun _ _ _ _ _ _ h hF => ⟨h.2.1, hF⟩
end Jvm.Pilot.@@N@@
namespace Jvm.Pilot.@@N@@
open Jvm Jvm.ClassFile Sem Op Lib Jvm.Free Jvm.Stand Jvm.Pilot.@@N@@.Jvm.D
/-! MADE BY PROGRAM (witnessworld.py) out of the Statement's table words and the real class files: 9 classes; the members and pool entries that the words name. The judged class is class 1, her method 1. -/
namespace start1
open Jvm.ClassFile
def u (s : String) : CpInfo := .utf8 (stringToUtf16 s)
/-- a pool by its gaps: so many unusable entries, then the entry; so many at the end -/
def gap : Nat → List CpInfo → List CpInfo
  | 0, r => r
  | n + 1, r => .unusable :: gap n r
def poolList (es : List (Nat × CpInfo)) (last : Nat) : List CpInfo := es.foldr (fun e r => gap e.1 (e.2 :: r)) (gap last [])
def pool (es : List (Nat × CpInfo)) (last : Nat) : Array CpInfo := ⟨poolList es last⟩
def fileOf (pool : Array CpInfo) (this : Nat) (attrs : Array Attribute := #[]) (ms : Array MethodInfo := #[]) (fl : Nat := 33) (sup : Nat := 0) (ifs : Array Nat := #[]) (fds : Array FieldInfo := #[]) : ClassFile where
  minorVersion := 0
  majorVersion := 65
  constantPool := pool
  accessFlags := fl
  thisClass := this
  superClass := sup
  interfaces := ifs
  fields := fds
  methods := ms
  attributes := attrs
def plain (name : String) (sup : Option ClassId) : Class where
  name := name
  kind := .ordinary
  loader := none
  accessFlags := 33
  super := sup
  interfaces := #[]
  cf := none
  fields := #[]
  methods := #[]
  instanceTypes := #[]
  staticTypes := #[]
  resolved := #[]
  callSites := []
  init := .initialized
  statics := none
  mirror := none

def pool0 : Array CpInfo := pool [(5, u "<init>"), (0, u "()V"), (1, .class_ 10), (1, u "java/lang/Object")] 113

def k0m0 : Method := { name := "<init>", desc := "()V", sig := { parameters := [], returnType := none }, accessFlags := 1, code := none }
/-- java/lang/Object -/
def k0 : Class := { plain "java/lang/Object" none with
  accessFlags := 33
  interfaces := #[]
  cf := some (fileOf pool0 8 #[] #[{ accessFlags := 1, nameIndex := 5, descriptorIndex := 6, attributes := #[] }] 33 0 #[] #[])
  fields := #[]
  methods := #[k0m0]
  instanceTypes := #[]
  staticTypes := #[]
  resolved := Array.replicate 124 none
  statics := none }

def pool1 : Array CpInfo := pool [(2, .class_ 4), (1, u "java/lang/Object"), (0, u "<init>"), (0, u "()V"), (0, .methodref 8 9), (0, .class_ 10), (0, .nameAndType 11 12), (0, u "com/example/weekly_activity_scheduler/weeklyactivityscheduler/models/RandomStream"), (0, u "openUnit"), (0, u "(J)D"), (0, .double 4845873199050653696), (1, .class_ 16), (0, u "com/example/weekly_activity_scheduler/weeklyactivityscheduler/models/RandomStreamOpenUnitPinLaw"), (2, u "law"), (0, u "(J)Z")] 3

def k1m0 : Method := { name := "<init>", desc := "()V", sig := { parameters := [], returnType := none }, accessFlags := 1, code := none }
def k1c1 : Code := { maxStack := 4, maxLocals := 12, code := code, exceptionTable := #[], attributes := #[] }
def k1m1 : Method := { name := "law", desc := "(J)Z", sig := { parameters := [.long], returnType := some .boolean }, accessFlags := 9, code := some k1c1 }
/-- com/example/weekly_activity_scheduler/weeklyactivityscheduler/models/RandomStreamOpenUnitPinLaw -/
def k1 : Class := { plain "com/example/weekly_activity_scheduler/weeklyactivityscheduler/models/RandomStreamOpenUnitPinLaw" (some 0) with
  accessFlags := 49
  interfaces := #[]
  cf := some (fileOf pool1 15 #[] #[{ accessFlags := 1, nameIndex := 5, descriptorIndex := 6, attributes := #[] }, { accessFlags := 9, nameIndex := 19, descriptorIndex := 20, attributes := #[] }] 49 2 #[] #[])
  fields := #[]
  methods := #[k1m0, k1m1]
  instanceTypes := #[]
  staticTypes := #[]
  resolved := Array.replicate 24 none
  statics := none }

def pool2 : Array CpInfo := pool [(2, .class_ 4), (1, u "java/lang/Object"), (3, .class_ 10), (1, u "com/example/weekly_activity_scheduler/weeklyactivityscheduler/models/RandomStream"), (0, u "state"), (0, u "J"), (31, u "openUnit"), (0, u "(J)D"), (0, .double 4602678819172646912), (1, .double 4372995238176751616), (5, u "INCREMENT"), (1, u "OPEN_UNIT_STEP"), (0, u "D")] 13

def k2c0 : Code := { maxStack := 4, maxLocals := 2, code := prog_72_method_5_code, exceptionTable := #[], attributes := #[] }
def k2m0 : Method := { name := "openUnit", desc := "(J)D", sig := { parameters := [.long], returnType := some .double }, accessFlags := 8, code := some k2c0 }
/-- com/example/weekly_activity_scheduler/weeklyactivityscheduler/models/RandomStream -/
def k2 : Class := { plain "com/example/weekly_activity_scheduler/weeklyactivityscheduler/models/RandomStream" (some 0) with
  accessFlags := 32
  interfaces := #[]
  cf := some (fileOf pool2 8 #[] #[{ accessFlags := 8, nameIndex := 44, descriptorIndex := 45, attributes := #[] }] 32 2 #[] #[{ accessFlags := 26, nameIndex := 54, descriptorIndex := 12, attributes := #[] }, { accessFlags := 26, nameIndex := 56, descriptorIndex := 57, attributes := #[] }, { accessFlags := 2, nameIndex := 11, descriptorIndex := 12, attributes := #[] }])
  fields := #[{ name := "INCREMENT", type := .long, accessFlags := 26, slot := 0, constantValue := 0 }, { name := "OPEN_UNIT_STEP", type := .double, accessFlags := 26, slot := 1, constantValue := 0 }, { name := "state", type := .long, accessFlags := 2, slot := 0, constantValue := 0 }]
  methods := #[k2m0]
  instanceTypes := #[.long]
  staticTypes := #[.long, .double]
  resolved := Array.replicate 71 none
  statics := none }

def pool3 : Array CpInfo := pool [(1, u "java/lang/Cloneable"), (0, .class_ 1), (0, u "java/lang/Object"), (0, .class_ 3)] 3

/-- java/lang/Cloneable -/
def k3 : Class := { plain "java/lang/Cloneable" (some 0) with
  accessFlags := 1537
  interfaces := #[]
  cf := some (fileOf pool3 2 #[] #[] 1537 4 #[] #[])
  fields := #[]
  methods := #[]
  instanceTypes := #[]
  staticTypes := #[]
  resolved := Array.replicate 8 none
  statics := none }

def pool4 : Array CpInfo := pool [(1, u "java/io/Serializable"), (0, .class_ 1), (0, u "java/lang/Object"), (0, .class_ 3)] 3

/-- java/io/Serializable -/
def k4 : Class := { plain "java/io/Serializable" (some 0) with
  accessFlags := 1537
  interfaces := #[]
  cf := some (fileOf pool4 2 #[] #[] 1537 4 #[] #[])
  fields := #[]
  methods := #[]
  instanceTypes := #[]
  staticTypes := #[]
  resolved := Array.replicate 8 none
  statics := none }

/-- the primitive byte -/
def k5 : Class := { plain "byte" none with kind := .primitive 'B', accessFlags := 0x411 }
/-- [B -/
def k6 : Class := { plain "[B" (some 0) with kind := .array 5 .byte, interfaces := #[3, 4], accessFlags := 1041 }

/-- the primitive int -/
def k7 : Class := { plain "int" none with kind := .primitive 'I', accessFlags := 0x411 }
/-- [I -/
def k8 : Class := { plain "[I" (some 0) with kind := .array 7 .int, interfaces := #[3, 4], accessFlags := 1041 }

def heap : Heap := #[]
def classes : Array Class := #[k0, k1, k2, k3, k4, k5, k6, k7, k8]
def interned : List (Array UInt16 × Addr) := []
def slotsUsed : Nat := 0
def theMethod : MethodId := ⟨1, 1⟩
def args0 : Array Value := #[.long 5]
def aboutOver (below : List Frame) : State where
  vm := { classes := classes, interned := interned.toArray }
  heap := heap
  slotsUsed := slotsUsed
  threads := #[{ frames := .invoking theMethod args0 :: below }]
def below0 : List Frame := [.native { method := ⟨0, 0⟩, args := #[] }]
def about1 : State := aboutOver below0
def p0 : Program := .bare "" "" ""
def e0 : Env := launch0.env 0 0 0
theorem w_frames : about1.frames = Frame.invoking theMethod args0 :: below0 := rfl
set_option maxRecDepth 65536 in
theorem w_args : argsFit about1.vm theMethod args0 = true := by decide +kernel
set_option maxRecDepth 65536 in
theorem w_heap : heapFits about1 = true := by decide +kernel
set_option maxRecDepth 65536 in
theorem w_runnable : about1.curStatus? = some .runnable := by decide +kernel
set_option maxRecDepth 65536 in
theorem w_alone : about1.alone = true := by decide +kernel
set_option maxRecDepth 65536 in
theorem w_named : about1.methodNamed? x = some theMethod := by decide +kernel
set_option maxRecDepth 65536 in
theorem w_hears : about1.hears theMethod below0 = true := by decide +kernel
set_option maxRecDepth 65536 in
theorem w_ripe : about1.ripe theMethod args0 below0 = true := by decide +kernel
theorem w_running : about1.status = .running := rfl
set_option maxRecDepth 65536 in
theorem w_room : about1.hasRoom e0.platform room_1 = true :=
  launch0.hasRoom_least _ room_1 (by decide +kernel) (by decide +kernel) (by decide +kernel) (by decide +kernel) (by decide +kernel) (by decide +kernel)
theorem allAtoms_all (ts : List Jvm.Cond) (a : Array Jvm.Value) (st : Jvm.State) : (allAtoms ts).before a st = ts.all (fun c => c.before a st) := by
  induction ts with
  | nil => rfl
  | cons c t ih =>
    show (Jvm.Cond.and c (allAtoms t)).before a st = _
    rw [Jvm.Cond.before_and, ih, List.all_cons]
def words1 : List Jvm.Cond := Jvm.Cond.code x code maxLocals ret :: tables_1
/-- a 'code' word, met by the world's own term for the bytes: nothing is compared byte by byte -/
theorem code_word {y : MethodName} {bytes : ByteArray} {mx : Nat} {rt : Option FieldType} {a : Array Value} {s : State} {m : MethodId} {meth : Method} {c : Code} (h1 : s.methodNamed? y = some m) (h2 : s.vm.method? m = some meth) (h3 : meth.code = some c) (h4 : c.code = bytes)
    (h5 : (c.maxLocals == mx && c.exceptionTable.isEmpty && decide (c.maxStack ≤ mostOperands) && decide (meth.sig.returnType = rt) && !meth.locks && decide (parseMethodDescriptor y.desc = some meth.sig)) = true) : (Jvm.Cond.code y bytes mx rt).before a s = true := by
  simp only [Bool.and_eq_true, beq_iff_eq, Bool.not_eq_true', decide_eq_true_eq] at h5
  obtain ⟨⟨⟨⟨⟨g1, g2⟩, g3⟩, g4⟩, g5⟩, g6⟩ := h5
  simp [Cond.before, Cond.holds, Cond.value, h1, h2, h3, h4, g1, g2, g3, g4, g5, g6]
def isCode : Jvm.Cond → Bool
  | .code _ _ _ _ => true
  | _ => false
theorem all_split {L : List Jvm.Cond} {P : Jvm.Cond → Bool} (h1 : L.all (fun c => isCode c || P c) = true) (h2 : ∀ c ∈ L.filter isCode, P c = true) : L.all P = true := by
  refine List.all_eq_true.mpr fun c hc => ?_
  have h := List.all_eq_true.mp h1 c hc
  rcases Bool.eq_false_or_eq_true (isCode c) with hi | hi
  · exact h2 c (List.mem_filter.mpr ⟨hc, hi⟩)
  · simpa [hi] using h
set_option maxRecDepth 65536 in
theorem w_c0 : (Jvm.Cond.code x code maxLocals ret).before args0 about1 = true := code_word (m := ⟨1, 1⟩) (meth := k1m1) (c := k1c1) (by decide +kernel) rfl rfl rfl (by decide +kernel)
set_option maxRecDepth 65536 in
theorem w_c1 : (Jvm.Cond.code ({ cls := "com/example/weekly_activity_scheduler/weeklyactivityscheduler/models/RandomStream", name := "openUnit", desc := "(J)D" } : Jvm.MethodName) prog_72_method_5_code (2 : Nat) (Option.some Jvm.ClassFile.FieldType.double)).before args0 about1 = true := code_word (m := ⟨2, 0⟩) (meth := k2m0) (c := k2c0) (by decide +kernel) rfl rfl rfl (by decide +kernel)
def codes1 : List Jvm.Cond := [Jvm.Cond.code x code maxLocals ret, Jvm.Cond.code ({ cls := "com/example/weekly_activity_scheduler/weeklyactivityscheduler/models/RandomStream", name := "openUnit", desc := "(J)D" } : Jvm.MethodName) prog_72_method_5_code (2 : Nat) (Option.some Jvm.ClassFile.FieldType.double)]
set_option maxRecDepth 65536 in
theorem codes_eq : words1.filter isCode = codes1 := rfl
theorem w_codes : ∀ c ∈ words1.filter isCode, c.before args0 about1 = true := by
  rw [codes_eq]
  intro c hc
  simp only [codes1, List.mem_cons, List.not_mem_nil, or_false] at hc
  rcases hc with rfl | rfl
  · exact w_c0
  · exact w_c1
set_option maxRecDepth 65536 in
theorem w_t1 : words1.all (fun c => isCode c || c.before args0 about1) = true := by decide +kernel
theorem w_tables : (allAtoms (Jvm.Cond.code x code maxLocals ret :: tables_1)).before args0 about1 = true := by
  rw [allAtoms_all]
  show words1.all (fun c => c.before args0 about1) = true
  refine all_split ?_ w_codes
  rw [w_t1]
set_option maxRecDepth 65536 in
theorem w_case : (Jvm.Cond.and given_1 narrow_1).before args0 about1 = true := by decide +kernel
theorem w_applies : (headSpec (Jvm.Cond.code x code maxLocals ret :: tables_1) room_1).applies x e0.platform about1 = true :=
  (Spec.applies_iff w_frames).mpr ⟨w_running, w_runnable, w_alone, w_named, w_hears, w_ripe, w_room, w_tables⟩
theorem atStart : AtStart classFile x code maxLocals ret World_1 tables_1 room_1 Calls_1 rest_1 Pre_1 launch0 p0 e0 about1 theMethod args0 below0 :=
  ⟨lists_1, trivial, launch0.admits_env _ _ _, launch0.least_env, fairChoices_fair.cas, fairChoices_fair.clock, w_frames, w_args, w_heap, w_applies, trivial, trivial, w_case⟩
end start1
theorem witness_1 : WitnessClaimed_1 := ⟨start1.p0, start1.e0, start1.about1, start1.theMethod, start1.args0, start1.below0, start1.atStart⟩
end Jvm.Pilot.@@N@@
