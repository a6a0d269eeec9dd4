import JvmDerived
import JvmDerived.Pilot.@@N@@Statement
import JvmDerived.Pilot.@@N@@Code
set_option linter.unusedVariables false
set_option linter.unusedSimpArgs false
namespace Jvm.RoadKit
open Sem ClassFile Op Lib Jvm.Stand Jvm.Free Jvm.LawKit
section OwnNew
variable {p : Program} {l : Launch} {e : Env} {R : Room} {s : State} {m : MethodId} {args : Array Value} {below : List Frame} {meth : Method} {c : Code} {T : State} {locs : List Loc} {cells slots : Nat}
theorem retI (X : Stand p l e R s m args below meth c T locs cells slots) (hx : p.tables.exec = Jvm.exec) {pc : Nat} {Ls : Array Slot} {z : Int32} {rest : List Value} (hret : meth.sig.returnType = some .int) (hd : decode c.code pc = .ok (.ireturn, 1)) {fs : List Frame}
    (hl : ∀ (f : JFrame) (acts : List Action), f.method = m → f.locked = none → f.entered = [] → (doReturn e (T.setTop f) acts (some (.int z))).1 = T.setFrames fs) : Steps p.tables e below (T.setTop (mkF m pc Ls (.int z :: rest))) (T.setFrames fs) := by
  have hm' : T.vm.method? m = some meth := X.method'
  have hn : narrow .int (.int z) = .int z := rfl
  show Steps p.tables e below (T.setTop { method := m, pc := pc, locals := Ls, stack := _ :: rest, locked := none }) _
  jvm_step X.here [X.here.top, hx, hd, hm', hret, hn]
  first | (intro acts; rw [hl _ acts rfl rfl rfl]) | rw [hl _ _ rfl rfl rfl]
  exact Steps.refl _
/-- from S the run comes to an end of this invocation at which K holds -/
def OFin (p : Program) (e : Env) (below : List Frame) (K : Outcome → State → Prop) (S : State) : Prop := ∃ s₂ o, Steps p.tables e below S s₂ ∧ s₂.status = .running ∧ Ended s₂ below o ∧ K o s₂
theorem OFin.of {K : Outcome → State → Prop} {S S' : State} (h : ∀ t, Steps p.tables e below S' t → Steps p.tables e below S t) (k : OFin p e below K S') : OFin p e below K S := by
  obtain ⟨t, o, a, b⟩ := k; exact ⟨t, o, h t a, b⟩
theorem OFin.to {K : Outcome → State → Prop} {S S' : State} (h : Steps p.tables e below S S') (k : OFin p e below K S') : OFin p e below K S := by
  obtain ⟨t, o, a, b⟩ := k; exact ⟨t, o, h.trans a, b⟩
abbrev KPost (s : State) (Q : Option Value → Heap → List Loc → Prop) (C D : Nat) : Outcome → State → Prop := fun o U' => ∃ v L, o = .returned v ∧ Q v U'.heap L ∧ FrameEnd s o U' L C D
theorem OFin.retI (X : Stand p l e R s m args below meth c T locs cells slots) (hx : p.tables.exec = Jvm.exec) (hlk : meth.locks = false) {pc : Nat} {Ls : Array Slot} {z : Int32} {rest : List Value} {Q : Option Value → Heap → List Loc → Prop} {C D : Nat} (hret : meth.sig.returnType = some .int) (hd : decode c.code pc = .ok (.ireturn, 1)) (hC : cells ≤ C) (hD : slots ≤ D) (hQ : Q (some (.int z)) T.heap locs) :
    OFin p e below (KPost s Q C D) (T.setTop (mkF m pc Ls (.int z :: rest))) := by
  obtain ⟨fs, hr, hrun, hended, hW, hsame⟩ := X.leave (v := some (.int z)) (fun h => by rw [hret] at h; cases h) hlk
  exact ⟨_, _, Jvm.RoadKit.retI X hx hret hd hr, hrun, hended, _, _, rfl, hQ, ⟨_, rfl⟩, hW, hsame.mono hC hD⟩
theorem OFin.retB (X : Stand p l e R s m args below meth c T locs cells slots) (hx : p.tables.exec = Jvm.exec) (hlk : meth.locks = false) {pc : Nat} {Ls : Array Slot} {z : Int32} {rest : List Value} {Q : Option Value → Heap → List Loc → Prop} {C D : Nat} {t : FieldType} (ht : t = .boolean ∨ t = .byte ∨ t = .char ∨ t = .short) (hret : meth.sig.returnType = some t) (hd : decode c.code pc = .ok (.ireturn, 1)) (hC : cells ≤ C) (hD : slots ≤ D) (hQ : Q (some (.int (nar t z))) T.heap locs) :
    OFin p e below (KPost s Q C D) (T.setTop (mkF m pc Ls (.int z :: rest))) := by
  obtain ⟨fs, hr, hrun, hended, hW, hsame⟩ := X.leave (v := some (.int (nar t z))) (fun h => by rw [hret] at h; cases h) hlk
  exact ⟨_, _, retN X hx hret ht hd hr, hrun, hended, _, _, rfl, hQ, ⟨_, rfl⟩, hW, hsame.mono hC hD⟩
theorem OFin.retJ (X : Stand p l e R s m args below meth c T locs cells slots) (hx : p.tables.exec = Jvm.exec) (hlk : meth.locks = false) {pc : Nat} {Ls : Array Slot} {z : Int64} {Q : Option Value → Heap → List Loc → Prop} {C D : Nat} (hret : meth.sig.returnType = some .long) (hd : decode c.code pc = .ok (.lreturn, 1)) (hC : cells ≤ C) (hD : slots ≤ D) (hQ : Q (some (.long z)) T.heap locs) :
    OFin p e below (KPost s Q C D) (T.setTop (mkF m pc Ls [.long z])) := by
  obtain ⟨fs, hr, hrun, hended, hW, hsame⟩ := X.leave (v := some (.long z)) (fun h => by rw [hret] at h; cases h) hlk
  exact ⟨_, _, X.lreturnOut hx hret hd hr, hrun, hended, _, _, rfl, hQ, ⟨_, rfl⟩, hW, hsame.mono hC hD⟩
theorem OFin.retA (X : Stand p l e R s m args below meth c T locs cells slots) (hx : p.tables.exec = Jvm.exec) (hlk : meth.locks = false) {pc : Nat} {Ls : Array Slot} {z : Value} {Q : Option Value → Heap → List Loc → Prop} {C D : Nat} {t : FieldType} (ht : t.isReference = true) (hz : z.isRef = true) (hret : meth.sig.returnType = some t) (hd : decode c.code pc = .ok (.areturn, 1)) (hC : cells ≤ C) (hD : slots ≤ D) (hQ : Q (some z) T.heap locs) :
    OFin p e below (KPost s Q C D) (T.setTop (mkF m pc Ls [z])) := by
  obtain ⟨fs, hr, hrun, hended, hW, hsame⟩ := X.leave (v := some z) (fun h => by rw [hret] at h; cases h) hlk
  exact ⟨_, _, X.areturnOut hx hz hret ht hd hr, hrun, hended, _, _, rfl, hQ, ⟨_, rfl⟩, hW, hsame.mono hC hD⟩
theorem OFin.retD (X : Stand p l e R s m args below meth c T locs cells slots) (hx : p.tables.exec = Jvm.exec) (hlk : meth.locks = false) {pc : Nat} {Ls : Array Slot} {z : UInt64} {rest : List Value} {Q : Option Value → Heap → List Loc → Prop} {C D : Nat} (hret : meth.sig.returnType = some .double) (hd : decode c.code pc = .ok (.dreturn, 1)) (hC : cells ≤ C) (hD : slots ≤ D) (hQ : Q (some (.double z)) T.heap locs) :
    OFin p e below (KPost s Q C D) (T.setTop (mkF m pc Ls (.double z :: rest))) := by
  obtain ⟨fs, hr, hrun, hended, hW, hsame⟩ := X.leave (v := some (.double z)) (fun h => by rw [hret] at h; cases h) hlk
  exact ⟨_, _, retOut X hx hret rfl (Or.inr (Or.inr (Or.inl ⟨rfl, rfl, z, rfl⟩))) hd hr, hrun, hended, _, _, rfl, hQ, ⟨_, rfl⟩, hW, hsame.mono hC hD⟩
theorem OFin.retV (X : Stand p l e R s m args below meth c T locs cells slots) (hx : p.tables.exec = Jvm.exec) (hlk : meth.locks = false) {pc : Nat} {Ls : Array Slot} {Q : Option Value → Heap → List Loc → Prop} {C D : Nat} (hret : meth.sig.returnType = none) (hd : decode c.code pc = .ok (.return_, 1)) (hC : cells ≤ C) (hD : slots ≤ D) (hQ : Q none T.heap locs) :
    OFin p e below (KPost s Q C D) (T.setTop (mkF m pc Ls [])) := by
  obtain ⟨fs, hr, hrun, hended, hW, hsame⟩ := X.leave (v := none) (fun _ => rfl) hlk
  exact ⟨_, _, X.returnOut hx hret hd hr, hrun, hended, _, _, rfl, hQ, ⟨_, rfl⟩, hW, hsame.mono hC hD⟩
abbrev KPostW (s : State) (Q : Option Value → Heap → List Loc → Prop) (C D : Nat) : Outcome → State → Prop := fun o U' => ∃ v L, o = .returned v ∧ Q v U'.heap L ∧ ReturnedEndW s o U' L C D
theorem OFin.retBW {vm₁ : Vm} {k : Nat} (X : Stand p l e R (s.setVm vm₁) m args below meth c T locs cells slots) (hS : s.Since vm₁ k) (hk : k ≤ T.heap.size) (hx : p.tables.exec = Jvm.exec) (hlk : meth.locks = false) {pc : Nat} {Ls : Array Slot} {z : Int32} {rest : List Value} {Q : Option Value → Heap → List Loc → Prop} {C D : Nat} {t : FieldType} (ht : t = .boolean ∨ t = .byte ∨ t = .char ∨ t = .short) (hret : meth.sig.returnType = some t) (hd : decode c.code pc = .ok (.ireturn, 1)) (hC : cells ≤ C) (hD : slots ≤ D) (hQ : Q (some (.int (nar t z))) T.heap locs) :
    OFin p e below (KPostW s Q C D) (T.setTop (mkF m pc Ls (.int z :: rest))) := by
  obtain ⟨fs, hr, hrun, hended, h1, h2, h3, h4⟩ := X.leaveW hS hk (v := some (.int (nar t z))) (fun h => by rw [hret] at h; cases h) hlk
  exact ⟨_, _, retN X hx hret ht hd hr, hrun, hended, _, _, rfl, hQ, ⟨_, rfl⟩, h2, h3, h4.mono hC hD⟩
theorem own_alen {Z : State} {h : Heap} {a : Addr} {cl : Cell} {ty : FieldType} {z : Int32} {g : JFrame} {rest : List Value} {target : State} (X : Stand p l e R s m args below meth c T locs cells slots) (hx : p.tables.exec = Jvm.exec) (hZ : Z.Warmed39 s.vm) (eT : T.heap = h) (A : Arr Z h a cl ty) (S : cl.slots.size = z.toNatClampNeg) (q : ¬ z < 0) (hg : g.method = m) (hs : g.stack = .ref a :: rest) (hd : decode c.code g.pc = .ok (.arraylength, 1))
    (hr : Steps p.tables e below (T.setTop { g with pc := g.pc + 1, stack := .int z :: rest }) target) : Steps p.tables e below (T.setTop g) target := by
  refine X.arraylength hx (by rw [eT]; exact A.1) (State.isArrayOf_alike hZ.alike A.2.1) hg hs hd _ ?_
  rw [len_of S q]; exact hr
def OwnNoSta (h : Heap) (ws : List Addr) : Prop := ∀ x ∈ ws, ∀ cell : Cell, h[x]? = some cell → cell.vm.isStatics = false
theorem own_sn0 {h : Heap} : OwnNoSta h [] := fun _ q => nomatch q
theorem own_snS {Z : State} {h : Heap} {a : Addr} {C : String} {ws : List Addr} (E : Exa Z h a C) (r : OwnNoSta h ws) : OwnNoSta h (a :: ws) := fun x q cell hc => by
  rcases List.mem_cons.mp q with rfl | q
  · obtain ⟨c', _, h1, -, -, h4, -⟩ := E; cases h1.symm.trans hc; exact h4
  · exact r x q cell hc
theorem own_snV {Z : State} {h : Heap} {a : Addr} {k : ClassId} {ty : FieldType} {z : Int32} {vs : List Value} {dv : Value} {ws : List Addr} (F : Arv Z h a k ty z vs dv) (r : OwnNoSta h ws) : OwnNoSta h (a :: ws) := fun x q cell hc => by
  rcases List.mem_cons.mp q with rfl | q
  · obtain ⟨c', A, -⟩ := F; cases A.1.symm.trans hc; exact A.plain
  · exact r x q cell hc
theorem own_staKeep {Z : State} {h h' : Heap} {C n d : String} {v : Value} {ws : List Addr} (F : Sta Z h C n d v) (K : Keep h h' ws) (q : OwnNoSta h ws) : Sta Z h' C n d v := by
  obtain ⟨cf, i, k, f, st, cell, h1, h2, h3, h4, h5, h6, h7⟩ := F
  refine ⟨cf, i, k, f, st, cell, h1, h2, h3, h4, K.2.1 st cell h5 (fun z => ?_), h6, h7⟩
  have := q st z cell h5
  rw [this] at h6; cases h6
theorem own_pop2L {tb : Tables} [Ours tb] {e : Env} {below : List Frame} {T target : State} {m : MethodId} {c : Code} {g : JFrame} (h : At T m c below) (hx : tb.exec = Jvm.exec) (hg : g.method = m) {x : Int64} {rest : List Value} (hd : decode c.code g.pc = .ok (.pop2, 1)) (hs : g.stack = .long x :: rest)
    (hr : Steps tb e below (T.setTop { g with pc := g.pc + 1, stack := rest }) target) : Steps tb e below (T.setTop g) target := by
  subst hg
  jvm_step h [h.top, hx, hd, hs, Value.category]
  exact hr
end OwnNew
end Jvm.RoadKit
namespace Jvm.Pilot.@@N@@
open Jvm Jvm.ClassFile Sem Op Lib Jvm.Free Jvm.Stand Jvm.LawKit Jvm.RoadKit Bundle Jvm.Pilot.@@N@@.Jvm.D
theorem pd_0 : parseMethodDescriptor "(II)I" = some ⟨[.int, .int], some .int⟩ := by decide +kernel
theorem pd_1 : parseMethodDescriptor "(IIIII)I" = some ⟨[.int, .int, .int, .int, .int], some .int⟩ := by decide +kernel
theorem pd_2 : parseMethodDescriptor "(I[II)V" = some ⟨[.int, (.array .int), .int], none⟩ := by decide +kernel
theorem pd_3 : parseMethodDescriptor "(I)I" = some ⟨[.int], some .int⟩ := by decide +kernel
def own_max (x y : Int32) : Int32 := if x < y then y else x
def own_exp (a b c n hop : Int32) : Int32 := if hop = 1 ∧ ¬ n < 1 then a else if hop = 2 ∧ ¬ n < 2 then b else if hop = 3 ∧ ¬ n < 3 then c else 0
def own_sent (n hop w : Int32) : Int32 := if n < hop then 0 else w
theorem own_T (n x : Int32) (h : 0 ≤ n.toInt) (h' : n.toInt ≤ 3) : 1 ≤ (own_max 1 (n + ((x &&& (2147483647 : Int32)) % (3 : Int32)))).toInt ∧ (own_max 1 (n + ((x &&& (2147483647 : Int32)) % (3 : Int32)))).toInt ≤ 5 := by
  have h1 := c_mask x 2147483647 31 (by decide) (by decide)
  have h2 := (c_irem (x &&& 2147483647) 3 3 (by decide)).1 (by omega)
  have h3 := c_iadd n ((x &&& 2147483647) % 3)
  have h4 := rng32 (n + (x &&& 2147483647) % 3)
  generalize (x &&& 2147483647) % 3 = z at *
  unfold own_max
  split
  · rename_i hq; rw [Int32.lt_iff_toInt_lt] at hq; have : (1 : Int32).toInt = 1 := by decide
    omega
  · have : (1 : Int32).toInt = 1 := by decide
    omega
theorem own_hop (T y : Int32) (h : 1 ≤ T.toInt) (h' : T.toInt ≤ 5) : 1 ≤ ((1 : Int32) + ((y &&& (2147483647 : Int32)) % T)).toInt ∧ ((1 : Int32) + ((y &&& (2147483647 : Int32)) % T)).toInt ≤ 5 := by
  have h1 := c_mask y 2147483647 31 (by decide) (by decide)
  have h2 := (c_iremV (y &&& 2147483647) T).1 (by omega) (by omega)
  have h3 := c_iadd 1 ((y &&& 2147483647) % T)
  have h4 := rng32 (1 + (y &&& 2147483647) % T)
  have : (1 : Int32).toInt = 1 := by decide
  omega
theorem own_nz {T : Int32} (h : 1 ≤ T.toInt) : T ≠ 0 := fun q => by subst q; exact absurd h (by decide)
theorem own_pos {H : Int32} (h : 1 ≤ H.toInt) : (0 : Int32) < H := by
  rw [Int32.lt_iff_toInt_lt]
  have : (0 : Int32).toInt = 0 := by decide
  omega
theorem own_inb {n H : Int32} (hp : (0 : Int32) < H) (hn : ¬ n < H) : ¬ (H - (1 : Int32)) < 0 ∧ (H - (1 : Int32)) < n := by
  have h3 := c_isub H 1
  have h4 := rng32 H
  have h5 := rng32 (H - 1)
  have e1 : (1 : Int32).toInt = 1 := by decide
  have e0 : (0 : Int32).toInt = 0 := by decide
  rw [Int32.lt_iff_toInt_lt] at *
  rw [Int32.lt_iff_toInt_lt] at *
  omega
theorem own_c1 {H : Int32} (h : 1 ≤ H.toInt) (h' : ¬ (1 : Int32) < H) : H = 1 := by
  rw [Int32.lt_iff_toInt_lt] at h'
  have e1 : (1 : Int32).toInt = 1 := by decide
  exact Int32.toInt_inj.mp (by omega)
theorem own_c2 {H : Int32} (h : 1 ≤ H.toInt) (h' : ¬ (2 : Int32) < H) : H = 1 ∨ H = 2 := by
  rw [Int32.lt_iff_toInt_lt] at h'
  have e1 : (1 : Int32).toInt = 1 := by decide
  have e2 : (2 : Int32).toInt = 2 := by decide
  rcases (by omega : H.toInt = 1 ∨ H.toInt = 2) with q | q
  · exact Or.inl (Int32.toInt_inj.mp (by omega))
  · exact Or.inr (Int32.toInt_inj.mp (by omega))
theorem own_c3 {H : Int32} (h : 1 ≤ H.toInt) (h' : ¬ (3 : Int32) < H) : H = 1 ∨ H = 2 ∨ H = 3 := by
  rw [Int32.lt_iff_toInt_lt] at h'
  have e1 : (1 : Int32).toInt = 1 := by decide
  have e2 : (2 : Int32).toInt = 2 := by decide
  have e3 : (3 : Int32).toInt = 3 := by decide
  rcases (by omega : H.toInt = 1 ∨ H.toInt = 2 ∨ H.toInt = 3) with q | q | q
  · exact Or.inl (Int32.toInt_inj.mp (by omega))
  · exact Or.inr (Or.inl (Int32.toInt_inj.mp (by omega)))
  · exact Or.inr (Or.inr (Int32.toInt_inj.mp (by omega)))
theorem own_g0 {H a b c : Int32} (h : 1 ≤ H.toInt) : ¬ (0 : Int32) < H → ([] : List Value).getD (H - (1 : Int32)).toNatClampNeg (.int (0 : Int32)) = .int (own_exp a b c 0 H) := fun q => absurd (own_pos h) q
theorem own_g1 {H a b c : Int32} (h : 1 ≤ H.toInt) : ¬ (1 : Int32) < H → [(.int a : Value)].getD (H - (1 : Int32)).toNatClampNeg (.int (0 : Int32)) = .int (own_exp a b c 1 H) := fun q => by
  obtain rfl := own_c1 h q; rfl
theorem own_g2 {H a b c : Int32} (h : 1 ≤ H.toInt) : ¬ (2 : Int32) < H → [(.int a : Value), .int b].getD (H - (1 : Int32)).toNatClampNeg (.int (0 : Int32)) = .int (own_exp a b c 2 H) := fun q => by
  rcases own_c2 h q with rfl | rfl <;> rfl
theorem own_g3 {H a b c : Int32} (h : 1 ≤ H.toInt) : ¬ (3 : Int32) < H → [(.int a : Value), .int b, .int c].getD (H - (1 : Int32)).toNatClampNeg (.int (0 : Int32)) = .int (own_exp a b c 3 H) := fun q => by
  rcases own_c3 h q with rfl | rfl | rfl <;> rfl
theorem own_law {a b c n H : Int32} (hn : n = 0 ∨ n = 1 ∨ n = 2 ∨ n = 3) : own_sent n H (own_exp a b c n H) = own_exp a b c n H := by
  unfold own_sent
  split
  · rename_i hq
    unfold own_exp
    rcases hn with rfl | rfl | rfl | rfl <;>
    (rw [if_neg (by rintro ⟨rfl, h⟩; revert hq h; decide), if_neg (by rintro ⟨rfl, h⟩; revert hq h; decide), if_neg (by rintro ⟨rfl, h⟩; revert hq h; decide)])
  · rfl
theorem own_mod4 (x : Int32) : (x &&& (2147483647 : Int32)) % (4 : Int32) = (0 : Int32) ∨ (x &&& (2147483647 : Int32)) % (4 : Int32) = (1 : Int32) ∨ (x &&& (2147483647 : Int32)) % (4 : Int32) = (2 : Int32) ∨ (x &&& (2147483647 : Int32)) % (4 : Int32) = (3 : Int32) := by
  have h1 := c_mask x 2147483647 31 (by decide) (by decide)
  have h2 := (c_irem (x &&& 2147483647) 4 4 (by decide)).1 (by omega)
  generalize (x &&& 2147483647) % 4 = z at h2
  have h3 : z.toInt = 0 ∨ z.toInt = 1 ∨ z.toInt = 2 ∨ z.toInt = 3 := by omega
  have e : ∀ k : Int32, z.toInt = k.toInt → z = k := fun k => Int32.toInt_inj.mp
  rcases h3 with h | h | h | h
  · exact Or.inl (e _ h)
  · exact Or.inr (Or.inl (e _ h))
  · exact Or.inr (Or.inr (Or.inl (e _ h)))
  · exact Or.inr (Or.inr (Or.inr (e _ h)))
theorem dMx_0 : decode jdk_29_method_65_code 0 = .ok (.iload_n 0, 1) := by decide +kernel
theorem dMx_1 : decode jdk_29_method_65_code 1 = .ok (.iload_n 1, 1) := by decide +kernel
theorem dMx_2 : decode jdk_29_method_65_code 2 = .ok (.if_icmp .lt 7, 3) := by decide +kernel
theorem dMx_5 : decode jdk_29_method_65_code 5 = .ok (.iload_n 0, 1) := by decide +kernel
theorem dMx_6 : decode jdk_29_method_65_code 6 = .ok (.goto 4, 3) := by decide +kernel
theorem dMx_9 : decode jdk_29_method_65_code 9 = .ok (.iload_n 1, 1) := by decide +kernel
theorem dMx_10 : decode jdk_29_method_65_code 10 = .ok (.ireturn, 1) := by decide +kernel
theorem efMx (m : MethodId) (p0 : Int32) (p1 : Int32) : entryFrame m #[(.int p0), (.int p1)] 2 = mkF m 0 #[.val (.int p0), .val (.int p1)] [] := by first | (simp [entryFrame, mkF, argsToLocals, Value.category]; done) | rfl
def QMx (Z : State) (p0 : Int32) (p1 : Int32) (h0 : Heap) (n0 : Nat) (v : Option Value) (h : Heap) (L : List Loc) : Prop := v = some (.int (own_max p0 p1)) ∧ Fr n0 L ∧ h = h0
set_option maxRecDepth 65536 in
set_option maxHeartbeats 40000000 in
theorem rmMx (l : Launch) (Z : State) (a0 : Array Value) (hw : ∀ d ∈ tables_1, d.before a0 Z = true) (ws : List Jvm.Cond) (p0 : Int32) (p1 : Int32) (h0 : Heap) (n0 : Nat) (Z0 : n0 ≤ h0.size)  :
    MetFree l (⟨"java/lang/Math", "max", "(II)I"⟩ : MethodName) (head1 (Jvm.Cond.code (⟨"java/lang/Math", "max", "(II)I"⟩ : MethodName) jdk_29_method_65_code 2 (some .int) :: ws) ({ frames := 0, cells := 0, slots := 0, locals := 0 } : Room)) (fun a U => a = #[(.int p0), (.int p1)] ∧ Z.Warmed39 U.vm ∧ U.heap = h0) (fun _ _ _ _ _ => True) (fun _ U o U' => ∃ v L, o = .returned v ∧ QMx Z p0 p1 h0 n0 v U'.heap L ∧ FrameEnd U o U' L ({ frames := 0, cells := 0, slots := 0, locals := 0 } : Room).cells ({ frames := 0, cells := 0, slots := 0, locals := 0 } : Room).slots) := by
  refine MetFree.of_bodySF (Jvm.Free.JP.mathPlain rfl (by decide +kernel)) hisR ?_
  intro p e s m args below meth c s₁ Bd hml0 hP hK
  obtain ⟨rfl, hZ, hh⟩ := hP
  have hx := Bd.exec
  have hby := Bd.bytes
  have hlk := BodyLoose.notSynchronized Bd
  have hret := Bd.returns
  have hml : c.maxLocals = 2 := hml0
  have hown : s.vm.findClass "java/lang/Math" = some m.cls := findClass_of_methodNamed Bd.named
  have hnm := (name_of_methodNamed Bd.named Bd.method).1
  have X0 : Stand p l e ({ frames := 0, cells := 0, slots := 0, locals := 0 } : Room) s m #[(.int p0), (.int p1)] below meth c s₁ [] 0 0 := Stand.of_body Bd
  have e0 : s₁.heap = h0 := by rw [← hh, Bd.state]; rfl
  have N0 := Fr.nil n0
  show OFin p e below (KPost s (QMx Z p0 p1 h0 n0) ({ frames := 0, cells := 0, slots := 0, locals := 0 } : Room).cells ({ frames := 0, cells := 0, slots := 0, locals := 0 } : Room).slots) _
  rw [efMx m p0 p1]
  refine OFin.of (S' := s₁.setTop (mkF m 2 #[.val (.int p0), .val (.int p1)] [(.int p1), (.int p0)])) (fun t ht => ?_) ?_
  · refine XS.iloadN X0.here hx rfl (hb hby dMx_0) rfl ?_
    show Steps p.tables e below (s₁.setTop (mkF m 1 _ [(.int p0)])) _
    refine XS.iloadN X0.here hx rfl (hb hby dMx_1) rfl ?_
    exact ht
  by_cases hc1 : p0 < p1
  · refine OFin.of (S' := s₁.setTop (mkF m 10 #[.val (.int p0), .val (.int p1)] [(.int p1)])) (fun t ht => ?_) ?_
    · refine XS.icmpYes X0.here hx rfl (pc0 := 2) (pc' := 9) rfl (hb hby dMx_2) rfl (tlt (hc1 : p0 < p1)).1 (by decide) (by decide) ?_
      show Steps p.tables e below (s₁.setTop (mkF m 9 _ [])) _
      refine XS.iloadN X0.here hx rfl (hb hby dMx_9) rfl ?_
      exact ht
    exact OFin.retI X0 hx hlk hret (hb hby dMx_10) (by decide) (by decide) (by rw [e0]; exact ⟨(by show some (Value.int p1) = _; simp [own_max, hc1]), N0, rfl⟩)
  · refine OFin.of (S' := s₁.setTop (mkF m 10 #[.val (.int p0), .val (.int p1)] [(.int p0)])) (fun t ht => ?_) ?_
    · refine XS.icmpNo X0.here hx rfl (hb hby dMx_2) rfl (flt (hc1 : ¬ (p0 < p1))).1 ?_
      show Steps p.tables e below (s₁.setTop (mkF m 5 _ [])) _
      refine XS.iloadN X0.here hx rfl (hb hby dMx_5) rfl ?_
      show Steps p.tables e below (s₁.setTop (mkF m 6 _ [(.int p0)])) _
      refine XS.goto X0.here hx rfl (pc0 := 6) (pc' := 10) rfl (hb hby dMx_6) (by decide) (by decide) ?_
      exact ht
    exact OFin.retI X0 hx hlk hret (hb hby dMx_10) (by decide) (by decide) (by rw [e0]; exact ⟨(by show some (Value.int p0) = _; simp [own_max, hc1]), N0, rfl⟩)
theorem dEx_0 : decode method_3_code 0 = .ok (.iload 4, 2) := by decide +kernel
theorem dEx_2 : decode method_3_code 2 = .ok (.iconst 1, 1) := by decide +kernel
theorem dEx_3 : decode method_3_code 3 = .ok (.if_icmp .ne 10, 3) := by decide +kernel
theorem dEx_6 : decode method_3_code 6 = .ok (.iload_n 3, 1) := by decide +kernel
theorem dEx_7 : decode method_3_code 7 = .ok (.iconst 1, 1) := by decide +kernel
theorem dEx_8 : decode method_3_code 8 = .ok (.if_icmp .lt 5, 3) := by decide +kernel
theorem dEx_11 : decode method_3_code 11 = .ok (.iload_n 0, 1) := by decide +kernel
theorem dEx_12 : decode method_3_code 12 = .ok (.ireturn, 1) := by decide +kernel
theorem dEx_13 : decode method_3_code 13 = .ok (.iload 4, 2) := by decide +kernel
theorem dEx_15 : decode method_3_code 15 = .ok (.iconst 2, 1) := by decide +kernel
theorem dEx_16 : decode method_3_code 16 = .ok (.if_icmp .ne 10, 3) := by decide +kernel
theorem dEx_19 : decode method_3_code 19 = .ok (.iload_n 3, 1) := by decide +kernel
theorem dEx_20 : decode method_3_code 20 = .ok (.iconst 2, 1) := by decide +kernel
theorem dEx_21 : decode method_3_code 21 = .ok (.if_icmp .lt 5, 3) := by decide +kernel
theorem dEx_24 : decode method_3_code 24 = .ok (.iload_n 1, 1) := by decide +kernel
theorem dEx_25 : decode method_3_code 25 = .ok (.ireturn, 1) := by decide +kernel
theorem dEx_26 : decode method_3_code 26 = .ok (.iload 4, 2) := by decide +kernel
theorem dEx_28 : decode method_3_code 28 = .ok (.iconst 3, 1) := by decide +kernel
theorem dEx_29 : decode method_3_code 29 = .ok (.if_icmp .ne 10, 3) := by decide +kernel
theorem dEx_32 : decode method_3_code 32 = .ok (.iload_n 3, 1) := by decide +kernel
theorem dEx_33 : decode method_3_code 33 = .ok (.iconst 3, 1) := by decide +kernel
theorem dEx_34 : decode method_3_code 34 = .ok (.if_icmp .lt 5, 3) := by decide +kernel
theorem dEx_37 : decode method_3_code 37 = .ok (.iload_n 2, 1) := by decide +kernel
theorem dEx_38 : decode method_3_code 38 = .ok (.ireturn, 1) := by decide +kernel
theorem dEx_39 : decode method_3_code 39 = .ok (.iconst 0, 1) := by decide +kernel
theorem dEx_40 : decode method_3_code 40 = .ok (.ireturn, 1) := by decide +kernel
theorem pnEx : plainName "com/example/kindred_mesh/kindredmesh/simulation/FloodResultSentAtPinLaw" = true := by first | (simp [plainName, overriddenIn]; done) | decide +kernel
theorem efEx (m : MethodId) (p0 : Int32) (p1 : Int32) (p2 : Int32) (p3 : Int32) (p4 : Int32) : entryFrame m #[(.int p0), (.int p1), (.int p2), (.int p3), (.int p4)] 5 = mkF m 0 #[.val (.int p0), .val (.int p1), .val (.int p2), .val (.int p3), .val (.int p4)] [] := by first | (simp [entryFrame, mkF, argsToLocals, Value.category]; done) | rfl
def QEx (Z : State) (p0 : Int32) (p1 : Int32) (p2 : Int32) (p3 : Int32) (p4 : Int32) (h0 : Heap) (n0 : Nat) (v : Option Value) (h : Heap) (L : List Loc) : Prop := v = some (.int (own_exp p0 p1 p2 p3 p4)) ∧ Fr n0 L ∧ h = h0
set_option maxRecDepth 65536 in
set_option maxHeartbeats 40000000 in
theorem rmEx (l : Launch) (Z : State) (a0 : Array Value) (hw : ∀ d ∈ tables_1, d.before a0 Z = true) (ws : List Jvm.Cond) (p0 : Int32) (p1 : Int32) (p2 : Int32) (p3 : Int32) (p4 : Int32) (h0 : Heap) (n0 : Nat) (Z0 : n0 ≤ h0.size)  :
    MetFree l (⟨"com/example/kindred_mesh/kindredmesh/simulation/FloodResultSentAtPinLaw", "expect", "(IIIII)I"⟩ : MethodName) (head1 (Jvm.Cond.code (⟨"com/example/kindred_mesh/kindredmesh/simulation/FloodResultSentAtPinLaw", "expect", "(IIIII)I"⟩ : MethodName) method_3_code 5 (some .int) :: ws) ({ frames := 0, cells := 0, slots := 0, locals := 0 } : Room)) (fun a U => a = #[(.int p0), (.int p1), (.int p2), (.int p3), (.int p4)] ∧ Z.Warmed39 U.vm ∧ U.heap = h0) (fun _ _ _ _ _ => True) (fun _ U o U' => ∃ v L, o = .returned v ∧ QEx Z p0 p1 p2 p3 p4 h0 n0 v U'.heap L ∧ FrameEnd U o U' L ({ frames := 0, cells := 0, slots := 0, locals := 0 } : Room).cells ({ frames := 0, cells := 0, slots := 0, locals := 0 } : Room).slots) := by
  refine MetFree.of_bodySF (plainFor_of_name pnEx) hisR ?_
  intro p e s m args below meth c s₁ Bd hml0 hP hK
  obtain ⟨rfl, hZ, hh⟩ := hP
  have hx := Bd.exec
  have hby := Bd.bytes
  have hlk := BodyLoose.notSynchronized Bd
  have hret := Bd.returns
  have hml : c.maxLocals = 5 := hml0
  have hown : s.vm.findClass "com/example/kindred_mesh/kindredmesh/simulation/FloodResultSentAtPinLaw" = some m.cls := findClass_of_methodNamed Bd.named
  have hnm := (name_of_methodNamed Bd.named Bd.method).1
  have X0 : Stand p l e ({ frames := 0, cells := 0, slots := 0, locals := 0 } : Room) s m #[(.int p0), (.int p1), (.int p2), (.int p3), (.int p4)] below meth c s₁ [] 0 0 := Stand.of_body Bd
  have e0 : s₁.heap = h0 := by rw [← hh, Bd.state]; rfl
  have N0 := Fr.nil n0
  show OFin p e below (KPost s (QEx Z p0 p1 p2 p3 p4 h0 n0) ({ frames := 0, cells := 0, slots := 0, locals := 0 } : Room).cells ({ frames := 0, cells := 0, slots := 0, locals := 0 } : Room).slots) _
  rw [efEx m p0 p1 p2 p3 p4]
  refine OFin.of (S' := s₁.setTop (mkF m 3 #[.val (.int p0), .val (.int p1), .val (.int p2), .val (.int p3), .val (.int p4)] [(.int (1 : Int32)), (.int p4)])) (fun t ht => ?_) ?_
  · refine XS.iload X0.here hx rfl (hb hby dEx_0) rfl ?_
    show Steps p.tables e below (s₁.setTop (mkF m 2 _ [(.int p4)])) _
    refine XS.iconst X0.here hx rfl (hb hby dEx_2) ?_
    exact ht
  by_cases hc1 : p4 = (1 : Int32)
  · refine OFin.of (S' := s₁.setTop (mkF m 8 #[.val (.int p0), .val (.int p1), .val (.int p2), .val (.int p3), .val (.int p4)] [(.int (1 : Int32)), (.int p3)])) (fun t ht => ?_) ?_
    · refine XS.icmpNo X0.here hx rfl (hb hby dEx_3) rfl (teq (hc1 : p4 = (1 : Int32))).2 ?_
      show Steps p.tables e below (s₁.setTop (mkF m 6 _ [])) _
      refine XS.iloadN X0.here hx rfl (hb hby dEx_6) rfl ?_
      show Steps p.tables e below (s₁.setTop (mkF m 7 _ [(.int p3)])) _
      refine XS.iconst X0.here hx rfl (hb hby dEx_7) ?_
      exact ht
    by_cases hc2 : p3 < (1 : Int32)
    · refine OFin.of (S' := s₁.setTop (mkF m 16 #[.val (.int p0), .val (.int p1), .val (.int p2), .val (.int p3), .val (.int p4)] [(.int (2 : Int32)), (.int p4)])) (fun t ht => ?_) ?_
      · refine XS.icmpYes X0.here hx rfl (pc0 := 8) (pc' := 13) rfl (hb hby dEx_8) rfl (tlt (hc2 : p3 < (1 : Int32))).1 (by decide) (by decide) ?_
        show Steps p.tables e below (s₁.setTop (mkF m 13 _ [])) _
        refine XS.iload X0.here hx rfl (hb hby dEx_13) rfl ?_
        show Steps p.tables e below (s₁.setTop (mkF m 15 _ [(.int p4)])) _
        refine XS.iconst X0.here hx rfl (hb hby dEx_15) ?_
        exact ht
      by_cases hc3 : p4 = (2 : Int32)
      · refine OFin.of (S' := s₁.setTop (mkF m 21 #[.val (.int p0), .val (.int p1), .val (.int p2), .val (.int p3), .val (.int p4)] [(.int (2 : Int32)), (.int p3)])) (fun t ht => ?_) ?_
        · refine XS.icmpNo X0.here hx rfl (hb hby dEx_16) rfl (teq (hc3 : p4 = (2 : Int32))).2 ?_
          show Steps p.tables e below (s₁.setTop (mkF m 19 _ [])) _
          refine XS.iloadN X0.here hx rfl (hb hby dEx_19) rfl ?_
          show Steps p.tables e below (s₁.setTop (mkF m 20 _ [(.int p3)])) _
          refine XS.iconst X0.here hx rfl (hb hby dEx_20) ?_
          exact ht
        by_cases hc4 : p3 < (2 : Int32)
        · refine OFin.of (S' := s₁.setTop (mkF m 29 #[.val (.int p0), .val (.int p1), .val (.int p2), .val (.int p3), .val (.int p4)] [(.int (3 : Int32)), (.int p4)])) (fun t ht => ?_) ?_
          · refine XS.icmpYes X0.here hx rfl (pc0 := 21) (pc' := 26) rfl (hb hby dEx_21) rfl (tlt (hc4 : p3 < (2 : Int32))).1 (by decide) (by decide) ?_
            show Steps p.tables e below (s₁.setTop (mkF m 26 _ [])) _
            refine XS.iload X0.here hx rfl (hb hby dEx_26) rfl ?_
            show Steps p.tables e below (s₁.setTop (mkF m 28 _ [(.int p4)])) _
            refine XS.iconst X0.here hx rfl (hb hby dEx_28) ?_
            exact ht
          by_cases hc5 : p4 = (3 : Int32)
          · refine OFin.of (S' := s₁.setTop (mkF m 34 #[.val (.int p0), .val (.int p1), .val (.int p2), .val (.int p3), .val (.int p4)] [(.int (3 : Int32)), (.int p3)])) (fun t ht => ?_) ?_
            · refine XS.icmpNo X0.here hx rfl (hb hby dEx_29) rfl (teq (hc5 : p4 = (3 : Int32))).2 ?_
              show Steps p.tables e below (s₁.setTop (mkF m 32 _ [])) _
              refine XS.iloadN X0.here hx rfl (hb hby dEx_32) rfl ?_
              show Steps p.tables e below (s₁.setTop (mkF m 33 _ [(.int p3)])) _
              refine XS.iconst X0.here hx rfl (hb hby dEx_33) ?_
              exact ht
            by_cases hc6 : p3 < (3 : Int32)
            · refine OFin.of (S' := s₁.setTop (mkF m 40 #[.val (.int p0), .val (.int p1), .val (.int p2), .val (.int p3), .val (.int p4)] [(.int (0 : Int32))])) (fun t ht => ?_) ?_
              · refine XS.icmpYes X0.here hx rfl (pc0 := 34) (pc' := 39) rfl (hb hby dEx_34) rfl (tlt (hc6 : p3 < (3 : Int32))).1 (by decide) (by decide) ?_
                show Steps p.tables e below (s₁.setTop (mkF m 39 _ [])) _
                refine XS.iconst X0.here hx rfl (hb hby dEx_39) ?_
                exact ht
              exact OFin.retI X0 hx hlk hret (hb hby dEx_40) (by decide) (by decide) (by rw [e0]; exact ⟨(by show some (Value.int (0 : Int32)) = _; exact absurd (hc1.symm.trans hc3) (by decide)), N0, rfl⟩)
            · refine OFin.of (S' := s₁.setTop (mkF m 38 #[.val (.int p0), .val (.int p1), .val (.int p2), .val (.int p3), .val (.int p4)] [(.int p2)])) (fun t ht => ?_) ?_
              · refine XS.icmpNo X0.here hx rfl (hb hby dEx_34) rfl (flt (hc6 : ¬ (p3 < (3 : Int32)))).1 ?_
                show Steps p.tables e below (s₁.setTop (mkF m 37 _ [])) _
                refine XS.iloadN X0.here hx rfl (hb hby dEx_37) rfl ?_
                exact ht
              exact OFin.retI X0 hx hlk hret (hb hby dEx_38) (by decide) (by decide) (by rw [e0]; exact ⟨(by show some (Value.int p2) = _; exact absurd (hc1.symm.trans hc3) (by decide)), N0, rfl⟩)
          · refine OFin.of (S' := s₁.setTop (mkF m 40 #[.val (.int p0), .val (.int p1), .val (.int p2), .val (.int p3), .val (.int p4)] [(.int (0 : Int32))])) (fun t ht => ?_) ?_
            · refine XS.icmpYes X0.here hx rfl (pc0 := 29) (pc' := 39) rfl (hb hby dEx_29) rfl (feq (hc5 : ¬ (p4 = (3 : Int32)))).2 (by decide) (by decide) ?_
              show Steps p.tables e below (s₁.setTop (mkF m 39 _ [])) _
              refine XS.iconst X0.here hx rfl (hb hby dEx_39) ?_
              exact ht
            exact OFin.retI X0 hx hlk hret (hb hby dEx_40) (by decide) (by decide) (by rw [e0]; exact ⟨(by show some (Value.int (0 : Int32)) = _; exact absurd (hc1.symm.trans hc3) (by decide)), N0, rfl⟩)
        · refine OFin.of (S' := s₁.setTop (mkF m 25 #[.val (.int p0), .val (.int p1), .val (.int p2), .val (.int p3), .val (.int p4)] [(.int p1)])) (fun t ht => ?_) ?_
          · refine XS.icmpNo X0.here hx rfl (hb hby dEx_21) rfl (flt (hc4 : ¬ (p3 < (2 : Int32)))).1 ?_
            show Steps p.tables e below (s₁.setTop (mkF m 24 _ [])) _
            refine XS.iloadN X0.here hx rfl (hb hby dEx_24) rfl ?_
            exact ht
          exact OFin.retI X0 hx hlk hret (hb hby dEx_25) (by decide) (by decide) (by rw [e0]; exact ⟨(by show some (Value.int p1) = _; exact absurd (hc1.symm.trans hc3) (by decide)), N0, rfl⟩)
      · refine OFin.of (S' := s₁.setTop (mkF m 29 #[.val (.int p0), .val (.int p1), .val (.int p2), .val (.int p3), .val (.int p4)] [(.int (3 : Int32)), (.int p4)])) (fun t ht => ?_) ?_
        · refine XS.icmpYes X0.here hx rfl (pc0 := 16) (pc' := 26) rfl (hb hby dEx_16) rfl (feq (hc3 : ¬ (p4 = (2 : Int32)))).2 (by decide) (by decide) ?_
          show Steps p.tables e below (s₁.setTop (mkF m 26 _ [])) _
          refine XS.iload X0.here hx rfl (hb hby dEx_26) rfl ?_
          show Steps p.tables e below (s₁.setTop (mkF m 28 _ [(.int p4)])) _
          refine XS.iconst X0.here hx rfl (hb hby dEx_28) ?_
          exact ht
        by_cases hc7 : p4 = (3 : Int32)
        · refine OFin.of (S' := s₁.setTop (mkF m 34 #[.val (.int p0), .val (.int p1), .val (.int p2), .val (.int p3), .val (.int p4)] [(.int (3 : Int32)), (.int p3)])) (fun t ht => ?_) ?_
          · refine XS.icmpNo X0.here hx rfl (hb hby dEx_29) rfl (teq (hc7 : p4 = (3 : Int32))).2 ?_
            show Steps p.tables e below (s₁.setTop (mkF m 32 _ [])) _
            refine XS.iloadN X0.here hx rfl (hb hby dEx_32) rfl ?_
            show Steps p.tables e below (s₁.setTop (mkF m 33 _ [(.int p3)])) _
            refine XS.iconst X0.here hx rfl (hb hby dEx_33) ?_
            exact ht
          by_cases hc8 : p3 < (3 : Int32)
          · refine OFin.of (S' := s₁.setTop (mkF m 40 #[.val (.int p0), .val (.int p1), .val (.int p2), .val (.int p3), .val (.int p4)] [(.int (0 : Int32))])) (fun t ht => ?_) ?_
            · refine XS.icmpYes X0.here hx rfl (pc0 := 34) (pc' := 39) rfl (hb hby dEx_34) rfl (tlt (hc8 : p3 < (3 : Int32))).1 (by decide) (by decide) ?_
              show Steps p.tables e below (s₁.setTop (mkF m 39 _ [])) _
              refine XS.iconst X0.here hx rfl (hb hby dEx_39) ?_
              exact ht
            exact OFin.retI X0 hx hlk hret (hb hby dEx_40) (by decide) (by decide) (by rw [e0]; exact ⟨(by show some (Value.int (0 : Int32)) = _; exact absurd (hc1.symm.trans hc7) (by decide)), N0, rfl⟩)
          · refine OFin.of (S' := s₁.setTop (mkF m 38 #[.val (.int p0), .val (.int p1), .val (.int p2), .val (.int p3), .val (.int p4)] [(.int p2)])) (fun t ht => ?_) ?_
            · refine XS.icmpNo X0.here hx rfl (hb hby dEx_34) rfl (flt (hc8 : ¬ (p3 < (3 : Int32)))).1 ?_
              show Steps p.tables e below (s₁.setTop (mkF m 37 _ [])) _
              refine XS.iloadN X0.here hx rfl (hb hby dEx_37) rfl ?_
              exact ht
            exact OFin.retI X0 hx hlk hret (hb hby dEx_38) (by decide) (by decide) (by rw [e0]; exact ⟨(by show some (Value.int p2) = _; exact absurd (hc1.symm.trans hc7) (by decide)), N0, rfl⟩)
        · refine OFin.of (S' := s₁.setTop (mkF m 40 #[.val (.int p0), .val (.int p1), .val (.int p2), .val (.int p3), .val (.int p4)] [(.int (0 : Int32))])) (fun t ht => ?_) ?_
          · refine XS.icmpYes X0.here hx rfl (pc0 := 29) (pc' := 39) rfl (hb hby dEx_29) rfl (feq (hc7 : ¬ (p4 = (3 : Int32)))).2 (by decide) (by decide) ?_
            show Steps p.tables e below (s₁.setTop (mkF m 39 _ [])) _
            refine XS.iconst X0.here hx rfl (hb hby dEx_39) ?_
            exact ht
          exact OFin.retI X0 hx hlk hret (hb hby dEx_40) (by decide) (by decide) (by rw [e0]; exact ⟨(by show some (Value.int (0 : Int32)) = _; simp [own_exp, hc1, hc2, hc3, hc7]), N0, rfl⟩)
    · refine OFin.of (S' := s₁.setTop (mkF m 12 #[.val (.int p0), .val (.int p1), .val (.int p2), .val (.int p3), .val (.int p4)] [(.int p0)])) (fun t ht => ?_) ?_
      · refine XS.icmpNo X0.here hx rfl (hb hby dEx_8) rfl (flt (hc2 : ¬ (p3 < (1 : Int32)))).1 ?_
        show Steps p.tables e below (s₁.setTop (mkF m 11 _ [])) _
        refine XS.iloadN X0.here hx rfl (hb hby dEx_11) rfl ?_
        exact ht
      exact OFin.retI X0 hx hlk hret (hb hby dEx_12) (by decide) (by decide) (by rw [e0]; exact ⟨(by show some (Value.int p0) = _; simp [own_exp, hc1, hc2]), N0, rfl⟩)
  · refine OFin.of (S' := s₁.setTop (mkF m 16 #[.val (.int p0), .val (.int p1), .val (.int p2), .val (.int p3), .val (.int p4)] [(.int (2 : Int32)), (.int p4)])) (fun t ht => ?_) ?_
    · refine XS.icmpYes X0.here hx rfl (pc0 := 3) (pc' := 13) rfl (hb hby dEx_3) rfl (feq (hc1 : ¬ (p4 = (1 : Int32)))).2 (by decide) (by decide) ?_
      show Steps p.tables e below (s₁.setTop (mkF m 13 _ [])) _
      refine XS.iload X0.here hx rfl (hb hby dEx_13) rfl ?_
      show Steps p.tables e below (s₁.setTop (mkF m 15 _ [(.int p4)])) _
      refine XS.iconst X0.here hx rfl (hb hby dEx_15) ?_
      exact ht
    by_cases hc9 : p4 = (2 : Int32)
    · refine OFin.of (S' := s₁.setTop (mkF m 21 #[.val (.int p0), .val (.int p1), .val (.int p2), .val (.int p3), .val (.int p4)] [(.int (2 : Int32)), (.int p3)])) (fun t ht => ?_) ?_
      · refine XS.icmpNo X0.here hx rfl (hb hby dEx_16) rfl (teq (hc9 : p4 = (2 : Int32))).2 ?_
        show Steps p.tables e below (s₁.setTop (mkF m 19 _ [])) _
        refine XS.iloadN X0.here hx rfl (hb hby dEx_19) rfl ?_
        show Steps p.tables e below (s₁.setTop (mkF m 20 _ [(.int p3)])) _
        refine XS.iconst X0.here hx rfl (hb hby dEx_20) ?_
        exact ht
      by_cases hc10 : p3 < (2 : Int32)
      · refine OFin.of (S' := s₁.setTop (mkF m 29 #[.val (.int p0), .val (.int p1), .val (.int p2), .val (.int p3), .val (.int p4)] [(.int (3 : Int32)), (.int p4)])) (fun t ht => ?_) ?_
        · refine XS.icmpYes X0.here hx rfl (pc0 := 21) (pc' := 26) rfl (hb hby dEx_21) rfl (tlt (hc10 : p3 < (2 : Int32))).1 (by decide) (by decide) ?_
          show Steps p.tables e below (s₁.setTop (mkF m 26 _ [])) _
          refine XS.iload X0.here hx rfl (hb hby dEx_26) rfl ?_
          show Steps p.tables e below (s₁.setTop (mkF m 28 _ [(.int p4)])) _
          refine XS.iconst X0.here hx rfl (hb hby dEx_28) ?_
          exact ht
        by_cases hc11 : p4 = (3 : Int32)
        · refine OFin.of (S' := s₁.setTop (mkF m 34 #[.val (.int p0), .val (.int p1), .val (.int p2), .val (.int p3), .val (.int p4)] [(.int (3 : Int32)), (.int p3)])) (fun t ht => ?_) ?_
          · refine XS.icmpNo X0.here hx rfl (hb hby dEx_29) rfl (teq (hc11 : p4 = (3 : Int32))).2 ?_
            show Steps p.tables e below (s₁.setTop (mkF m 32 _ [])) _
            refine XS.iloadN X0.here hx rfl (hb hby dEx_32) rfl ?_
            show Steps p.tables e below (s₁.setTop (mkF m 33 _ [(.int p3)])) _
            refine XS.iconst X0.here hx rfl (hb hby dEx_33) ?_
            exact ht
          by_cases hc12 : p3 < (3 : Int32)
          · refine OFin.of (S' := s₁.setTop (mkF m 40 #[.val (.int p0), .val (.int p1), .val (.int p2), .val (.int p3), .val (.int p4)] [(.int (0 : Int32))])) (fun t ht => ?_) ?_
            · refine XS.icmpYes X0.here hx rfl (pc0 := 34) (pc' := 39) rfl (hb hby dEx_34) rfl (tlt (hc12 : p3 < (3 : Int32))).1 (by decide) (by decide) ?_
              show Steps p.tables e below (s₁.setTop (mkF m 39 _ [])) _
              refine XS.iconst X0.here hx rfl (hb hby dEx_39) ?_
              exact ht
            exact OFin.retI X0 hx hlk hret (hb hby dEx_40) (by decide) (by decide) (by rw [e0]; exact ⟨(by show some (Value.int (0 : Int32)) = _; exact absurd (hc9.symm.trans hc11) (by decide)), N0, rfl⟩)
          · refine OFin.of (S' := s₁.setTop (mkF m 38 #[.val (.int p0), .val (.int p1), .val (.int p2), .val (.int p3), .val (.int p4)] [(.int p2)])) (fun t ht => ?_) ?_
            · refine XS.icmpNo X0.here hx rfl (hb hby dEx_34) rfl (flt (hc12 : ¬ (p3 < (3 : Int32)))).1 ?_
              show Steps p.tables e below (s₁.setTop (mkF m 37 _ [])) _
              refine XS.iloadN X0.here hx rfl (hb hby dEx_37) rfl ?_
              exact ht
            exact OFin.retI X0 hx hlk hret (hb hby dEx_38) (by decide) (by decide) (by rw [e0]; exact ⟨(by show some (Value.int p2) = _; exact absurd (hc9.symm.trans hc11) (by decide)), N0, rfl⟩)
        · refine OFin.of (S' := s₁.setTop (mkF m 40 #[.val (.int p0), .val (.int p1), .val (.int p2), .val (.int p3), .val (.int p4)] [(.int (0 : Int32))])) (fun t ht => ?_) ?_
          · refine XS.icmpYes X0.here hx rfl (pc0 := 29) (pc' := 39) rfl (hb hby dEx_29) rfl (feq (hc11 : ¬ (p4 = (3 : Int32)))).2 (by decide) (by decide) ?_
            show Steps p.tables e below (s₁.setTop (mkF m 39 _ [])) _
            refine XS.iconst X0.here hx rfl (hb hby dEx_39) ?_
            exact ht
          exact OFin.retI X0 hx hlk hret (hb hby dEx_40) (by decide) (by decide) (by rw [e0]; exact ⟨(by show some (Value.int (0 : Int32)) = _; simp [own_exp, hc1, hc9, hc10, hc11]), N0, rfl⟩)
      · refine OFin.of (S' := s₁.setTop (mkF m 25 #[.val (.int p0), .val (.int p1), .val (.int p2), .val (.int p3), .val (.int p4)] [(.int p1)])) (fun t ht => ?_) ?_
        · refine XS.icmpNo X0.here hx rfl (hb hby dEx_21) rfl (flt (hc10 : ¬ (p3 < (2 : Int32)))).1 ?_
          show Steps p.tables e below (s₁.setTop (mkF m 24 _ [])) _
          refine XS.iloadN X0.here hx rfl (hb hby dEx_24) rfl ?_
          exact ht
        exact OFin.retI X0 hx hlk hret (hb hby dEx_25) (by decide) (by decide) (by rw [e0]; exact ⟨(by show some (Value.int p1) = _; simp [own_exp, hc1, hc9, hc10]), N0, rfl⟩)
    · refine OFin.of (S' := s₁.setTop (mkF m 29 #[.val (.int p0), .val (.int p1), .val (.int p2), .val (.int p3), .val (.int p4)] [(.int (3 : Int32)), (.int p4)])) (fun t ht => ?_) ?_
      · refine XS.icmpYes X0.here hx rfl (pc0 := 16) (pc' := 26) rfl (hb hby dEx_16) rfl (feq (hc9 : ¬ (p4 = (2 : Int32)))).2 (by decide) (by decide) ?_
        show Steps p.tables e below (s₁.setTop (mkF m 26 _ [])) _
        refine XS.iload X0.here hx rfl (hb hby dEx_26) rfl ?_
        show Steps p.tables e below (s₁.setTop (mkF m 28 _ [(.int p4)])) _
        refine XS.iconst X0.here hx rfl (hb hby dEx_28) ?_
        exact ht
      by_cases hc13 : p4 = (3 : Int32)
      · refine OFin.of (S' := s₁.setTop (mkF m 34 #[.val (.int p0), .val (.int p1), .val (.int p2), .val (.int p3), .val (.int p4)] [(.int (3 : Int32)), (.int p3)])) (fun t ht => ?_) ?_
        · refine XS.icmpNo X0.here hx rfl (hb hby dEx_29) rfl (teq (hc13 : p4 = (3 : Int32))).2 ?_
          show Steps p.tables e below (s₁.setTop (mkF m 32 _ [])) _
          refine XS.iloadN X0.here hx rfl (hb hby dEx_32) rfl ?_
          show Steps p.tables e below (s₁.setTop (mkF m 33 _ [(.int p3)])) _
          refine XS.iconst X0.here hx rfl (hb hby dEx_33) ?_
          exact ht
        by_cases hc14 : p3 < (3 : Int32)
        · refine OFin.of (S' := s₁.setTop (mkF m 40 #[.val (.int p0), .val (.int p1), .val (.int p2), .val (.int p3), .val (.int p4)] [(.int (0 : Int32))])) (fun t ht => ?_) ?_
          · refine XS.icmpYes X0.here hx rfl (pc0 := 34) (pc' := 39) rfl (hb hby dEx_34) rfl (tlt (hc14 : p3 < (3 : Int32))).1 (by decide) (by decide) ?_
            show Steps p.tables e below (s₁.setTop (mkF m 39 _ [])) _
            refine XS.iconst X0.here hx rfl (hb hby dEx_39) ?_
            exact ht
          exact OFin.retI X0 hx hlk hret (hb hby dEx_40) (by decide) (by decide) (by rw [e0]; exact ⟨(by show some (Value.int (0 : Int32)) = _; simp [own_exp, hc1, hc9, hc13, hc14]), N0, rfl⟩)
        · refine OFin.of (S' := s₁.setTop (mkF m 38 #[.val (.int p0), .val (.int p1), .val (.int p2), .val (.int p3), .val (.int p4)] [(.int p2)])) (fun t ht => ?_) ?_
          · refine XS.icmpNo X0.here hx rfl (hb hby dEx_34) rfl (flt (hc14 : ¬ (p3 < (3 : Int32)))).1 ?_
            show Steps p.tables e below (s₁.setTop (mkF m 37 _ [])) _
            refine XS.iloadN X0.here hx rfl (hb hby dEx_37) rfl ?_
            exact ht
          exact OFin.retI X0 hx hlk hret (hb hby dEx_38) (by decide) (by decide) (by rw [e0]; exact ⟨(by show some (Value.int p2) = _; simp [own_exp, hc1, hc9, hc13, hc14]), N0, rfl⟩)
      · refine OFin.of (S' := s₁.setTop (mkF m 40 #[.val (.int p0), .val (.int p1), .val (.int p2), .val (.int p3), .val (.int p4)] [(.int (0 : Int32))])) (fun t ht => ?_) ?_
        · refine XS.icmpYes X0.here hx rfl (pc0 := 29) (pc' := 39) rfl (hb hby dEx_29) rfl (feq (hc13 : ¬ (p4 = (3 : Int32)))).2 (by decide) (by decide) ?_
          show Steps p.tables e below (s₁.setTop (mkF m 39 _ [])) _
          refine XS.iconst X0.here hx rfl (hb hby dEx_39) ?_
          exact ht
        exact OFin.retI X0 hx hlk hret (hb hby dEx_40) (by decide) (by decide) (by rw [e0]; exact ⟨(by show some (Value.int (0 : Int32)) = _; simp [own_exp, hc1, hc9, hc13]), N0, rfl⟩)
theorem dIni_0 : decode prog_81_method_1_code 0 = .ok (.aload_n 0, 1) := by decide +kernel
theorem dIni_1 : decode prog_81_method_1_code 1 = .ok (.invokespecial 1, 3) := by decide +kernel
theorem dIni_4 : decode prog_81_method_1_code 4 = .ok (.aload_n 0, 1) := by decide +kernel
theorem dIni_5 : decode prog_81_method_1_code 5 = .ok (.iload_n 1, 1) := by decide +kernel
theorem dIni_6 : decode prog_81_method_1_code 6 = .ok (.putfield 7, 3) := by decide +kernel
theorem dIni_9 : decode prog_81_method_1_code 9 = .ok (.aload_n 0, 1) := by decide +kernel
theorem dIni_10 : decode prog_81_method_1_code 10 = .ok (.aload_n 2, 1) := by decide +kernel
theorem dIni_11 : decode prog_81_method_1_code 11 = .ok (.putfield 13, 3) := by decide +kernel
theorem dIni_14 : decode prog_81_method_1_code 14 = .ok (.aload_n 0, 1) := by decide +kernel
theorem dIni_15 : decode prog_81_method_1_code 15 = .ok (.iload_n 3, 1) := by decide +kernel
theorem dIni_16 : decode prog_81_method_1_code 16 = .ok (.putfield 17, 3) := by decide +kernel
theorem dIni_19 : decode prog_81_method_1_code 19 = .ok (.return_, 1) := by decide +kernel
theorem pnIni : plainName "com/example/kindred_mesh/kindredmesh/simulation/FloodResult" = true := by first | (simp [plainName, overriddenIn]; done) | decide +kernel
theorem efIni (m : MethodId) (a0 : Addr) (p1 : Int32) (a2 : Addr) (p3 : Int32) : entryFrame m #[(.ref a0), (.int p1), (.ref a2), (.int p3)] 4 = mkF m 0 #[.val (.ref a0), .val (.int p1), .val (.ref a2), .val (.int p3)] [] := by first | (simp [entryFrame, mkF, argsToLocals, Value.category]; done) | rfl
def QIni (Z : State) (a0 : Addr) (p1 : Int32) (a2 : Addr) (p3 : Int32) (h0 : Heap) (n0 : Nat) (v : Option Value) (h : Heap) (L : List Loc) : Prop := v = none ∧ Fr n0 L ∧ Keep h0 h [a0] ∧ Fld Z h a0 "com/example/kindred_mesh/kindredmesh/simulation/FloodResult" "ttl" "I" (.int p1) ∧ Fld Z h a0 "com/example/kindred_mesh/kindredmesh/simulation/FloodResult" "sent" "[I" (.ref a2) ∧ Fld Z h a0 "com/example/kindred_mesh/kindredmesh/simulation/FloodResult" "reached" "I" (.int p3)
set_option maxRecDepth 65536 in
set_option maxHeartbeats 40000000 in
theorem rmIni (l : Launch) (Z : State) (a0 : Array Value) (hw : ∀ d ∈ tables_1, d.before a0 Z = true) (ws : List Jvm.Cond) (a0 : Addr) (p1 : Int32) (a2 : Addr) (p3 : Int32) (h0 : Heap) (n0 : Nat) (Z0 : n0 ≤ h0.size) (E0 : Exa Z h0 a0 "com/example/kindred_mesh/kindredmesh/simulation/FloodResult") (F_ttl : Fld Z h0 a0 "com/example/kindred_mesh/kindredmesh/simulation/FloodResult" "ttl" "I" (.int (0 : Int32))) (F_sent : Fld Z h0 a0 "com/example/kindred_mesh/kindredmesh/simulation/FloodResult" "sent" "[I" .null) (F_reached : Fld Z h0 a0 "com/example/kindred_mesh/kindredmesh/simulation/FloodResult" "reached" "I" (.int (0 : Int32))) (g0 : n0 ≤ a0) :
    MetFree l (⟨"com/example/kindred_mesh/kindredmesh/simulation/FloodResult", "<init>", "(I[II)V"⟩ : MethodName) (head1 (Jvm.Cond.code (⟨"com/example/kindred_mesh/kindredmesh/simulation/FloodResult", "<init>", "(I[II)V"⟩ : MethodName) prog_81_method_1_code 4 none :: ws) ({ frames := 1, cells := 0, slots := 0, locals := 12 } : Room)) (fun a U => a = #[(.ref a0), (.int p1), (.ref a2), (.int p3)] ∧ Z.Warmed39 U.vm ∧ U.heap = h0) (fun _ _ _ _ _ => True) (fun _ U o U' => ∃ v L, o = .returned v ∧ QIni Z a0 p1 a2 p3 h0 n0 v U'.heap L ∧ FrameEnd U o U' L ({ frames := 1, cells := 0, slots := 0, locals := 12 } : Room).cells ({ frames := 1, cells := 0, slots := 0, locals := 12 } : Room).slots) := by
  refine MetFree.of_bodySF (plainFor_of_name pnIni) hisR ?_
  intro p e s m args below meth c s₁ Bd hml0 hP hK
  obtain ⟨rfl, hZ, hh⟩ := hP
  have hx := Bd.exec
  have hby := Bd.bytes
  have hlk := BodyLoose.notSynchronized Bd
  have hret := Bd.returns
  have hml : c.maxLocals = 4 := hml0
  have hown : s.vm.findClass "com/example/kindred_mesh/kindredmesh/simulation/FloodResult" = some m.cls := findClass_of_methodNamed Bd.named
  have hnm := (name_of_methodNamed Bd.named Bd.method).1
  have X0 : Stand p l e ({ frames := 1, cells := 0, slots := 0, locals := 12 } : Room) s m #[(.ref a0), (.int p1), (.ref a2), (.int p3)] below meth c s₁ [] 0 0 := Stand.of_body Bd
  have e0 : s₁.heap = h0 := by rw [← hh, Bd.state]; rfl
  have N0 := Fr.nil n0
  show OFin p e below (KPost s (QIni Z a0 p1 a2 p3 h0 n0) ({ frames := 1, cells := 0, slots := 0, locals := 12 } : Room).cells ({ frames := 1, cells := 0, slots := 0, locals := 12 } : Room).slots) _
  rw [efIni m a0 p1 a2 p3]
  have K0 : Keep h0 h0 [a0] := Keep.refl _ _
  refine OFin.of (S' := s₁.setTop (mkF m 1 #[.val (.ref a0), .val (.int p1), .val (.ref a2), .val (.int p3)] [(.ref a0)])) (fun t ht => ?_) ?_
  · refine XS.aloadN X0.here hx rfl (hb hby dIni_0) rfl rfl ?_
    exact ht
  obtain ⟨T1, X1, e1, st1⟩ := initO X0 hx hZ hown (hw _ (List.mem_of_getElem? (i := 16) rfl)) (hw _ (List.mem_of_getElem? (i := 17) rfl)) (hw _ (List.mem_of_getElem? (i := 18) rfl)) e0 (g := (mkF m 1 #[.val (.ref a0), .val (.int p1), .val (.ref a2), .val (.int p3)] [(.ref a0)])) rfl (by rw [hml]; rfl) rfl (hb hby dIni_1) (by decide) (W := 0) (by show 2 * 0 + _ ≤ _; exact Nat.le_of_eq rfl) (by decide)
  refine OFin.of (S' := T1.setTop (mkF m 4 #[.val (.ref a0), .val (.int p1), .val (.ref a2), .val (.int p3)] [])) (fun t ht => st1 t ht) ?_
  refine OFin.of (S' := T1.setTop (mkF m 6 #[.val (.ref a0), .val (.int p1), .val (.ref a2), .val (.int p3)] [(.int p1), (.ref a0)])) (fun t ht => ?_) ?_
  · refine XS.aloadN X1.here hx rfl (hb hby dIni_4) rfl rfl ?_
    show Steps p.tables e below (T1.setTop (mkF m 5 _ [(.ref a0)])) _
    refine XS.iloadN X1.here hx rfl (hb hby dIni_5) rfl ?_
    exact ht
  obtain ⟨T2, h2, X2, e2, W2, st2⟩ := putF X1 hx hZ hown (host := "") (Or.inl (hw _ (List.mem_of_getElem? (i := 19) rfl))) Via.refl e1 F_ttl E0 (Or.inr ⟨(hw _ (List.mem_of_getElem? (i := 20) rfl)), rfl, hnm⟩) (hw _ (List.mem_of_getElem? (i := 11) rfl)) (ty := .int) (by decide) rfl rfl (g := (mkF m 6 #[.val (.ref a0), .val (.int p1), .val (.ref a2), .val (.int p3)] [(.int p1), (.ref a0)])) rfl rfl (hb hby dIni_6)
  have f3 := (E0.wr W2)
  have f4 := (F_sent.other W2 (Or.inr (slot_ne (Or.inr (hw _ (List.mem_of_getElem? (i := 22) rfl))) (Or.inr (hw _ (List.mem_of_getElem? (i := 20) rfl))) (by decide) (t := (.array .int)) (t' := .int) (by decide) (by decide))))
  have f5 := (F_reached.other W2 (Or.inr (slot_ne (Or.inr (hw _ (List.mem_of_getElem? (i := 24) rfl))) (Or.inr (hw _ (List.mem_of_getElem? (i := 20) rfl))) (by decide) (t := .int) (t' := .int) (by decide) (by decide))))
  have Z6 : n0 ≤ h2.size := (Nat.le_trans Z0 (Keep.of_wr W2).1)
  have K7 : Keep h0 h2 [a0] := (K0.wr W2 (Or.inl (List.mem_of_getElem? (i := 0) rfl)))
  have N8 := Fr.snoc X2 N0 g0
  have f9 : Fld Z h2 a0 "com/example/kindred_mesh/kindredmesh/simulation/FloodResult" "ttl" "I" (.int p1) := (F_ttl.same W2)
  refine OFin.of (S' := T2.setTop (mkF m 9 #[.val (.ref a0), .val (.int p1), .val (.ref a2), .val (.int p3)] [])) (fun t ht => st2 t ht) ?_
  refine OFin.of (S' := T2.setTop (mkF m 11 #[.val (.ref a0), .val (.int p1), .val (.ref a2), .val (.int p3)] [(.ref a2), (.ref a0)])) (fun t ht => ?_) ?_
  · refine XS.aloadN X2.here hx rfl (hb hby dIni_9) rfl rfl ?_
    show Steps p.tables e below (T2.setTop (mkF m 10 _ [(.ref a0)])) _
    refine XS.aloadN X2.here hx rfl (hb hby dIni_10) rfl rfl ?_
    exact ht
  obtain ⟨T10, h10, X10, e10, W10, st10⟩ := putF X2 hx hZ hown (host := "") (Or.inl (hw _ (List.mem_of_getElem? (i := 21) rfl))) Via.refl e2 f4 f3 (Or.inr ⟨(hw _ (List.mem_of_getElem? (i := 22) rfl)), rfl, hnm⟩) (hw _ (List.mem_of_getElem? (i := 11) rfl)) (ty := (.array .int)) (by decide) rfl rfl (g := (mkF m 11 #[.val (.ref a0), .val (.int p1), .val (.ref a2), .val (.int p3)] [(.ref a2), (.ref a0)])) rfl rfl (hb hby dIni_11)
  have f11 := (f3.wr W10)
  have f12 := (f5.other W10 (Or.inr (slot_ne (Or.inr (hw _ (List.mem_of_getElem? (i := 24) rfl))) (Or.inr (hw _ (List.mem_of_getElem? (i := 22) rfl))) (by decide) (t := .int) (t' := (.array .int)) (by decide) (by decide))))
  have f13 := (f9.other W10 (Or.inr (slot_ne (Or.inr (hw _ (List.mem_of_getElem? (i := 20) rfl))) (Or.inr (hw _ (List.mem_of_getElem? (i := 22) rfl))) (by decide) (t := .int) (t' := (.array .int)) (by decide) (by decide))))
  have Z14 : n0 ≤ h10.size := (Nat.le_trans Z6 (Keep.of_wr W10).1)
  have K15 : Keep h0 h10 [a0] := (K7.wr W10 (Or.inl (List.mem_of_getElem? (i := 0) rfl)))
  have N16 := Fr.snoc X10 N8 g0
  have f17 : Fld Z h10 a0 "com/example/kindred_mesh/kindredmesh/simulation/FloodResult" "sent" "[I" (.ref a2) := (f4.same W10)
  refine OFin.of (S' := T10.setTop (mkF m 14 #[.val (.ref a0), .val (.int p1), .val (.ref a2), .val (.int p3)] [])) (fun t ht => st10 t ht) ?_
  refine OFin.of (S' := T10.setTop (mkF m 16 #[.val (.ref a0), .val (.int p1), .val (.ref a2), .val (.int p3)] [(.int p3), (.ref a0)])) (fun t ht => ?_) ?_
  · refine XS.aloadN X10.here hx rfl (hb hby dIni_14) rfl rfl ?_
    show Steps p.tables e below (T10.setTop (mkF m 15 _ [(.ref a0)])) _
    refine XS.iloadN X10.here hx rfl (hb hby dIni_15) rfl ?_
    exact ht
  obtain ⟨T18, h18, X18, e18, W18, st18⟩ := putF X10 hx hZ hown (host := "") (Or.inl (hw _ (List.mem_of_getElem? (i := 23) rfl))) Via.refl e10 f12 f11 (Or.inr ⟨(hw _ (List.mem_of_getElem? (i := 24) rfl)), rfl, hnm⟩) (hw _ (List.mem_of_getElem? (i := 11) rfl)) (ty := .int) (by decide) rfl rfl (g := (mkF m 16 #[.val (.ref a0), .val (.int p1), .val (.ref a2), .val (.int p3)] [(.int p3), (.ref a0)])) rfl rfl (hb hby dIni_16)
  have f19 := (f11.wr W18)
  have f20 := (f13.other W18 (Or.inr (slot_ne (Or.inr (hw _ (List.mem_of_getElem? (i := 20) rfl))) (Or.inr (hw _ (List.mem_of_getElem? (i := 24) rfl))) (by decide) (t := .int) (t' := .int) (by decide) (by decide))))
  have f21 := (f17.other W18 (Or.inr (slot_ne (Or.inr (hw _ (List.mem_of_getElem? (i := 22) rfl))) (Or.inr (hw _ (List.mem_of_getElem? (i := 24) rfl))) (by decide) (t := (.array .int)) (t' := .int) (by decide) (by decide))))
  have Z22 : n0 ≤ h18.size := (Nat.le_trans Z14 (Keep.of_wr W18).1)
  have K23 : Keep h0 h18 [a0] := (K15.wr W18 (Or.inl (List.mem_of_getElem? (i := 0) rfl)))
  have N24 := Fr.snoc X18 N16 g0
  have f25 : Fld Z h18 a0 "com/example/kindred_mesh/kindredmesh/simulation/FloodResult" "reached" "I" (.int p3) := (f12.same W18)
  refine OFin.of (S' := T18.setTop (mkF m 19 #[.val (.ref a0), .val (.int p1), .val (.ref a2), .val (.int p3)] [])) (fun t ht => st18 t ht) ?_
  exact OFin.retV X18 hx hlk hret (hb hby dIni_19) (by decide) (by decide) (by rw [e18]; exact ⟨rfl, N24, K23, f20, f21, f25⟩)
theorem dSa_0 : decode prog_81_method_3_code 0 = .ok (.iload_n 1, 1) := by decide +kernel
theorem dSa_1 : decode prog_81_method_3_code 1 = .ok (.aload_n 0, 1) := by decide +kernel
theorem dSa_2 : decode prog_81_method_3_code 2 = .ok (.getfield 13, 3) := by decide +kernel
theorem dSa_5 : decode prog_81_method_3_code 5 = .ok (.arraylength, 1) := by decide +kernel
theorem dSa_6 : decode prog_81_method_3_code 6 = .ok (.if_icmp .gt 14, 3) := by decide +kernel
theorem dSa_9 : decode prog_81_method_3_code 9 = .ok (.aload_n 0, 1) := by decide +kernel
theorem dSa_10 : decode prog_81_method_3_code 10 = .ok (.getfield 13, 3) := by decide +kernel
theorem dSa_13 : decode prog_81_method_3_code 13 = .ok (.iload_n 1, 1) := by decide +kernel
theorem dSa_14 : decode prog_81_method_3_code 14 = .ok (.iconst 1, 1) := by decide +kernel
theorem dSa_15 : decode prog_81_method_3_code 15 = .ok (.isub, 1) := by decide +kernel
theorem dSa_16 : decode prog_81_method_3_code 16 = .ok (.iaload, 1) := by decide +kernel
theorem dSa_17 : decode prog_81_method_3_code 17 = .ok (.goto 4, 3) := by decide +kernel
theorem dSa_20 : decode prog_81_method_3_code 20 = .ok (.iconst 0, 1) := by decide +kernel
theorem dSa_21 : decode prog_81_method_3_code 21 = .ok (.ireturn, 1) := by decide +kernel
theorem pnSa : plainName "com/example/kindred_mesh/kindredmesh/simulation/FloodResult" = true := by first | (simp [plainName, overriddenIn]; done) | decide +kernel
theorem efSa (m : MethodId) (a0 : Addr) (p1 : Int32) : entryFrame m #[(.ref a0), (.int p1)] 2 = mkF m 0 #[.val (.ref a0), .val (.int p1)] [] := by first | (simp [entryFrame, mkF, argsToLocals, Value.category]; done) | rfl
def QSa (Z : State) (a0 : Addr) (p1 : Int32) (a2 : Addr) (k : ClassId) (n : Int32) (vs : List Value) (w : Int32) (h0 : Heap) (n0 : Nat) (v : Option Value) (h : Heap) (L : List Loc) : Prop := v = some (.int (own_sent n p1 w)) ∧ Fr n0 L ∧ h = h0
set_option maxRecDepth 65536 in
set_option maxHeartbeats 40000000 in
theorem rmSa (l : Launch) (Z : State) (a0 : Array Value) (hw : ∀ d ∈ tables_1, d.before a0 Z = true) (ws : List Jvm.Cond) (a0 : Addr) (p1 : Int32) (a2 : Addr) (k : ClassId) (n : Int32) (vs : List Value) (w : Int32) (h0 : Heap) (n0 : Nat) (Z0 : n0 ≤ h0.size) (F1 : Fld Z h0 a0 "com/example/kindred_mesh/kindredmesh/simulation/FloodResult" "sent" "[I" (.ref a2)) (V1 : Arv Z h0 a2 k .int n vs (.int (0 : Int32))) (hp : (0 : Int32) < p1) (hv : ¬ n < p1 → vs.getD (p1 - (1 : Int32)).toNatClampNeg (.int (0 : Int32)) = .int w) :
    MetFree l (⟨"com/example/kindred_mesh/kindredmesh/simulation/FloodResult", "sentAt", "(I)I"⟩ : MethodName) (head1 (Jvm.Cond.code (⟨"com/example/kindred_mesh/kindredmesh/simulation/FloodResult", "sentAt", "(I)I"⟩ : MethodName) prog_81_method_3_code 2 (some .int) :: ws) ({ frames := 0, cells := 0, slots := 0, locals := 0 } : Room)) (fun a U => a = #[(.ref a0), (.int p1)] ∧ Z.Warmed39 U.vm ∧ U.heap = h0) (fun _ _ _ _ _ => True) (fun _ U o U' => ∃ v L, o = .returned v ∧ QSa Z a0 p1 a2 k n vs w h0 n0 v U'.heap L ∧ FrameEnd U o U' L ({ frames := 0, cells := 0, slots := 0, locals := 0 } : Room).cells ({ frames := 0, cells := 0, slots := 0, locals := 0 } : Room).slots) := by
  refine MetFree.of_bodySF (plainFor_of_name pnSa) hisR ?_
  intro p e s m args below meth c s₁ Bd hml0 hP hK
  obtain ⟨rfl, hZ, hh⟩ := hP
  have hx := Bd.exec
  have hby := Bd.bytes
  have hlk := BodyLoose.notSynchronized Bd
  have hret := Bd.returns
  have hml : c.maxLocals = 2 := hml0
  have hown : s.vm.findClass "com/example/kindred_mesh/kindredmesh/simulation/FloodResult" = some m.cls := findClass_of_methodNamed Bd.named
  have hnm := (name_of_methodNamed Bd.named Bd.method).1
  have X0 : Stand p l e ({ frames := 0, cells := 0, slots := 0, locals := 0 } : Room) s m #[(.ref a0), (.int p1)] below meth c s₁ [] 0 0 := Stand.of_body Bd
  have e0 : s₁.heap = h0 := by rw [← hh, Bd.state]; rfl
  have N0 := Fr.nil n0
  show OFin p e below (KPost s (QSa Z a0 p1 a2 k n vs w h0 n0) ({ frames := 0, cells := 0, slots := 0, locals := 0 } : Room).cells ({ frames := 0, cells := 0, slots := 0, locals := 0 } : Room).slots) _
  rw [efSa m a0 p1]
  refine OFin.of (S' := s₁.setTop (mkF m 2 #[.val (.ref a0), .val (.int p1)] [(.ref a0), (.int p1)])) (fun t ht => ?_) ?_
  · refine XS.iloadN X0.here hx rfl (hb hby dSa_0) rfl ?_
    show Steps p.tables e below (s₁.setTop (mkF m 1 _ [(.int p1)])) _
    refine XS.aloadN X0.here hx rfl (hb hby dSa_1) rfl rfl ?_
    exact ht
  obtain ⟨T1, X1, e1, st1⟩ := getF X0 hx hZ hown (host := "") (Or.inl (hw _ (List.mem_of_getElem? (i := 21) rfl))) Via.refl e0 F1 (g := (mkF m 2 #[.val (.ref a0), .val (.int p1)] [(.ref a0), (.int p1)])) rfl rfl (hb hby dSa_2)
  refine OFin.of (S' := T1.setTop (mkF m 5 #[.val (.ref a0), .val (.int p1)] [(.ref a2), (.int p1)])) (fun t ht => st1 t ht) ?_
  obtain ⟨cl2, Ar2, q2, S2, Ng2, H2, G2⟩ := id V1
  refine OFin.of (S' := T1.setTop (mkF m 6 #[.val (.ref a0), .val (.int p1)] [(.int n), (.int p1)])) (fun t ht => own_alen X1 hx hZ e1 Ar2 S2 Ng2 (g := (mkF m 5 #[.val (.ref a0), .val (.int p1)] [(.ref a2), (.int p1)])) rfl rfl (hb hby dSa_5) ht) ?_
  by_cases hc3 : n < p1
  · refine OFin.of (S' := T1.setTop (mkF m 21 #[.val (.ref a0), .val (.int p1)] [(.int (0 : Int32))])) (fun t ht => ?_) ?_
    · refine XS.icmpYes X1.here hx rfl (pc0 := 6) (pc' := 20) rfl (hb hby dSa_6) rfl (tlt (hc3 : n < p1)).2.2.1 (by decide) (by decide) ?_
      show Steps p.tables e below (T1.setTop (mkF m 20 _ [])) _
      refine XS.iconst X1.here hx rfl (hb hby dSa_20) ?_
      exact ht
    exact OFin.retI X1 hx hlk hret (hb hby dSa_21) (by decide) (by decide) (by rw [e1]; exact ⟨(by show some (Value.int (0 : Int32)) = _; simp [own_sent, hc3]), N0, rfl⟩)
  · refine OFin.of (S' := T1.setTop (mkF m 10 #[.val (.ref a0), .val (.int p1)] [(.ref a0)])) (fun t ht => ?_) ?_
    · refine XS.icmpNo X1.here hx rfl (hb hby dSa_6) rfl (flt (hc3 : ¬ (n < p1))).2.2.1 ?_
      show Steps p.tables e below (T1.setTop (mkF m 9 _ [])) _
      refine XS.aloadN X1.here hx rfl (hb hby dSa_9) rfl rfl ?_
      exact ht
    obtain ⟨T4, X4, e4, st4⟩ := getF X1 hx hZ hown (host := "") (Or.inl (hw _ (List.mem_of_getElem? (i := 21) rfl))) Via.refl e1 F1 (g := (mkF m 10 #[.val (.ref a0), .val (.int p1)] [(.ref a0)])) rfl rfl (hb hby dSa_10)
    refine OFin.of (S' := T4.setTop (mkF m 13 #[.val (.ref a0), .val (.int p1)] [(.ref a2)])) (fun t ht => st4 t ht) ?_
    refine OFin.of (S' := T4.setTop (mkF m 16 #[.val (.ref a0), .val (.int p1)] [(.int (p1 - (1 : Int32))), (.ref a2)])) (fun t ht => ?_) ?_
    · refine XS.iloadN X4.here hx rfl (hb hby dSa_13) rfl ?_
      show Steps p.tables e below (T4.setTop (mkF m 14 _ [(.int p1), (.ref a2)])) _
      refine XS.iconst X4.here hx rfl (hb hby dSa_14) ?_
      show Steps p.tables e below (T4.setTop (mkF m 15 _ [(.int (1 : Int32)), (.int p1), (.ref a2)])) _
      refine XS.isub X4.here hx rfl (hb hby dSa_15) rfl ?_
      exact ht
    obtain ⟨cl5, Ar5, q5, S5, Ng5, H5, G5⟩ := id V1
    have hin5 := inb_of (j := (p1 - (1 : Int32))) S5 (own_inb hp hc3)
    have hat5 : cl5.slots[((p1 - (1 : Int32))).toNatClampNeg]? = some (.int w) := Has.at H5 hin5 (hv hc3)
    refine OFin.of (S' := T4.setTop (mkF m 17 #[.val (.ref a0), .val (.int p1)] [(.int w)])) (fun t ht => X4.iaload hx (j := (p1 - (1 : Int32))) (v := (.int w)) (by rw [e4]; exact Ar5.1) (State.isArrayOf_alike hZ.alike Ar5.2.1) Ar5.2.2 hin5 hat5 (g := (mkF m 16 #[.val (.ref a0), .val (.int p1)] [(.int (p1 - (1 : Int32))), (.ref a2)])) rfl rfl (hb hby dSa_16) _ ht) ?_
    refine OFin.of (S' := T4.setTop (mkF m 21 #[.val (.ref a0), .val (.int p1)] [(.int w)])) (fun t ht => ?_) ?_
    · refine XS.goto X4.here hx rfl (pc0 := 17) (pc' := 21) rfl (hb hby dSa_17) (by decide) (by decide) ?_
      exact ht
    exact OFin.retI X4 hx hlk hret (hb hby dSa_21) (by decide) (by decide) (by rw [e4]; exact ⟨(by show some (Value.int w) = _; simp [own_sent, hc3]), N0, rfl⟩)
theorem pn0 : plainName "com/example/kindred_mesh/kindredmesh/simulation/FloodResultSentAtPinLaw" = true := by first | (simp [plainName, overriddenIn]; done) | decide +kernel
theorem ef0 (m : MethodId) (p0 : Int32) (p1 : Int32) (p2 : Int32) (p3 : Int32) (p4 : Int32) (p5 : Int32) : entryFrame m #[(.int p0), (.int p1), (.int p2), (.int p3), (.int p4), (.int p5)] maxLocals = mkF m 0 #[.val (.int p0), .val (.int p1), .val (.int p2), .val (.int p3), .val (.int p4), .val (.int p5), .unset, .unset, .unset, .unset, .unset, .unset, .unset] [] := by first | (simp [entryFrame, mkF, argsToLocals, Value.category, maxLocals]; done) | rfl
def Q0 (Z : State) (p0 : Int32) (p1 : Int32) (p2 : Int32) (p3 : Int32) (p4 : Int32) (p5 : Int32) (h0 : Heap) (n0 : Nat) (v : Option Value) (h : Heap) (L : List Loc) : Prop := v = some (.int (1 : Int32)) ∧ Fr n0 L
set_option maxRecDepth 65536 in
set_option maxHeartbeats 40000000 in
theorem rm0 (l : Launch) (Z : State) (a0 : Array Value) (hw : ∀ d ∈ tables_1, d.before a0 Z = true) (ws : List Jvm.Cond) (p0 : Int32) (p1 : Int32) (p2 : Int32) (p3 : Int32) (p4 : Int32) (p5 : Int32) (h0 : Heap) (n0 : Nat) (Z0 : n0 ≤ h0.size)  :
    MetFree l x (head1 (Jvm.Cond.code x code maxLocals ret :: ws) room_1) (fun a U => a = #[(.int p0), (.int p1), (.int p2), (.int p3), (.int p4), (.int p5)] ∧ Z.Warmed39 U.vm ∧ U.heap = h0) (fun _ _ _ _ _ => True) (fun _ U o U' => ∃ v L, o = .returned v ∧ Q0 Z p0 p1 p2 p3 p4 p5 h0 n0 v U'.heap L ∧ FrameEnd U o U' L room_1.cells room_1.slots) := by
  refine MetFree.of_bodySF (plainFor_of_name pn0) hisR ?_
  intro p e s m args below meth c s₁ Bd hml0 hP hK
  obtain ⟨rfl, hZ, hh⟩ := hP
  have hx := Bd.exec
  have hby := Bd.bytes
  have hlk := BodyLoose.notSynchronized Bd
  have hret := Bd.returns
  have hml : c.maxLocals = 13 := hml0
  have hown : s.vm.findClass "com/example/kindred_mesh/kindredmesh/simulation/FloodResultSentAtPinLaw" = some m.cls := findClass_of_methodNamed Bd.named
  have hnm := (name_of_methodNamed Bd.named Bd.method).1
  have X0 : Stand p l e room_1 s m #[(.int p0), (.int p1), (.int p2), (.int p3), (.int p4), (.int p5)] below meth c s₁ [] 0 0 := Stand.of_body Bd
  have e0 : s₁.heap = h0 := by rw [← hh, Bd.state]; rfl
  have N0 := Fr.nil n0
  show OFin p e below (KPost s (Q0 Z p0 p1 p2 p3 p4 p5 h0 n0) room_1.cells room_1.slots) _
  rw [ef0 m p0 p1 p2 p3 p4 p5]
  refine OFin.of (S' := s₁.setTop (mkF m 6 #[.val (.int p0), .val (.int p1), .val (.int p2), .val (.int p3), .val (.int p4), .val (.int p5), .unset, .unset, .unset, .unset, .unset, .unset, .unset] [(.int ((p3 &&& (2147483647 : Int32)) % (4 : Int32)))])) (fun t ht => ?_) ?_
  · refine XS.iloadN X0.here hx rfl (hb hby at_0) rfl ?_
    show Steps p.tables e below (s₁.setTop (mkF m 1 _ [(.int p3)])) _
    refine X0.ldcInt hx hown (mvT hZ (hw _ (List.mem_of_getElem? (i := 0) rfl))) (g := (mkF m 1 #[.val (.int p0), .val (.int p1), .val (.int p2), .val (.int p3), .val (.int p4), .val (.int p5), .unset, .unset, .unset, .unset, .unset, .unset, .unset] [(.int p3)])) rfl (hb hby at_1) _ ?_
    show Steps p.tables e below (s₁.setTop (mkF m 3 _ [(.int (2147483647 : Int32)), (.int p3)])) _
    refine XS.iand X0.here hx rfl (hb hby at_3) rfl ?_
    show Steps p.tables e below (s₁.setTop (mkF m 4 _ [(.int (p3 &&& (2147483647 : Int32)))])) _
    refine XS.iconst X0.here hx rfl (hb hby at_4) ?_
    show Steps p.tables e below (s₁.setTop (mkF m 5 _ [(.int (4 : Int32)), (.int (p3 &&& (2147483647 : Int32)))])) _
    refine iremM X0 hx rfl (hb hby at_5) rfl (by decide) ?_
    exact ht
  rcases (own_mod4 _ : ((p3 &&& (2147483647 : Int32)) % (4 : Int32)) = (0 : Int32) ∨ ((p3 &&& (2147483647 : Int32)) % (4 : Int32)) = (1 : Int32) ∨ ((p3 &&& (2147483647 : Int32)) % (4 : Int32)) = (2 : Int32) ∨ ((p3 &&& (2147483647 : Int32)) % (4 : Int32)) = (3 : Int32)) with hq1 | hq1 | hq1 | hq1
  · rw [hq1]
    refine OFin.of (S' := s₁.setTop (mkF m 19 #[.val (.int p0), .val (.int p1), .val (.int p2), .val (.int p3), .val (.int p4), .val (.int p5), .val (.int (0 : Int32)), .unset, .unset, .unset, .unset, .unset, .unset] [(.int ((0 : Int32) + ((p4 &&& (2147483647 : Int32)) % (3 : Int32)))), (.int (1 : Int32))])) (fun t ht => ?_) ?_
    · refine XS.istore X0.here hx rfl (hb hby at_6) rfl (l' := #[.val (.int p0), .val (.int p1), .val (.int p2), .val (.int p3), .val (.int p4), .val (.int p5), .val (.int (0 : Int32)), .unset, .unset, .unset, .unset, .unset, .unset]) rfl ?_
      show Steps p.tables e below (s₁.setTop (mkF m 8 #[.val (.int p0), .val (.int p1), .val (.int p2), .val (.int p3), .val (.int p4), .val (.int p5), .val (.int (0 : Int32)), .unset, .unset, .unset, .unset, .unset, .unset] [])) _
      refine XS.iconst X0.here hx rfl (hb hby at_8) ?_
      show Steps p.tables e below (s₁.setTop (mkF m 9 _ [(.int (1 : Int32))])) _
      refine XS.iload X0.here hx rfl (hb hby at_9) rfl ?_
      show Steps p.tables e below (s₁.setTop (mkF m 11 _ [(.int (0 : Int32)), (.int (1 : Int32))])) _
      refine XS.iload X0.here hx rfl (hb hby at_11) rfl ?_
      show Steps p.tables e below (s₁.setTop (mkF m 13 _ [(.int p4), (.int (0 : Int32)), (.int (1 : Int32))])) _
      refine X0.ldcInt hx hown (mvT hZ (hw _ (List.mem_of_getElem? (i := 0) rfl))) (g := (mkF m 13 #[.val (.int p0), .val (.int p1), .val (.int p2), .val (.int p3), .val (.int p4), .val (.int p5), .val (.int (0 : Int32)), .unset, .unset, .unset, .unset, .unset, .unset] [(.int p4), (.int (0 : Int32)), (.int (1 : Int32))])) rfl (hb hby at_13) _ ?_
      show Steps p.tables e below (s₁.setTop (mkF m 15 _ [(.int (2147483647 : Int32)), (.int p4), (.int (0 : Int32)), (.int (1 : Int32))])) _
      refine XS.iand X0.here hx rfl (hb hby at_15) rfl ?_
      show Steps p.tables e below (s₁.setTop (mkF m 16 _ [(.int (p4 &&& (2147483647 : Int32))), (.int (0 : Int32)), (.int (1 : Int32))])) _
      refine XS.iconst X0.here hx rfl (hb hby at_16) ?_
      show Steps p.tables e below (s₁.setTop (mkF m 17 _ [(.int (3 : Int32)), (.int (p4 &&& (2147483647 : Int32))), (.int (0 : Int32)), (.int (1 : Int32))])) _
      refine iremM X0 hx rfl (hb hby at_17) rfl (by decide) ?_
      show Steps p.tables e below (s₁.setTop (mkF m 18 _ [(.int ((p4 &&& (2147483647 : Int32)) % (3 : Int32))), (.int (0 : Int32)), (.int (1 : Int32))])) _
      refine XS.iadd X0.here hx rfl (hb hby at_18) rfl ?_
      exact ht
    obtain ⟨_, _, ⟨T2, L2, k2, n2⟩, -, X2, ⟨Lc2, hQ2, l2, y2, z2⟩, st2⟩ := Jvm.LawKit.callS X0 hx (y := (⟨"java/lang/Math", "max", "(II)I"⟩ : MethodName)) hown (mvT hZ (hw _ (List.mem_of_getElem? (i := 1) rfl))) (mvT hZ (hw _ (List.mem_of_getElem? (i := 2) rfl))) (mvT hZ (hw _ (List.mem_of_getElem? (i := 3) rfl))) (mvT hZ (hw _ (List.mem_of_getElem? (i := 4) rfl))) (by decide) (backOf (W := 0) (rmMx l Z _ hw [] (1 : Int32) ((0 : Int32) + ((p4 &&& (2147483647 : Int32)) % (3 : Int32))) h0 n0 Z0 ) hZ (hw _ (List.mem_of_getElem? (i := 4) rfl)) (hw _ (List.mem_of_getElem? (i := 3) rfl)) (by decide) (by decide)) (g := (mkF m 19 #[.val (.int p0), .val (.int p1), .val (.int p2), .val (.int p3), .val (.int p4), .val (.int p5), .val (.int (0 : Int32)), .unset, .unset, .unset, .unset, .unset, .unset] [(.int ((0 : Int32) + ((p4 &&& (2147483647 : Int32)) % (3 : Int32)))), (.int (1 : Int32))])) rfl (by rw [hml]; rfl) (argsL := [(.int (1 : Int32)), (.int ((0 : Int32) + ((p4 &&& (2147483647 : Int32)) % (3 : Int32))))]) (rest := []) (lenOf pd_0 rfl) rfl (by show 2 * 0 + _ ≤ _; exact Nat.le_of_eq rfl) (hb hby at_19) (fun _ _ => ⟨rfl, e0, (by decide : 0 + 0 ≤ _), (by decide : 0 + 0 ≤ _)⟩)
    dsimp only [Pt.U, Pt.locs, Pt.cells, Pt.slots] at X2 l2 y2 z2 st2 hQ2
    subst l2 y2 z2
    obtain ⟨rfl, Nq2, hs2⟩ := hQ2
    have N3 := Fr.app N0 Nq2
    refine OFin.of (S' := T2.setTop (mkF m 22 #[.val (.int p0), .val (.int p1), .val (.int p2), .val (.int p3), .val (.int p4), .val (.int p5), .val (.int (0 : Int32)), .unset, .unset, .unset, .unset, .unset, .unset] [(.int (own_max (1 : Int32) ((0 : Int32) + ((p4 &&& (2147483647 : Int32)) % (3 : Int32)))))])) (fun t ht => st2 t ht) ?_
    have hT := own_T (0 : Int32) p4 (by decide) (by decide)
    refine OFin.of (S' := T2.setTop (mkF m 38 #[.val (.int p0), .val (.int p1), .val (.int p2), .val (.int p3), .val (.int p4), .val (.int p5), .val (.int (0 : Int32)), .val (.int (own_max (1 : Int32) ((0 : Int32) + ((p4 &&& (2147483647 : Int32)) % (3 : Int32))))), .val (.int ((1 : Int32) + ((p5 &&& (2147483647 : Int32)) % (own_max (1 : Int32) ((0 : Int32) + ((p4 &&& (2147483647 : Int32)) % (3 : Int32))))))), .unset, .unset, .unset, .unset] [(.int (0 : Int32))])) (fun t ht => ?_) ?_
    · refine XS.istore X2.here hx rfl (hb hby at_22) rfl (l' := #[.val (.int p0), .val (.int p1), .val (.int p2), .val (.int p3), .val (.int p4), .val (.int p5), .val (.int (0 : Int32)), .val (.int (own_max (1 : Int32) ((0 : Int32) + ((p4 &&& (2147483647 : Int32)) % (3 : Int32))))), .unset, .unset, .unset, .unset, .unset]) rfl ?_
      show Steps p.tables e below (T2.setTop (mkF m 24 #[.val (.int p0), .val (.int p1), .val (.int p2), .val (.int p3), .val (.int p4), .val (.int p5), .val (.int (0 : Int32)), .val (.int (own_max (1 : Int32) ((0 : Int32) + ((p4 &&& (2147483647 : Int32)) % (3 : Int32))))), .unset, .unset, .unset, .unset, .unset] [])) _
      refine XS.iconst X2.here hx rfl (hb hby at_24) ?_
      show Steps p.tables e below (T2.setTop (mkF m 25 _ [(.int (1 : Int32))])) _
      refine XS.iload X2.here hx rfl (hb hby at_25) rfl ?_
      show Steps p.tables e below (T2.setTop (mkF m 27 _ [(.int p5), (.int (1 : Int32))])) _
      refine X2.ldcInt hx hown (mvT hZ (hw _ (List.mem_of_getElem? (i := 0) rfl))) (g := (mkF m 27 #[.val (.int p0), .val (.int p1), .val (.int p2), .val (.int p3), .val (.int p4), .val (.int p5), .val (.int (0 : Int32)), .val (.int (own_max (1 : Int32) ((0 : Int32) + ((p4 &&& (2147483647 : Int32)) % (3 : Int32))))), .unset, .unset, .unset, .unset, .unset] [(.int p5), (.int (1 : Int32))])) rfl (hb hby at_27) _ ?_
      show Steps p.tables e below (T2.setTop (mkF m 29 _ [(.int (2147483647 : Int32)), (.int p5), (.int (1 : Int32))])) _
      refine XS.iand X2.here hx rfl (hb hby at_29) rfl ?_
      show Steps p.tables e below (T2.setTop (mkF m 30 _ [(.int (p5 &&& (2147483647 : Int32))), (.int (1 : Int32))])) _
      refine XS.iload X2.here hx rfl (hb hby at_30) rfl ?_
      show Steps p.tables e below (T2.setTop (mkF m 32 _ [(.int (own_max (1 : Int32) ((0 : Int32) + ((p4 &&& (2147483647 : Int32)) % (3 : Int32))))), (.int (p5 &&& (2147483647 : Int32))), (.int (1 : Int32))])) _
      refine iremM X2 hx rfl (hb hby at_32) rfl (own_nz hT.1) ?_
      show Steps p.tables e below (T2.setTop (mkF m 33 _ [(.int ((p5 &&& (2147483647 : Int32)) % (own_max (1 : Int32) ((0 : Int32) + ((p4 &&& (2147483647 : Int32)) % (3 : Int32)))))), (.int (1 : Int32))])) _
      refine XS.iadd X2.here hx rfl (hb hby at_33) rfl ?_
      show Steps p.tables e below (T2.setTop (mkF m 34 _ [(.int ((1 : Int32) + ((p5 &&& (2147483647 : Int32)) % (own_max (1 : Int32) ((0 : Int32) + ((p4 &&& (2147483647 : Int32)) % (3 : Int32)))))))])) _
      refine XS.istore X2.here hx rfl (hb hby at_34) rfl (l' := #[.val (.int p0), .val (.int p1), .val (.int p2), .val (.int p3), .val (.int p4), .val (.int p5), .val (.int (0 : Int32)), .val (.int (own_max (1 : Int32) ((0 : Int32) + ((p4 &&& (2147483647 : Int32)) % (3 : Int32))))), .val (.int ((1 : Int32) + ((p5 &&& (2147483647 : Int32)) % (own_max (1 : Int32) ((0 : Int32) + ((p4 &&& (2147483647 : Int32)) % (3 : Int32))))))), .unset, .unset, .unset, .unset]) rfl ?_
      show Steps p.tables e below (T2.setTop (mkF m 36 #[.val (.int p0), .val (.int p1), .val (.int p2), .val (.int p3), .val (.int p4), .val (.int p5), .val (.int (0 : Int32)), .val (.int (own_max (1 : Int32) ((0 : Int32) + ((p4 &&& (2147483647 : Int32)) % (3 : Int32))))), .val (.int ((1 : Int32) + ((p5 &&& (2147483647 : Int32)) % (own_max (1 : Int32) ((0 : Int32) + ((p4 &&& (2147483647 : Int32)) % (3 : Int32))))))), .unset, .unset, .unset, .unset] [])) _
      refine XS.iload X2.here hx rfl (hb hby at_36) rfl ?_
      exact ht
    obtain ⟨T4, h4, k4, X4, e4, E4, A4, st4⟩ := newP X2 hx hZ (hw _ (List.mem_of_getElem? (i := 5) rfl)) hs2 (g := (mkF m 38 #[.val (.int p0), .val (.int p1), .val (.int p2), .val (.int p3), .val (.int p4), .val (.int p5), .val (.int (0 : Int32)), .val (.int (own_max (1 : Int32) ((0 : Int32) + ((p4 &&& (2147483647 : Int32)) % (3 : Int32))))), .val (.int ((1 : Int32) + ((p5 &&& (2147483647 : Int32)) % (own_max (1 : Int32) ((0 : Int32) + ((p4 &&& (2147483647 : Int32)) % (3 : Int32))))))), .unset, .unset, .unset, .unset] [(.int (0 : Int32))])) rfl (hb hby at_38) rfl (by decide) (cap := 0) (by decide) (by decide) (by decide) (by decide)
    obtain ⟨b4, gq4⟩ : ∃ z, z = h0.size := ⟨_, rfl⟩
    rw [← gq4] at A4 st4
    have g5 : n0 ≤ b4 := (Nat.le_trans Z0 (Nat.le_of_eq gq4.symm))
    have Z6 : n0 ≤ h4.size := (Nat.le_trans Z0 E4.1)
    have f7 : Arv Z h4 b4 k4 .int (0 : Int32) [] (.int (0 : Int32)) := ((Arv.new A4 (by decide)).pad (pad_rep [] (.int (0 : Int32)) 0))
    refine OFin.of (S' := T4.setTop (mkF m 40 #[.val (.int p0), .val (.int p1), .val (.int p2), .val (.int p3), .val (.int p4), .val (.int p5), .val (.int (0 : Int32)), .val (.int (own_max (1 : Int32) ((0 : Int32) + ((p4 &&& (2147483647 : Int32)) % (3 : Int32))))), .val (.int ((1 : Int32) + ((p5 &&& (2147483647 : Int32)) % (own_max (1 : Int32) ((0 : Int32) + ((p4 &&& (2147483647 : Int32)) % (3 : Int32))))))), .unset, .unset, .unset, .unset] [(.ref b4)])) (fun t ht => st4 t ht) ?_
    refine OFin.of (S' := T4.setTop (mkF m 82 #[.val (.int p0), .val (.int p1), .val (.int p2), .val (.int p3), .val (.int p4), .val (.int p5), .val (.int (0 : Int32)), .val (.int (own_max (1 : Int32) ((0 : Int32) + ((p4 &&& (2147483647 : Int32)) % (3 : Int32))))), .val (.int ((1 : Int32) + ((p5 &&& (2147483647 : Int32)) % (own_max (1 : Int32) ((0 : Int32) + ((p4 &&& (2147483647 : Int32)) % (3 : Int32))))))), .val (.ref b4), .unset, .unset, .unset] [(.int ((1 : Int32) + ((p5 &&& (2147483647 : Int32)) % (own_max (1 : Int32) ((0 : Int32) + ((p4 &&& (2147483647 : Int32)) % (3 : Int32))))))), (.int (0 : Int32)), (.int p2), (.int p1), (.int p0)])) (fun t ht => ?_) ?_
    · refine XS.astore X4.here hx rfl (hb hby at_40) rfl rfl (l' := #[.val (.int p0), .val (.int p1), .val (.int p2), .val (.int p3), .val (.int p4), .val (.int p5), .val (.int (0 : Int32)), .val (.int (own_max (1 : Int32) ((0 : Int32) + ((p4 &&& (2147483647 : Int32)) % (3 : Int32))))), .val (.int ((1 : Int32) + ((p5 &&& (2147483647 : Int32)) % (own_max (1 : Int32) ((0 : Int32) + ((p4 &&& (2147483647 : Int32)) % (3 : Int32))))))), .val (.ref b4), .unset, .unset, .unset]) rfl ?_
      show Steps p.tables e below (T4.setTop (mkF m 42 #[.val (.int p0), .val (.int p1), .val (.int p2), .val (.int p3), .val (.int p4), .val (.int p5), .val (.int (0 : Int32)), .val (.int (own_max (1 : Int32) ((0 : Int32) + ((p4 &&& (2147483647 : Int32)) % (3 : Int32))))), .val (.int ((1 : Int32) + ((p5 &&& (2147483647 : Int32)) % (own_max (1 : Int32) ((0 : Int32) + ((p4 &&& (2147483647 : Int32)) % (3 : Int32))))))), .val (.ref b4), .unset, .unset, .unset] [])) _
      refine XS.iload X4.here hx rfl (hb hby at_42) rfl ?_
      show Steps p.tables e below (T4.setTop (mkF m 44 _ [(.int (0 : Int32))])) _
      refine XS.iconst X4.here hx rfl (hb hby at_44) ?_
      show Steps p.tables e below (T4.setTop (mkF m 45 _ [(.int (1 : Int32)), (.int (0 : Int32))])) _
      refine XS.icmpYes X4.here hx rfl (pc0 := 45) (pc' := 53) rfl (hb hby at_45) rfl (tlt (by decide : (0 : Int32) < (1 : Int32))).1 (by decide) (by decide) ?_
      show Steps p.tables e below (T4.setTop (mkF m 53 _ [])) _
      refine XS.iload X4.here hx rfl (hb hby at_53) rfl ?_
      show Steps p.tables e below (T4.setTop (mkF m 55 _ [(.int (0 : Int32))])) _
      refine XS.iconst X4.here hx rfl (hb hby at_55) ?_
      show Steps p.tables e below (T4.setTop (mkF m 56 _ [(.int (2 : Int32)), (.int (0 : Int32))])) _
      refine XS.icmpYes X4.here hx rfl (pc0 := 56) (pc' := 64) rfl (hb hby at_56) rfl (tlt (by decide : (0 : Int32) < (2 : Int32))).1 (by decide) (by decide) ?_
      show Steps p.tables e below (T4.setTop (mkF m 64 _ [])) _
      refine XS.iload X4.here hx rfl (hb hby at_64) rfl ?_
      show Steps p.tables e below (T4.setTop (mkF m 66 _ [(.int (0 : Int32))])) _
      refine XS.iconst X4.here hx rfl (hb hby at_66) ?_
      show Steps p.tables e below (T4.setTop (mkF m 67 _ [(.int (3 : Int32)), (.int (0 : Int32))])) _
      refine XS.icmpYes X4.here hx rfl (pc0 := 67) (pc' := 75) rfl (hb hby at_67) rfl (tlt (by decide : (0 : Int32) < (3 : Int32))).1 (by decide) (by decide) ?_
      show Steps p.tables e below (T4.setTop (mkF m 75 _ [])) _
      refine XS.iloadN X4.here hx rfl (hb hby at_75) rfl ?_
      show Steps p.tables e below (T4.setTop (mkF m 76 _ [(.int p0)])) _
      refine XS.iloadN X4.here hx rfl (hb hby at_76) rfl ?_
      show Steps p.tables e below (T4.setTop (mkF m 77 _ [(.int p1), (.int p0)])) _
      refine XS.iloadN X4.here hx rfl (hb hby at_77) rfl ?_
      show Steps p.tables e below (T4.setTop (mkF m 78 _ [(.int p2), (.int p1), (.int p0)])) _
      refine XS.iload X4.here hx rfl (hb hby at_78) rfl ?_
      show Steps p.tables e below (T4.setTop (mkF m 80 _ [(.int (0 : Int32)), (.int p2), (.int p1), (.int p0)])) _
      refine XS.iload X4.here hx rfl (hb hby at_80) rfl ?_
      exact ht
    obtain ⟨_, _, ⟨T8, L8, k8, n8⟩, -, X8, ⟨Lc8, hQ8, l8, y8, z8⟩, st8⟩ := Jvm.LawKit.callS X4 hx (y := (⟨"com/example/kindred_mesh/kindredmesh/simulation/FloodResultSentAtPinLaw", "expect", "(IIIII)I"⟩ : MethodName)) hown (mvT hZ (hw _ (List.mem_of_getElem? (i := 6) rfl))) (mvT hZ (hw _ (List.mem_of_getElem? (i := 7) rfl))) (mvT hZ (hw _ (List.mem_of_getElem? (i := 8) rfl))) (mvT hZ (hw _ (List.mem_of_getElem? (i := 9) rfl))) (by decide) (backOf (W := 0) (rmEx l Z _ hw [] p0 p1 p2 (0 : Int32) ((1 : Int32) + ((p5 &&& (2147483647 : Int32)) % (own_max (1 : Int32) ((0 : Int32) + ((p4 &&& (2147483647 : Int32)) % (3 : Int32)))))) h4 n0 Z6 ) hZ (hw _ (List.mem_of_getElem? (i := 9) rfl)) (hw _ (List.mem_of_getElem? (i := 8) rfl)) (by decide) (by decide)) (g := (mkF m 82 #[.val (.int p0), .val (.int p1), .val (.int p2), .val (.int p3), .val (.int p4), .val (.int p5), .val (.int (0 : Int32)), .val (.int (own_max (1 : Int32) ((0 : Int32) + ((p4 &&& (2147483647 : Int32)) % (3 : Int32))))), .val (.int ((1 : Int32) + ((p5 &&& (2147483647 : Int32)) % (own_max (1 : Int32) ((0 : Int32) + ((p4 &&& (2147483647 : Int32)) % (3 : Int32))))))), .val (.ref b4), .unset, .unset, .unset] [(.int ((1 : Int32) + ((p5 &&& (2147483647 : Int32)) % (own_max (1 : Int32) ((0 : Int32) + ((p4 &&& (2147483647 : Int32)) % (3 : Int32))))))), (.int (0 : Int32)), (.int p2), (.int p1), (.int p0)])) rfl (by rw [hml]; rfl) (argsL := [(.int p0), (.int p1), (.int p2), (.int (0 : Int32)), (.int ((1 : Int32) + ((p5 &&& (2147483647 : Int32)) % (own_max (1 : Int32) ((0 : Int32) + ((p4 &&& (2147483647 : Int32)) % (3 : Int32)))))))]) (rest := []) (lenOf pd_1 rfl) rfl (by show 2 * 0 + _ ≤ _; exact Nat.le_of_eq rfl) (hb hby at_82) (fun _ _ => ⟨rfl, e4, (by decide : 1 + 0 ≤ _), (by decide : 0 + 0 ≤ _)⟩)
    dsimp only [Pt.U, Pt.locs, Pt.cells, Pt.slots] at X8 l8 y8 z8 st8 hQ8
    subst l8 y8 z8
    obtain ⟨rfl, Nq8, hs8⟩ := hQ8
    have N9 := Fr.app N3 Nq8
    refine OFin.of (S' := T8.setTop (mkF m 85 #[.val (.int p0), .val (.int p1), .val (.int p2), .val (.int p3), .val (.int p4), .val (.int p5), .val (.int (0 : Int32)), .val (.int (own_max (1 : Int32) ((0 : Int32) + ((p4 &&& (2147483647 : Int32)) % (3 : Int32))))), .val (.int ((1 : Int32) + ((p5 &&& (2147483647 : Int32)) % (own_max (1 : Int32) ((0 : Int32) + ((p4 &&& (2147483647 : Int32)) % (3 : Int32))))))), .val (.ref b4), .unset, .unset, .unset] [(.int (own_exp p0 p1 p2 (0 : Int32) ((1 : Int32) + ((p5 &&& (2147483647 : Int32)) % (own_max (1 : Int32) ((0 : Int32) + ((p4 &&& (2147483647 : Int32)) % (3 : Int32))))))))])) (fun t ht => st8 t ht) ?_
    refine OFin.of (S' := T8.setTop (mkF m 87 #[.val (.int p0), .val (.int p1), .val (.int p2), .val (.int p3), .val (.int p4), .val (.int p5), .val (.int (0 : Int32)), .val (.int (own_max (1 : Int32) ((0 : Int32) + ((p4 &&& (2147483647 : Int32)) % (3 : Int32))))), .val (.int ((1 : Int32) + ((p5 &&& (2147483647 : Int32)) % (own_max (1 : Int32) ((0 : Int32) + ((p4 &&& (2147483647 : Int32)) % (3 : Int32))))))), .val (.ref b4), .val (.int (own_exp p0 p1 p2 (0 : Int32) ((1 : Int32) + ((p5 &&& (2147483647 : Int32)) % (own_max (1 : Int32) ((0 : Int32) + ((p4 &&& (2147483647 : Int32)) % (3 : Int32)))))))), .unset, .unset] [])) (fun t ht => ?_) ?_
    · refine XS.istore X8.here hx rfl (hb hby at_85) rfl (l' := #[.val (.int p0), .val (.int p1), .val (.int p2), .val (.int p3), .val (.int p4), .val (.int p5), .val (.int (0 : Int32)), .val (.int (own_max (1 : Int32) ((0 : Int32) + ((p4 &&& (2147483647 : Int32)) % (3 : Int32))))), .val (.int ((1 : Int32) + ((p5 &&& (2147483647 : Int32)) % (own_max (1 : Int32) ((0 : Int32) + ((p4 &&& (2147483647 : Int32)) % (3 : Int32))))))), .val (.ref b4), .val (.int (own_exp p0 p1 p2 (0 : Int32) ((1 : Int32) + ((p5 &&& (2147483647 : Int32)) % (own_max (1 : Int32) ((0 : Int32) + ((p4 &&& (2147483647 : Int32)) % (3 : Int32)))))))), .unset, .unset]) rfl ?_
      exact ht
    obtain ⟨T10, h10, X10, e10, E10, A10, D10, -, st10⟩ := newO X8 hx hZ hown (hw _ (List.mem_of_getElem? (i := 10) rfl)) (hw _ (List.mem_of_getElem? (i := 11) rfl)) (hw _ (List.mem_of_getElem? (i := 12) rfl)) hs8 (g := (mkF m 87 #[.val (.int p0), .val (.int p1), .val (.int p2), .val (.int p3), .val (.int p4), .val (.int p5), .val (.int (0 : Int32)), .val (.int (own_max (1 : Int32) ((0 : Int32) + ((p4 &&& (2147483647 : Int32)) % (3 : Int32))))), .val (.int ((1 : Int32) + ((p5 &&& (2147483647 : Int32)) % (own_max (1 : Int32) ((0 : Int32) + ((p4 &&& (2147483647 : Int32)) % (3 : Int32))))))), .val (.ref b4), .val (.int (own_exp p0 p1 p2 (0 : Int32) ((1 : Int32) + ((p5 &&& (2147483647 : Int32)) % (own_max (1 : Int32) ((0 : Int32) + ((p4 &&& (2147483647 : Int32)) % (3 : Int32)))))))), .unset, .unset] [])) rfl (hb hby at_87) (by decide) (by decide)
    obtain ⟨b10, gq10⟩ : ∃ z, z = h4.size := ⟨_, rfl⟩
    rw [← gq10] at A10 D10 st10
    have g11 : n0 ≤ b10 := (Nat.le_trans Z6 (Nat.le_of_eq gq10.symm))
    have ne12 : b4 ≠ b10 := (Nat.ne_of_lt (Nat.lt_of_lt_of_le f7.lt (Nat.le_of_eq gq10.symm)))
    have f13 := f7.ext E10
    have Z14 : n0 ≤ h10.size := (Nat.le_trans Z6 E10.1)
    have f15 : Fld Z h10 b10 "com/example/kindred_mesh/kindredmesh/simulation/FloodResult" "ttl" "I" (.int (0 : Int32)) := D10 (Or.inr (hw _ (List.mem_of_getElem? (i := 20) rfl))) (ty := .int) (by decide)
    have f16 : Fld Z h10 b10 "com/example/kindred_mesh/kindredmesh/simulation/FloodResult" "sent" "[I" .null := D10 (Or.inr (hw _ (List.mem_of_getElem? (i := 22) rfl))) (ty := (.array .int)) (by decide)
    have f17 : Fld Z h10 b10 "com/example/kindred_mesh/kindredmesh/simulation/FloodResult" "reached" "I" (.int (0 : Int32)) := D10 (Or.inr (hw _ (List.mem_of_getElem? (i := 24) rfl))) (ty := .int) (by decide)
    refine OFin.of (S' := T10.setTop (mkF m 90 #[.val (.int p0), .val (.int p1), .val (.int p2), .val (.int p3), .val (.int p4), .val (.int p5), .val (.int (0 : Int32)), .val (.int (own_max (1 : Int32) ((0 : Int32) + ((p4 &&& (2147483647 : Int32)) % (3 : Int32))))), .val (.int ((1 : Int32) + ((p5 &&& (2147483647 : Int32)) % (own_max (1 : Int32) ((0 : Int32) + ((p4 &&& (2147483647 : Int32)) % (3 : Int32))))))), .val (.ref b4), .val (.int (own_exp p0 p1 p2 (0 : Int32) ((1 : Int32) + ((p5 &&& (2147483647 : Int32)) % (own_max (1 : Int32) ((0 : Int32) + ((p4 &&& (2147483647 : Int32)) % (3 : Int32)))))))), .unset, .unset] [(.ref b10)])) (fun t ht => st10 t ht) ?_
    refine OFin.of (S' := T10.setTop (mkF m 96 #[.val (.int p0), .val (.int p1), .val (.int p2), .val (.int p3), .val (.int p4), .val (.int p5), .val (.int (0 : Int32)), .val (.int (own_max (1 : Int32) ((0 : Int32) + ((p4 &&& (2147483647 : Int32)) % (3 : Int32))))), .val (.int ((1 : Int32) + ((p5 &&& (2147483647 : Int32)) % (own_max (1 : Int32) ((0 : Int32) + ((p4 &&& (2147483647 : Int32)) % (3 : Int32))))))), .val (.ref b4), .val (.int (own_exp p0 p1 p2 (0 : Int32) ((1 : Int32) + ((p5 &&& (2147483647 : Int32)) % (own_max (1 : Int32) ((0 : Int32) + ((p4 &&& (2147483647 : Int32)) % (3 : Int32)))))))), .unset, .unset] [(.int (0 : Int32)), (.ref b4), (.int (own_max (1 : Int32) ((0 : Int32) + ((p4 &&& (2147483647 : Int32)) % (3 : Int32))))), (.ref b10), (.ref b10)])) (fun t ht => ?_) ?_
    · refine XS.dup X10.here hx rfl (hb hby at_90) rfl rfl ?_
      show Steps p.tables e below (T10.setTop (mkF m 91 _ [(.ref b10), (.ref b10)])) _
      refine XS.iload X10.here hx rfl (hb hby at_91) rfl ?_
      show Steps p.tables e below (T10.setTop (mkF m 93 _ [(.int (own_max (1 : Int32) ((0 : Int32) + ((p4 &&& (2147483647 : Int32)) % (3 : Int32))))), (.ref b10), (.ref b10)])) _
      refine XS.aload X10.here hx rfl (hb hby at_93) rfl rfl ?_
      show Steps p.tables e below (T10.setTop (mkF m 95 _ [(.ref b4), (.int (own_max (1 : Int32) ((0 : Int32) + ((p4 &&& (2147483647 : Int32)) % (3 : Int32))))), (.ref b10), (.ref b10)])) _
      refine XS.iconst X10.here hx rfl (hb hby at_95) ?_
      exact ht
    obtain ⟨_, _, ⟨T18, L18, k18, n18⟩, -, X18, ⟨Lc18, hQ18, l18, y18, z18⟩, st18⟩ := X10.specialBack hx (y := (⟨"com/example/kindred_mesh/kindredmesh/simulation/FloodResult", "<init>", "(I[II)V"⟩ : MethodName)) rfl hown (mvT hZ (hw _ (List.mem_of_getElem? (i := 13) rfl))) (mvT hZ (hw _ (List.mem_of_getElem? (i := 14) rfl))) (mvT hZ (hw _ (List.mem_of_getElem? (i := 15) rfl))) (by decide) (backOf (W := 1) (rmIni l Z _ hw [] b10 (own_max (1 : Int32) ((0 : Int32) + ((p4 &&& (2147483647 : Int32)) % (3 : Int32)))) b4 (0 : Int32) h10 n0 Z14 A10 f15 f16 f17 g11) hZ (hw _ (List.mem_of_getElem? (i := 15) rfl)) (hw _ (List.mem_of_getElem? (i := 12) rfl)) (by decide) (by decide)) (g := (mkF m 96 #[.val (.int p0), .val (.int p1), .val (.int p2), .val (.int p3), .val (.int p4), .val (.int p5), .val (.int (0 : Int32)), .val (.int (own_max (1 : Int32) ((0 : Int32) + ((p4 &&& (2147483647 : Int32)) % (3 : Int32))))), .val (.int ((1 : Int32) + ((p5 &&& (2147483647 : Int32)) % (own_max (1 : Int32) ((0 : Int32) + ((p4 &&& (2147483647 : Int32)) % (3 : Int32))))))), .val (.ref b4), .val (.int (own_exp p0 p1 p2 (0 : Int32) ((1 : Int32) + ((p5 &&& (2147483647 : Int32)) % (own_max (1 : Int32) ((0 : Int32) + ((p4 &&& (2147483647 : Int32)) % (3 : Int32)))))))), .unset, .unset] [(.int (0 : Int32)), (.ref b4), (.int (own_max (1 : Int32) ((0 : Int32) + ((p4 &&& (2147483647 : Int32)) % (3 : Int32))))), (.ref b10), (.ref b10)])) rfl (by rw [hml]; rfl) (Steps.refl _) (a := b10) (argsL := [(.int (own_max (1 : Int32) ((0 : Int32) + ((p4 &&& (2147483647 : Int32)) % (3 : Int32))))), (.ref b4), (.int (0 : Int32))]) (rest := [(.ref b10)]) (lenOf pd_2 rfl) rfl (by show 2 * 0 + _ ≤ _; exact Nat.le_of_eq rfl) (hb hby at_96) (fun _ _ => ⟨rfl, e10, (by decide : 2 + 0 ≤ _), (by decide : 3 + 0 ≤ _)⟩)
    dsimp only [Pt.U, Pt.locs, Pt.cells, Pt.slots] at X18 l18 y18 z18 st18 hQ18
    subst l18 y18 z18
    obtain ⟨rfl, Nq18, Kq18, f19, f20, f21⟩ := hQ18
    have N22 := Fr.app N9 Nq18
    have f23 := (f13.keep Kq18 (ninS ne12 nin0))
    have f24 := (A10.keep Kq18)
    have Z25 : n0 ≤ T18.heap.size := (Nat.le_trans Z14 Kq18.1)
    refine OFin.to (S' := T18.setTop (mkF m 99 #[.val (.int p0), .val (.int p1), .val (.int p2), .val (.int p3), .val (.int p4), .val (.int p5), .val (.int (0 : Int32)), .val (.int (own_max (1 : Int32) ((0 : Int32) + ((p4 &&& (2147483647 : Int32)) % (3 : Int32))))), .val (.int ((1 : Int32) + ((p5 &&& (2147483647 : Int32)) % (own_max (1 : Int32) ((0 : Int32) + ((p4 &&& (2147483647 : Int32)) % (3 : Int32))))))), .val (.ref b4), .val (.int (own_exp p0 p1 p2 (0 : Int32) ((1 : Int32) + ((p5 &&& (2147483647 : Int32)) % (own_max (1 : Int32) ((0 : Int32) + ((p4 &&& (2147483647 : Int32)) % (3 : Int32)))))))), .unset, .unset] [(.ref b10)])) st18 ?_
    refine OFin.of (S' := T18.setTop (mkF m 105 #[.val (.int p0), .val (.int p1), .val (.int p2), .val (.int p3), .val (.int p4), .val (.int p5), .val (.int (0 : Int32)), .val (.int (own_max (1 : Int32) ((0 : Int32) + ((p4 &&& (2147483647 : Int32)) % (3 : Int32))))), .val (.int ((1 : Int32) + ((p5 &&& (2147483647 : Int32)) % (own_max (1 : Int32) ((0 : Int32) + ((p4 &&& (2147483647 : Int32)) % (3 : Int32))))))), .val (.ref b4), .val (.int (own_exp p0 p1 p2 (0 : Int32) ((1 : Int32) + ((p5 &&& (2147483647 : Int32)) % (own_max (1 : Int32) ((0 : Int32) + ((p4 &&& (2147483647 : Int32)) % (3 : Int32)))))))), .val (.ref b10), .unset] [(.int ((1 : Int32) + ((p5 &&& (2147483647 : Int32)) % (own_max (1 : Int32) ((0 : Int32) + ((p4 &&& (2147483647 : Int32)) % (3 : Int32))))))), (.ref b10)])) (fun t ht => ?_) ?_
    · refine XS.astore X18.here hx rfl (hb hby at_99) rfl rfl (l' := #[.val (.int p0), .val (.int p1), .val (.int p2), .val (.int p3), .val (.int p4), .val (.int p5), .val (.int (0 : Int32)), .val (.int (own_max (1 : Int32) ((0 : Int32) + ((p4 &&& (2147483647 : Int32)) % (3 : Int32))))), .val (.int ((1 : Int32) + ((p5 &&& (2147483647 : Int32)) % (own_max (1 : Int32) ((0 : Int32) + ((p4 &&& (2147483647 : Int32)) % (3 : Int32))))))), .val (.ref b4), .val (.int (own_exp p0 p1 p2 (0 : Int32) ((1 : Int32) + ((p5 &&& (2147483647 : Int32)) % (own_max (1 : Int32) ((0 : Int32) + ((p4 &&& (2147483647 : Int32)) % (3 : Int32)))))))), .val (.ref b10), .unset]) rfl ?_
      show Steps p.tables e below (T18.setTop (mkF m 101 #[.val (.int p0), .val (.int p1), .val (.int p2), .val (.int p3), .val (.int p4), .val (.int p5), .val (.int (0 : Int32)), .val (.int (own_max (1 : Int32) ((0 : Int32) + ((p4 &&& (2147483647 : Int32)) % (3 : Int32))))), .val (.int ((1 : Int32) + ((p5 &&& (2147483647 : Int32)) % (own_max (1 : Int32) ((0 : Int32) + ((p4 &&& (2147483647 : Int32)) % (3 : Int32))))))), .val (.ref b4), .val (.int (own_exp p0 p1 p2 (0 : Int32) ((1 : Int32) + ((p5 &&& (2147483647 : Int32)) % (own_max (1 : Int32) ((0 : Int32) + ((p4 &&& (2147483647 : Int32)) % (3 : Int32)))))))), .val (.ref b10), .unset] [])) _
      refine XS.aload X18.here hx rfl (hb hby at_101) rfl rfl ?_
      show Steps p.tables e below (T18.setTop (mkF m 103 _ [(.ref b10)])) _
      refine XS.iload X18.here hx rfl (hb hby at_103) rfl ?_
      exact ht
    obtain ⟨cq27, kq27, q27a, q27b, q27c⟩ := isOf hZ (rfl : T18.heap = T18.heap) f24
    obtain ⟨_, _, ⟨T26, L26, k26, n26⟩, -, X26, ⟨Lc26, hQ26, l26, y26, z26⟩, st26⟩ := X18.virtualBack hx (y := (⟨"com/example/kindred_mesh/kindredmesh/simulation/FloodResult", "sentAt", "(I)I"⟩ : MethodName)) (z := (⟨"com/example/kindred_mesh/kindredmesh/simulation/FloodResult", "sentAt", "(I)I"⟩ : MethodName)) hown (mvT hZ (hw _ (List.mem_of_getElem? (i := 25) rfl))) (mvT hZ (hw _ (List.mem_of_getElem? (i := 26) rfl))) (notFace_of_selects (args := #[]) (mvT hZ (hw _ (List.mem_of_getElem? (i := 28) rfl)))) (mvT hZ (hw _ (List.mem_of_getElem? (i := 28) rfl))) (mvT hZ (hw _ (List.mem_of_getElem? (i := 27) rfl))) (by decide) (backOf (W := 0) (rmSa l Z _ hw [] b10 ((1 : Int32) + ((p5 &&& (2147483647 : Int32)) % (own_max (1 : Int32) ((0 : Int32) + ((p4 &&& (2147483647 : Int32)) % (3 : Int32)))))) b4 k4 (0 : Int32) [] (own_exp p0 p1 p2 (0 : Int32) ((1 : Int32) + ((p5 &&& (2147483647 : Int32)) % (own_max (1 : Int32) ((0 : Int32) + ((p4 &&& (2147483647 : Int32)) % (3 : Int32))))))) T18.heap n0 Z25 f20 f23 (own_pos (own_hop _ _ hT.1 hT.2).1) (own_g0 (own_hop _ _ hT.1 hT.2).1)) hZ (hw _ (List.mem_of_getElem? (i := 29) rfl)) (hw _ (List.mem_of_getElem? (i := 12) rfl)) (by decide) (by decide)) q27a q27c (g := (mkF m 105 #[.val (.int p0), .val (.int p1), .val (.int p2), .val (.int p3), .val (.int p4), .val (.int p5), .val (.int (0 : Int32)), .val (.int (own_max (1 : Int32) ((0 : Int32) + ((p4 &&& (2147483647 : Int32)) % (3 : Int32))))), .val (.int ((1 : Int32) + ((p5 &&& (2147483647 : Int32)) % (own_max (1 : Int32) ((0 : Int32) + ((p4 &&& (2147483647 : Int32)) % (3 : Int32))))))), .val (.ref b4), .val (.int (own_exp p0 p1 p2 (0 : Int32) ((1 : Int32) + ((p5 &&& (2147483647 : Int32)) % (own_max (1 : Int32) ((0 : Int32) + ((p4 &&& (2147483647 : Int32)) % (3 : Int32)))))))), .val (.ref b10), .unset] [(.int ((1 : Int32) + ((p5 &&& (2147483647 : Int32)) % (own_max (1 : Int32) ((0 : Int32) + ((p4 &&& (2147483647 : Int32)) % (3 : Int32))))))), (.ref b10)])) rfl (by rw [hml]; rfl) (Steps.refl _) (argsL := [(.int ((1 : Int32) + ((p5 &&& (2147483647 : Int32)) % (own_max (1 : Int32) ((0 : Int32) + ((p4 &&& (2147483647 : Int32)) % (3 : Int32)))))))]) (rest := []) (lenOf pd_3 rfl) rfl (by show 2 * 0 + _ ≤ _; exact Nat.le_of_eq rfl) (hb hby at_105) (fun _ _ => ⟨rfl, (rfl : T18.heap = T18.heap), (by decide : 2 + 0 ≤ _), (by decide : 3 + 0 ≤ _)⟩)
    dsimp only [Pt.U, Pt.locs, Pt.cells, Pt.slots] at X26 l26 y26 z26 st26 hQ26
    subst l26 y26 z26
    obtain ⟨rfl, Nq26, hs26⟩ := hQ26
    have N28 := Fr.app N22 Nq26
    refine OFin.to (S' := T26.setTop (mkF m 108 #[.val (.int p0), .val (.int p1), .val (.int p2), .val (.int p3), .val (.int p4), .val (.int p5), .val (.int (0 : Int32)), .val (.int (own_max (1 : Int32) ((0 : Int32) + ((p4 &&& (2147483647 : Int32)) % (3 : Int32))))), .val (.int ((1 : Int32) + ((p5 &&& (2147483647 : Int32)) % (own_max (1 : Int32) ((0 : Int32) + ((p4 &&& (2147483647 : Int32)) % (3 : Int32))))))), .val (.ref b4), .val (.int (own_exp p0 p1 p2 (0 : Int32) ((1 : Int32) + ((p5 &&& (2147483647 : Int32)) % (own_max (1 : Int32) ((0 : Int32) + ((p4 &&& (2147483647 : Int32)) % (3 : Int32)))))))), .val (.ref b10), .unset] [(.int (own_sent (0 : Int32) ((1 : Int32) + ((p5 &&& (2147483647 : Int32)) % (own_max (1 : Int32) ((0 : Int32) + ((p4 &&& (2147483647 : Int32)) % (3 : Int32)))))) (own_exp p0 p1 p2 (0 : Int32) ((1 : Int32) + ((p5 &&& (2147483647 : Int32)) % (own_max (1 : Int32) ((0 : Int32) + ((p4 &&& (2147483647 : Int32)) % (3 : Int32)))))))))])) st26 ?_
    refine OFin.of (S' := T26.setTop (mkF m 122 #[.val (.int p0), .val (.int p1), .val (.int p2), .val (.int p3), .val (.int p4), .val (.int p5), .val (.int (0 : Int32)), .val (.int (own_max (1 : Int32) ((0 : Int32) + ((p4 &&& (2147483647 : Int32)) % (3 : Int32))))), .val (.int ((1 : Int32) + ((p5 &&& (2147483647 : Int32)) % (own_max (1 : Int32) ((0 : Int32) + ((p4 &&& (2147483647 : Int32)) % (3 : Int32))))))), .val (.ref b4), .val (.int (own_exp p0 p1 p2 (0 : Int32) ((1 : Int32) + ((p5 &&& (2147483647 : Int32)) % (own_max (1 : Int32) ((0 : Int32) + ((p4 &&& (2147483647 : Int32)) % (3 : Int32)))))))), .val (.ref b10), .val (.int (own_sent (0 : Int32) ((1 : Int32) + ((p5 &&& (2147483647 : Int32)) % (own_max (1 : Int32) ((0 : Int32) + ((p4 &&& (2147483647 : Int32)) % (3 : Int32)))))) (own_exp p0 p1 p2 (0 : Int32) ((1 : Int32) + ((p5 &&& (2147483647 : Int32)) % (own_max (1 : Int32) ((0 : Int32) + ((p4 &&& (2147483647 : Int32)) % (3 : Int32)))))))))] [(.int (1 : Int32))])) (fun t ht => ?_) ?_
    · refine XS.istore X26.here hx rfl (hb hby at_108) rfl (l' := #[.val (.int p0), .val (.int p1), .val (.int p2), .val (.int p3), .val (.int p4), .val (.int p5), .val (.int (0 : Int32)), .val (.int (own_max (1 : Int32) ((0 : Int32) + ((p4 &&& (2147483647 : Int32)) % (3 : Int32))))), .val (.int ((1 : Int32) + ((p5 &&& (2147483647 : Int32)) % (own_max (1 : Int32) ((0 : Int32) + ((p4 &&& (2147483647 : Int32)) % (3 : Int32))))))), .val (.ref b4), .val (.int (own_exp p0 p1 p2 (0 : Int32) ((1 : Int32) + ((p5 &&& (2147483647 : Int32)) % (own_max (1 : Int32) ((0 : Int32) + ((p4 &&& (2147483647 : Int32)) % (3 : Int32)))))))), .val (.ref b10), .val (.int (own_sent (0 : Int32) ((1 : Int32) + ((p5 &&& (2147483647 : Int32)) % (own_max (1 : Int32) ((0 : Int32) + ((p4 &&& (2147483647 : Int32)) % (3 : Int32)))))) (own_exp p0 p1 p2 (0 : Int32) ((1 : Int32) + ((p5 &&& (2147483647 : Int32)) % (own_max (1 : Int32) ((0 : Int32) + ((p4 &&& (2147483647 : Int32)) % (3 : Int32)))))))))]) rfl ?_
      show Steps p.tables e below (T26.setTop (mkF m 110 #[.val (.int p0), .val (.int p1), .val (.int p2), .val (.int p3), .val (.int p4), .val (.int p5), .val (.int (0 : Int32)), .val (.int (own_max (1 : Int32) ((0 : Int32) + ((p4 &&& (2147483647 : Int32)) % (3 : Int32))))), .val (.int ((1 : Int32) + ((p5 &&& (2147483647 : Int32)) % (own_max (1 : Int32) ((0 : Int32) + ((p4 &&& (2147483647 : Int32)) % (3 : Int32))))))), .val (.ref b4), .val (.int (own_exp p0 p1 p2 (0 : Int32) ((1 : Int32) + ((p5 &&& (2147483647 : Int32)) % (own_max (1 : Int32) ((0 : Int32) + ((p4 &&& (2147483647 : Int32)) % (3 : Int32)))))))), .val (.ref b10), .val (.int (own_sent (0 : Int32) ((1 : Int32) + ((p5 &&& (2147483647 : Int32)) % (own_max (1 : Int32) ((0 : Int32) + ((p4 &&& (2147483647 : Int32)) % (3 : Int32)))))) (own_exp p0 p1 p2 (0 : Int32) ((1 : Int32) + ((p5 &&& (2147483647 : Int32)) % (own_max (1 : Int32) ((0 : Int32) + ((p4 &&& (2147483647 : Int32)) % (3 : Int32)))))))))] [])) _
      refine XS.iload X26.here hx rfl (hb hby at_110) rfl ?_
      show Steps p.tables e below (T26.setTop (mkF m 112 _ [(.int (own_sent (0 : Int32) ((1 : Int32) + ((p5 &&& (2147483647 : Int32)) % (own_max (1 : Int32) ((0 : Int32) + ((p4 &&& (2147483647 : Int32)) % (3 : Int32)))))) (own_exp p0 p1 p2 (0 : Int32) ((1 : Int32) + ((p5 &&& (2147483647 : Int32)) % (own_max (1 : Int32) ((0 : Int32) + ((p4 &&& (2147483647 : Int32)) % (3 : Int32)))))))))])) _
      refine XS.iload X26.here hx rfl (hb hby at_112) rfl ?_
      show Steps p.tables e below (T26.setTop (mkF m 114 _ [(.int (own_exp p0 p1 p2 (0 : Int32) ((1 : Int32) + ((p5 &&& (2147483647 : Int32)) % (own_max (1 : Int32) ((0 : Int32) + ((p4 &&& (2147483647 : Int32)) % (3 : Int32)))))))), (.int (own_sent (0 : Int32) ((1 : Int32) + ((p5 &&& (2147483647 : Int32)) % (own_max (1 : Int32) ((0 : Int32) + ((p4 &&& (2147483647 : Int32)) % (3 : Int32)))))) (own_exp p0 p1 p2 (0 : Int32) ((1 : Int32) + ((p5 &&& (2147483647 : Int32)) % (own_max (1 : Int32) ((0 : Int32) + ((p4 &&& (2147483647 : Int32)) % (3 : Int32)))))))))])) _
      refine XS.icmpNo X26.here hx rfl (hb hby at_114) rfl (teq (own_law (by decide) : (own_sent (0 : Int32) ((1 : Int32) + ((p5 &&& (2147483647 : Int32)) % (own_max (1 : Int32) ((0 : Int32) + ((p4 &&& (2147483647 : Int32)) % (3 : Int32)))))) (own_exp p0 p1 p2 (0 : Int32) ((1 : Int32) + ((p5 &&& (2147483647 : Int32)) % (own_max (1 : Int32) ((0 : Int32) + ((p4 &&& (2147483647 : Int32)) % (3 : Int32)))))))) = (own_exp p0 p1 p2 (0 : Int32) ((1 : Int32) + ((p5 &&& (2147483647 : Int32)) % (own_max (1 : Int32) ((0 : Int32) + ((p4 &&& (2147483647 : Int32)) % (3 : Int32))))))))).2 ?_
      show Steps p.tables e below (T26.setTop (mkF m 117 _ [])) _
      refine XS.iconst X26.here hx rfl (hb hby at_117) ?_
      show Steps p.tables e below (T26.setTop (mkF m 118 _ [(.int (1 : Int32))])) _
      refine XS.goto X26.here hx rfl (pc0 := 118) (pc' := 122) rfl (hb hby at_118) (by decide) (by decide) ?_
      exact ht
    exact OFin.retB X26 hx hlk (t := .boolean) (by simp) hret (hb hby at_122) (by decide) (by decide) (by rw [hs26]; exact ⟨rfl, N28⟩)
  · rw [hq1]
    refine OFin.of (S' := s₁.setTop (mkF m 19 #[.val (.int p0), .val (.int p1), .val (.int p2), .val (.int p3), .val (.int p4), .val (.int p5), .val (.int (1 : Int32)), .unset, .unset, .unset, .unset, .unset, .unset] [(.int ((1 : Int32) + ((p4 &&& (2147483647 : Int32)) % (3 : Int32)))), (.int (1 : Int32))])) (fun t ht => ?_) ?_
    · refine XS.istore X0.here hx rfl (hb hby at_6) rfl (l' := #[.val (.int p0), .val (.int p1), .val (.int p2), .val (.int p3), .val (.int p4), .val (.int p5), .val (.int (1 : Int32)), .unset, .unset, .unset, .unset, .unset, .unset]) rfl ?_
      show Steps p.tables e below (s₁.setTop (mkF m 8 #[.val (.int p0), .val (.int p1), .val (.int p2), .val (.int p3), .val (.int p4), .val (.int p5), .val (.int (1 : Int32)), .unset, .unset, .unset, .unset, .unset, .unset] [])) _
      refine XS.iconst X0.here hx rfl (hb hby at_8) ?_
      show Steps p.tables e below (s₁.setTop (mkF m 9 _ [(.int (1 : Int32))])) _
      refine XS.iload X0.here hx rfl (hb hby at_9) rfl ?_
      show Steps p.tables e below (s₁.setTop (mkF m 11 _ [(.int (1 : Int32)), (.int (1 : Int32))])) _
      refine XS.iload X0.here hx rfl (hb hby at_11) rfl ?_
      show Steps p.tables e below (s₁.setTop (mkF m 13 _ [(.int p4), (.int (1 : Int32)), (.int (1 : Int32))])) _
      refine X0.ldcInt hx hown (mvT hZ (hw _ (List.mem_of_getElem? (i := 0) rfl))) (g := (mkF m 13 #[.val (.int p0), .val (.int p1), .val (.int p2), .val (.int p3), .val (.int p4), .val (.int p5), .val (.int (1 : Int32)), .unset, .unset, .unset, .unset, .unset, .unset] [(.int p4), (.int (1 : Int32)), (.int (1 : Int32))])) rfl (hb hby at_13) _ ?_
      show Steps p.tables e below (s₁.setTop (mkF m 15 _ [(.int (2147483647 : Int32)), (.int p4), (.int (1 : Int32)), (.int (1 : Int32))])) _
      refine XS.iand X0.here hx rfl (hb hby at_15) rfl ?_
      show Steps p.tables e below (s₁.setTop (mkF m 16 _ [(.int (p4 &&& (2147483647 : Int32))), (.int (1 : Int32)), (.int (1 : Int32))])) _
      refine XS.iconst X0.here hx rfl (hb hby at_16) ?_
      show Steps p.tables e below (s₁.setTop (mkF m 17 _ [(.int (3 : Int32)), (.int (p4 &&& (2147483647 : Int32))), (.int (1 : Int32)), (.int (1 : Int32))])) _
      refine iremM X0 hx rfl (hb hby at_17) rfl (by decide) ?_
      show Steps p.tables e below (s₁.setTop (mkF m 18 _ [(.int ((p4 &&& (2147483647 : Int32)) % (3 : Int32))), (.int (1 : Int32)), (.int (1 : Int32))])) _
      refine XS.iadd X0.here hx rfl (hb hby at_18) rfl ?_
      exact ht
    obtain ⟨_, _, ⟨T29, L29, k29, n29⟩, -, X29, ⟨Lc29, hQ29, l29, y29, z29⟩, st29⟩ := Jvm.LawKit.callS X0 hx (y := (⟨"java/lang/Math", "max", "(II)I"⟩ : MethodName)) hown (mvT hZ (hw _ (List.mem_of_getElem? (i := 1) rfl))) (mvT hZ (hw _ (List.mem_of_getElem? (i := 2) rfl))) (mvT hZ (hw _ (List.mem_of_getElem? (i := 3) rfl))) (mvT hZ (hw _ (List.mem_of_getElem? (i := 4) rfl))) (by decide) (backOf (W := 0) (rmMx l Z _ hw [] (1 : Int32) ((1 : Int32) + ((p4 &&& (2147483647 : Int32)) % (3 : Int32))) h0 n0 Z0 ) hZ (hw _ (List.mem_of_getElem? (i := 4) rfl)) (hw _ (List.mem_of_getElem? (i := 3) rfl)) (by decide) (by decide)) (g := (mkF m 19 #[.val (.int p0), .val (.int p1), .val (.int p2), .val (.int p3), .val (.int p4), .val (.int p5), .val (.int (1 : Int32)), .unset, .unset, .unset, .unset, .unset, .unset] [(.int ((1 : Int32) + ((p4 &&& (2147483647 : Int32)) % (3 : Int32)))), (.int (1 : Int32))])) rfl (by rw [hml]; rfl) (argsL := [(.int (1 : Int32)), (.int ((1 : Int32) + ((p4 &&& (2147483647 : Int32)) % (3 : Int32))))]) (rest := []) (lenOf pd_0 rfl) rfl (by show 2 * 0 + _ ≤ _; exact Nat.le_of_eq rfl) (hb hby at_19) (fun _ _ => ⟨rfl, e0, (by decide : 0 + 0 ≤ _), (by decide : 0 + 0 ≤ _)⟩)
    dsimp only [Pt.U, Pt.locs, Pt.cells, Pt.slots] at X29 l29 y29 z29 st29 hQ29
    subst l29 y29 z29
    obtain ⟨rfl, Nq29, hs29⟩ := hQ29
    have N30 := Fr.app N0 Nq29
    refine OFin.of (S' := T29.setTop (mkF m 22 #[.val (.int p0), .val (.int p1), .val (.int p2), .val (.int p3), .val (.int p4), .val (.int p5), .val (.int (1 : Int32)), .unset, .unset, .unset, .unset, .unset, .unset] [(.int (own_max (1 : Int32) ((1 : Int32) + ((p4 &&& (2147483647 : Int32)) % (3 : Int32)))))])) (fun t ht => st29 t ht) ?_
    have hT := own_T (1 : Int32) p4 (by decide) (by decide)
    refine OFin.of (S' := T29.setTop (mkF m 38 #[.val (.int p0), .val (.int p1), .val (.int p2), .val (.int p3), .val (.int p4), .val (.int p5), .val (.int (1 : Int32)), .val (.int (own_max (1 : Int32) ((1 : Int32) + ((p4 &&& (2147483647 : Int32)) % (3 : Int32))))), .val (.int ((1 : Int32) + ((p5 &&& (2147483647 : Int32)) % (own_max (1 : Int32) ((1 : Int32) + ((p4 &&& (2147483647 : Int32)) % (3 : Int32))))))), .unset, .unset, .unset, .unset] [(.int (1 : Int32))])) (fun t ht => ?_) ?_
    · refine XS.istore X29.here hx rfl (hb hby at_22) rfl (l' := #[.val (.int p0), .val (.int p1), .val (.int p2), .val (.int p3), .val (.int p4), .val (.int p5), .val (.int (1 : Int32)), .val (.int (own_max (1 : Int32) ((1 : Int32) + ((p4 &&& (2147483647 : Int32)) % (3 : Int32))))), .unset, .unset, .unset, .unset, .unset]) rfl ?_
      show Steps p.tables e below (T29.setTop (mkF m 24 #[.val (.int p0), .val (.int p1), .val (.int p2), .val (.int p3), .val (.int p4), .val (.int p5), .val (.int (1 : Int32)), .val (.int (own_max (1 : Int32) ((1 : Int32) + ((p4 &&& (2147483647 : Int32)) % (3 : Int32))))), .unset, .unset, .unset, .unset, .unset] [])) _
      refine XS.iconst X29.here hx rfl (hb hby at_24) ?_
      show Steps p.tables e below (T29.setTop (mkF m 25 _ [(.int (1 : Int32))])) _
      refine XS.iload X29.here hx rfl (hb hby at_25) rfl ?_
      show Steps p.tables e below (T29.setTop (mkF m 27 _ [(.int p5), (.int (1 : Int32))])) _
      refine X29.ldcInt hx hown (mvT hZ (hw _ (List.mem_of_getElem? (i := 0) rfl))) (g := (mkF m 27 #[.val (.int p0), .val (.int p1), .val (.int p2), .val (.int p3), .val (.int p4), .val (.int p5), .val (.int (1 : Int32)), .val (.int (own_max (1 : Int32) ((1 : Int32) + ((p4 &&& (2147483647 : Int32)) % (3 : Int32))))), .unset, .unset, .unset, .unset, .unset] [(.int p5), (.int (1 : Int32))])) rfl (hb hby at_27) _ ?_
      show Steps p.tables e below (T29.setTop (mkF m 29 _ [(.int (2147483647 : Int32)), (.int p5), (.int (1 : Int32))])) _
      refine XS.iand X29.here hx rfl (hb hby at_29) rfl ?_
      show Steps p.tables e below (T29.setTop (mkF m 30 _ [(.int (p5 &&& (2147483647 : Int32))), (.int (1 : Int32))])) _
      refine XS.iload X29.here hx rfl (hb hby at_30) rfl ?_
      show Steps p.tables e below (T29.setTop (mkF m 32 _ [(.int (own_max (1 : Int32) ((1 : Int32) + ((p4 &&& (2147483647 : Int32)) % (3 : Int32))))), (.int (p5 &&& (2147483647 : Int32))), (.int (1 : Int32))])) _
      refine iremM X29 hx rfl (hb hby at_32) rfl (own_nz hT.1) ?_
      show Steps p.tables e below (T29.setTop (mkF m 33 _ [(.int ((p5 &&& (2147483647 : Int32)) % (own_max (1 : Int32) ((1 : Int32) + ((p4 &&& (2147483647 : Int32)) % (3 : Int32)))))), (.int (1 : Int32))])) _
      refine XS.iadd X29.here hx rfl (hb hby at_33) rfl ?_
      show Steps p.tables e below (T29.setTop (mkF m 34 _ [(.int ((1 : Int32) + ((p5 &&& (2147483647 : Int32)) % (own_max (1 : Int32) ((1 : Int32) + ((p4 &&& (2147483647 : Int32)) % (3 : Int32)))))))])) _
      refine XS.istore X29.here hx rfl (hb hby at_34) rfl (l' := #[.val (.int p0), .val (.int p1), .val (.int p2), .val (.int p3), .val (.int p4), .val (.int p5), .val (.int (1 : Int32)), .val (.int (own_max (1 : Int32) ((1 : Int32) + ((p4 &&& (2147483647 : Int32)) % (3 : Int32))))), .val (.int ((1 : Int32) + ((p5 &&& (2147483647 : Int32)) % (own_max (1 : Int32) ((1 : Int32) + ((p4 &&& (2147483647 : Int32)) % (3 : Int32))))))), .unset, .unset, .unset, .unset]) rfl ?_
      show Steps p.tables e below (T29.setTop (mkF m 36 #[.val (.int p0), .val (.int p1), .val (.int p2), .val (.int p3), .val (.int p4), .val (.int p5), .val (.int (1 : Int32)), .val (.int (own_max (1 : Int32) ((1 : Int32) + ((p4 &&& (2147483647 : Int32)) % (3 : Int32))))), .val (.int ((1 : Int32) + ((p5 &&& (2147483647 : Int32)) % (own_max (1 : Int32) ((1 : Int32) + ((p4 &&& (2147483647 : Int32)) % (3 : Int32))))))), .unset, .unset, .unset, .unset] [])) _
      refine XS.iload X29.here hx rfl (hb hby at_36) rfl ?_
      exact ht
    obtain ⟨T31, h31, k31, X31, e31, E31, A31, st31⟩ := newP X29 hx hZ (hw _ (List.mem_of_getElem? (i := 5) rfl)) hs29 (g := (mkF m 38 #[.val (.int p0), .val (.int p1), .val (.int p2), .val (.int p3), .val (.int p4), .val (.int p5), .val (.int (1 : Int32)), .val (.int (own_max (1 : Int32) ((1 : Int32) + ((p4 &&& (2147483647 : Int32)) % (3 : Int32))))), .val (.int ((1 : Int32) + ((p5 &&& (2147483647 : Int32)) % (own_max (1 : Int32) ((1 : Int32) + ((p4 &&& (2147483647 : Int32)) % (3 : Int32))))))), .unset, .unset, .unset, .unset] [(.int (1 : Int32))])) rfl (hb hby at_38) rfl (by decide) (cap := 1) (by decide) (by decide) (by decide) (by decide)
    obtain ⟨b31, gq31⟩ : ∃ z, z = h0.size := ⟨_, rfl⟩
    rw [← gq31] at A31 st31
    have g32 : n0 ≤ b31 := (Nat.le_trans Z0 (Nat.le_of_eq gq31.symm))
    have Z33 : n0 ≤ h31.size := (Nat.le_trans Z0 E31.1)
    have f34 : Arv Z h31 b31 k31 .int (1 : Int32) [(.int (0 : Int32))] (.int (0 : Int32)) := ((Arv.new A31 (by decide)).pad (pad_rep [] (.int (0 : Int32)) 1))
    refine OFin.of (S' := T31.setTop (mkF m 40 #[.val (.int p0), .val (.int p1), .val (.int p2), .val (.int p3), .val (.int p4), .val (.int p5), .val (.int (1 : Int32)), .val (.int (own_max (1 : Int32) ((1 : Int32) + ((p4 &&& (2147483647 : Int32)) % (3 : Int32))))), .val (.int ((1 : Int32) + ((p5 &&& (2147483647 : Int32)) % (own_max (1 : Int32) ((1 : Int32) + ((p4 &&& (2147483647 : Int32)) % (3 : Int32))))))), .unset, .unset, .unset, .unset] [(.ref b31)])) (fun t ht => st31 t ht) ?_
    refine OFin.of (S' := T31.setTop (mkF m 52 #[.val (.int p0), .val (.int p1), .val (.int p2), .val (.int p3), .val (.int p4), .val (.int p5), .val (.int (1 : Int32)), .val (.int (own_max (1 : Int32) ((1 : Int32) + ((p4 &&& (2147483647 : Int32)) % (3 : Int32))))), .val (.int ((1 : Int32) + ((p5 &&& (2147483647 : Int32)) % (own_max (1 : Int32) ((1 : Int32) + ((p4 &&& (2147483647 : Int32)) % (3 : Int32))))))), .val (.ref b31), .unset, .unset, .unset] [(.int p0), (.int (0 : Int32)), (.ref b31)])) (fun t ht => ?_) ?_
    · refine XS.astore X31.here hx rfl (hb hby at_40) rfl rfl (l' := #[.val (.int p0), .val (.int p1), .val (.int p2), .val (.int p3), .val (.int p4), .val (.int p5), .val (.int (1 : Int32)), .val (.int (own_max (1 : Int32) ((1 : Int32) + ((p4 &&& (2147483647 : Int32)) % (3 : Int32))))), .val (.int ((1 : Int32) + ((p5 &&& (2147483647 : Int32)) % (own_max (1 : Int32) ((1 : Int32) + ((p4 &&& (2147483647 : Int32)) % (3 : Int32))))))), .val (.ref b31), .unset, .unset, .unset]) rfl ?_
      show Steps p.tables e below (T31.setTop (mkF m 42 #[.val (.int p0), .val (.int p1), .val (.int p2), .val (.int p3), .val (.int p4), .val (.int p5), .val (.int (1 : Int32)), .val (.int (own_max (1 : Int32) ((1 : Int32) + ((p4 &&& (2147483647 : Int32)) % (3 : Int32))))), .val (.int ((1 : Int32) + ((p5 &&& (2147483647 : Int32)) % (own_max (1 : Int32) ((1 : Int32) + ((p4 &&& (2147483647 : Int32)) % (3 : Int32))))))), .val (.ref b31), .unset, .unset, .unset] [])) _
      refine XS.iload X31.here hx rfl (hb hby at_42) rfl ?_
      show Steps p.tables e below (T31.setTop (mkF m 44 _ [(.int (1 : Int32))])) _
      refine XS.iconst X31.here hx rfl (hb hby at_44) ?_
      show Steps p.tables e below (T31.setTop (mkF m 45 _ [(.int (1 : Int32)), (.int (1 : Int32))])) _
      refine XS.icmpNo X31.here hx rfl (hb hby at_45) rfl (flt (by decide : ¬ ((1 : Int32) < (1 : Int32)))).1 ?_
      show Steps p.tables e below (T31.setTop (mkF m 48 _ [])) _
      refine XS.aload X31.here hx rfl (hb hby at_48) rfl rfl ?_
      show Steps p.tables e below (T31.setTop (mkF m 50 _ [(.ref b31)])) _
      refine XS.iconst X31.here hx rfl (hb hby at_50) ?_
      show Steps p.tables e below (T31.setTop (mkF m 51 _ [(.int (0 : Int32)), (.ref b31)])) _
      refine XS.iloadN X31.here hx rfl (hb hby at_51) rfl ?_
      exact ht
    obtain ⟨cl35, Ar35, q35, S35, Ng35, H35, G35⟩ := id f34
    have hin35 := inb_of (j := (0 : Int32)) S35 ⟨by decide, by decide⟩
    obtain ⟨T35, h35, X35, e35, W35, st35⟩ := stI X31 hx hZ e31 Ar35 (j := (0 : Int32)) hin35 (g := (mkF m 52 #[.val (.int p0), .val (.int p1), .val (.int p2), .val (.int p3), .val (.int p4), .val (.int p5), .val (.int (1 : Int32)), .val (.int (own_max (1 : Int32) ((1 : Int32) + ((p4 &&& (2147483647 : Int32)) % (3 : Int32))))), .val (.int ((1 : Int32) + ((p5 &&& (2147483647 : Int32)) % (own_max (1 : Int32) ((1 : Int32) + ((p4 &&& (2147483647 : Int32)) % (3 : Int32))))))), .val (.ref b31), .unset, .unset, .unset] [(.int p0), (.int (0 : Int32)), (.ref b31)])) rfl rfl (hb hby at_52)
    have Z36 : n0 ≤ h35.size := (Nat.le_trans Z33 (Keep.of_wr W35).1)
    have N37 := Fr.snoc X35 N30 g32
    have f38 : Arv Z h35 b31 k31 .int (1 : Int32) [(.int p0)] (.int (0 : Int32)) := Arv.set Ar35 q35 S35 Ng35 H35 G35 rfl W35 0 rfl (Nat.le_of_ble_eq_true rfl)
    refine OFin.of (S' := T35.setTop (mkF m 53 #[.val (.int p0), .val (.int p1), .val (.int p2), .val (.int p3), .val (.int p4), .val (.int p5), .val (.int (1 : Int32)), .val (.int (own_max (1 : Int32) ((1 : Int32) + ((p4 &&& (2147483647 : Int32)) % (3 : Int32))))), .val (.int ((1 : Int32) + ((p5 &&& (2147483647 : Int32)) % (own_max (1 : Int32) ((1 : Int32) + ((p4 &&& (2147483647 : Int32)) % (3 : Int32))))))), .val (.ref b31), .unset, .unset, .unset] [])) (fun t ht => st35 t ht) ?_
    refine OFin.of (S' := T35.setTop (mkF m 82 #[.val (.int p0), .val (.int p1), .val (.int p2), .val (.int p3), .val (.int p4), .val (.int p5), .val (.int (1 : Int32)), .val (.int (own_max (1 : Int32) ((1 : Int32) + ((p4 &&& (2147483647 : Int32)) % (3 : Int32))))), .val (.int ((1 : Int32) + ((p5 &&& (2147483647 : Int32)) % (own_max (1 : Int32) ((1 : Int32) + ((p4 &&& (2147483647 : Int32)) % (3 : Int32))))))), .val (.ref b31), .unset, .unset, .unset] [(.int ((1 : Int32) + ((p5 &&& (2147483647 : Int32)) % (own_max (1 : Int32) ((1 : Int32) + ((p4 &&& (2147483647 : Int32)) % (3 : Int32))))))), (.int (1 : Int32)), (.int p2), (.int p1), (.int p0)])) (fun t ht => ?_) ?_
    · refine XS.iload X35.here hx rfl (hb hby at_53) rfl ?_
      show Steps p.tables e below (T35.setTop (mkF m 55 _ [(.int (1 : Int32))])) _
      refine XS.iconst X35.here hx rfl (hb hby at_55) ?_
      show Steps p.tables e below (T35.setTop (mkF m 56 _ [(.int (2 : Int32)), (.int (1 : Int32))])) _
      refine XS.icmpYes X35.here hx rfl (pc0 := 56) (pc' := 64) rfl (hb hby at_56) rfl (tlt (by decide : (1 : Int32) < (2 : Int32))).1 (by decide) (by decide) ?_
      show Steps p.tables e below (T35.setTop (mkF m 64 _ [])) _
      refine XS.iload X35.here hx rfl (hb hby at_64) rfl ?_
      show Steps p.tables e below (T35.setTop (mkF m 66 _ [(.int (1 : Int32))])) _
      refine XS.iconst X35.here hx rfl (hb hby at_66) ?_
      show Steps p.tables e below (T35.setTop (mkF m 67 _ [(.int (3 : Int32)), (.int (1 : Int32))])) _
      refine XS.icmpYes X35.here hx rfl (pc0 := 67) (pc' := 75) rfl (hb hby at_67) rfl (tlt (by decide : (1 : Int32) < (3 : Int32))).1 (by decide) (by decide) ?_
      show Steps p.tables e below (T35.setTop (mkF m 75 _ [])) _
      refine XS.iloadN X35.here hx rfl (hb hby at_75) rfl ?_
      show Steps p.tables e below (T35.setTop (mkF m 76 _ [(.int p0)])) _
      refine XS.iloadN X35.here hx rfl (hb hby at_76) rfl ?_
      show Steps p.tables e below (T35.setTop (mkF m 77 _ [(.int p1), (.int p0)])) _
      refine XS.iloadN X35.here hx rfl (hb hby at_77) rfl ?_
      show Steps p.tables e below (T35.setTop (mkF m 78 _ [(.int p2), (.int p1), (.int p0)])) _
      refine XS.iload X35.here hx rfl (hb hby at_78) rfl ?_
      show Steps p.tables e below (T35.setTop (mkF m 80 _ [(.int (1 : Int32)), (.int p2), (.int p1), (.int p0)])) _
      refine XS.iload X35.here hx rfl (hb hby at_80) rfl ?_
      exact ht
    obtain ⟨_, _, ⟨T39, L39, k39, n39⟩, -, X39, ⟨Lc39, hQ39, l39, y39, z39⟩, st39⟩ := Jvm.LawKit.callS X35 hx (y := (⟨"com/example/kindred_mesh/kindredmesh/simulation/FloodResultSentAtPinLaw", "expect", "(IIIII)I"⟩ : MethodName)) hown (mvT hZ (hw _ (List.mem_of_getElem? (i := 6) rfl))) (mvT hZ (hw _ (List.mem_of_getElem? (i := 7) rfl))) (mvT hZ (hw _ (List.mem_of_getElem? (i := 8) rfl))) (mvT hZ (hw _ (List.mem_of_getElem? (i := 9) rfl))) (by decide) (backOf (W := 0) (rmEx l Z _ hw [] p0 p1 p2 (1 : Int32) ((1 : Int32) + ((p5 &&& (2147483647 : Int32)) % (own_max (1 : Int32) ((1 : Int32) + ((p4 &&& (2147483647 : Int32)) % (3 : Int32)))))) h35 n0 Z36 ) hZ (hw _ (List.mem_of_getElem? (i := 9) rfl)) (hw _ (List.mem_of_getElem? (i := 8) rfl)) (by decide) (by decide)) (g := (mkF m 82 #[.val (.int p0), .val (.int p1), .val (.int p2), .val (.int p3), .val (.int p4), .val (.int p5), .val (.int (1 : Int32)), .val (.int (own_max (1 : Int32) ((1 : Int32) + ((p4 &&& (2147483647 : Int32)) % (3 : Int32))))), .val (.int ((1 : Int32) + ((p5 &&& (2147483647 : Int32)) % (own_max (1 : Int32) ((1 : Int32) + ((p4 &&& (2147483647 : Int32)) % (3 : Int32))))))), .val (.ref b31), .unset, .unset, .unset] [(.int ((1 : Int32) + ((p5 &&& (2147483647 : Int32)) % (own_max (1 : Int32) ((1 : Int32) + ((p4 &&& (2147483647 : Int32)) % (3 : Int32))))))), (.int (1 : Int32)), (.int p2), (.int p1), (.int p0)])) rfl (by rw [hml]; rfl) (argsL := [(.int p0), (.int p1), (.int p2), (.int (1 : Int32)), (.int ((1 : Int32) + ((p5 &&& (2147483647 : Int32)) % (own_max (1 : Int32) ((1 : Int32) + ((p4 &&& (2147483647 : Int32)) % (3 : Int32)))))))]) (rest := []) (lenOf pd_1 rfl) rfl (by show 2 * 0 + _ ≤ _; exact Nat.le_of_eq rfl) (hb hby at_82) (fun _ _ => ⟨rfl, e35, (by decide : 1 + 0 ≤ _), (by decide : 1 + 0 ≤ _)⟩)
    dsimp only [Pt.U, Pt.locs, Pt.cells, Pt.slots] at X39 l39 y39 z39 st39 hQ39
    subst l39 y39 z39
    obtain ⟨rfl, Nq39, hs39⟩ := hQ39
    have N40 := Fr.app N37 Nq39
    refine OFin.of (S' := T39.setTop (mkF m 85 #[.val (.int p0), .val (.int p1), .val (.int p2), .val (.int p3), .val (.int p4), .val (.int p5), .val (.int (1 : Int32)), .val (.int (own_max (1 : Int32) ((1 : Int32) + ((p4 &&& (2147483647 : Int32)) % (3 : Int32))))), .val (.int ((1 : Int32) + ((p5 &&& (2147483647 : Int32)) % (own_max (1 : Int32) ((1 : Int32) + ((p4 &&& (2147483647 : Int32)) % (3 : Int32))))))), .val (.ref b31), .unset, .unset, .unset] [(.int (own_exp p0 p1 p2 (1 : Int32) ((1 : Int32) + ((p5 &&& (2147483647 : Int32)) % (own_max (1 : Int32) ((1 : Int32) + ((p4 &&& (2147483647 : Int32)) % (3 : Int32))))))))])) (fun t ht => st39 t ht) ?_
    refine OFin.of (S' := T39.setTop (mkF m 87 #[.val (.int p0), .val (.int p1), .val (.int p2), .val (.int p3), .val (.int p4), .val (.int p5), .val (.int (1 : Int32)), .val (.int (own_max (1 : Int32) ((1 : Int32) + ((p4 &&& (2147483647 : Int32)) % (3 : Int32))))), .val (.int ((1 : Int32) + ((p5 &&& (2147483647 : Int32)) % (own_max (1 : Int32) ((1 : Int32) + ((p4 &&& (2147483647 : Int32)) % (3 : Int32))))))), .val (.ref b31), .val (.int (own_exp p0 p1 p2 (1 : Int32) ((1 : Int32) + ((p5 &&& (2147483647 : Int32)) % (own_max (1 : Int32) ((1 : Int32) + ((p4 &&& (2147483647 : Int32)) % (3 : Int32)))))))), .unset, .unset] [])) (fun t ht => ?_) ?_
    · refine XS.istore X39.here hx rfl (hb hby at_85) rfl (l' := #[.val (.int p0), .val (.int p1), .val (.int p2), .val (.int p3), .val (.int p4), .val (.int p5), .val (.int (1 : Int32)), .val (.int (own_max (1 : Int32) ((1 : Int32) + ((p4 &&& (2147483647 : Int32)) % (3 : Int32))))), .val (.int ((1 : Int32) + ((p5 &&& (2147483647 : Int32)) % (own_max (1 : Int32) ((1 : Int32) + ((p4 &&& (2147483647 : Int32)) % (3 : Int32))))))), .val (.ref b31), .val (.int (own_exp p0 p1 p2 (1 : Int32) ((1 : Int32) + ((p5 &&& (2147483647 : Int32)) % (own_max (1 : Int32) ((1 : Int32) + ((p4 &&& (2147483647 : Int32)) % (3 : Int32)))))))), .unset, .unset]) rfl ?_
      exact ht
    obtain ⟨T41, h41, X41, e41, E41, A41, D41, -, st41⟩ := newO X39 hx hZ hown (hw _ (List.mem_of_getElem? (i := 10) rfl)) (hw _ (List.mem_of_getElem? (i := 11) rfl)) (hw _ (List.mem_of_getElem? (i := 12) rfl)) hs39 (g := (mkF m 87 #[.val (.int p0), .val (.int p1), .val (.int p2), .val (.int p3), .val (.int p4), .val (.int p5), .val (.int (1 : Int32)), .val (.int (own_max (1 : Int32) ((1 : Int32) + ((p4 &&& (2147483647 : Int32)) % (3 : Int32))))), .val (.int ((1 : Int32) + ((p5 &&& (2147483647 : Int32)) % (own_max (1 : Int32) ((1 : Int32) + ((p4 &&& (2147483647 : Int32)) % (3 : Int32))))))), .val (.ref b31), .val (.int (own_exp p0 p1 p2 (1 : Int32) ((1 : Int32) + ((p5 &&& (2147483647 : Int32)) % (own_max (1 : Int32) ((1 : Int32) + ((p4 &&& (2147483647 : Int32)) % (3 : Int32)))))))), .unset, .unset] [])) rfl (hb hby at_87) (by decide) (by decide)
    obtain ⟨b41, gq41⟩ : ∃ z, z = h35.size := ⟨_, rfl⟩
    rw [← gq41] at A41 D41 st41
    have g42 : n0 ≤ b41 := (Nat.le_trans Z36 (Nat.le_of_eq gq41.symm))
    have ne43 : b31 ≠ b41 := (Nat.ne_of_lt (Nat.lt_of_lt_of_le f38.lt (Nat.le_of_eq gq41.symm)))
    have f44 := f38.ext E41
    have Z45 : n0 ≤ h41.size := (Nat.le_trans Z36 E41.1)
    have f46 : Fld Z h41 b41 "com/example/kindred_mesh/kindredmesh/simulation/FloodResult" "ttl" "I" (.int (0 : Int32)) := D41 (Or.inr (hw _ (List.mem_of_getElem? (i := 20) rfl))) (ty := .int) (by decide)
    have f47 : Fld Z h41 b41 "com/example/kindred_mesh/kindredmesh/simulation/FloodResult" "sent" "[I" .null := D41 (Or.inr (hw _ (List.mem_of_getElem? (i := 22) rfl))) (ty := (.array .int)) (by decide)
    have f48 : Fld Z h41 b41 "com/example/kindred_mesh/kindredmesh/simulation/FloodResult" "reached" "I" (.int (0 : Int32)) := D41 (Or.inr (hw _ (List.mem_of_getElem? (i := 24) rfl))) (ty := .int) (by decide)
    refine OFin.of (S' := T41.setTop (mkF m 90 #[.val (.int p0), .val (.int p1), .val (.int p2), .val (.int p3), .val (.int p4), .val (.int p5), .val (.int (1 : Int32)), .val (.int (own_max (1 : Int32) ((1 : Int32) + ((p4 &&& (2147483647 : Int32)) % (3 : Int32))))), .val (.int ((1 : Int32) + ((p5 &&& (2147483647 : Int32)) % (own_max (1 : Int32) ((1 : Int32) + ((p4 &&& (2147483647 : Int32)) % (3 : Int32))))))), .val (.ref b31), .val (.int (own_exp p0 p1 p2 (1 : Int32) ((1 : Int32) + ((p5 &&& (2147483647 : Int32)) % (own_max (1 : Int32) ((1 : Int32) + ((p4 &&& (2147483647 : Int32)) % (3 : Int32)))))))), .unset, .unset] [(.ref b41)])) (fun t ht => st41 t ht) ?_
    refine OFin.of (S' := T41.setTop (mkF m 96 #[.val (.int p0), .val (.int p1), .val (.int p2), .val (.int p3), .val (.int p4), .val (.int p5), .val (.int (1 : Int32)), .val (.int (own_max (1 : Int32) ((1 : Int32) + ((p4 &&& (2147483647 : Int32)) % (3 : Int32))))), .val (.int ((1 : Int32) + ((p5 &&& (2147483647 : Int32)) % (own_max (1 : Int32) ((1 : Int32) + ((p4 &&& (2147483647 : Int32)) % (3 : Int32))))))), .val (.ref b31), .val (.int (own_exp p0 p1 p2 (1 : Int32) ((1 : Int32) + ((p5 &&& (2147483647 : Int32)) % (own_max (1 : Int32) ((1 : Int32) + ((p4 &&& (2147483647 : Int32)) % (3 : Int32)))))))), .unset, .unset] [(.int (0 : Int32)), (.ref b31), (.int (own_max (1 : Int32) ((1 : Int32) + ((p4 &&& (2147483647 : Int32)) % (3 : Int32))))), (.ref b41), (.ref b41)])) (fun t ht => ?_) ?_
    · refine XS.dup X41.here hx rfl (hb hby at_90) rfl rfl ?_
      show Steps p.tables e below (T41.setTop (mkF m 91 _ [(.ref b41), (.ref b41)])) _
      refine XS.iload X41.here hx rfl (hb hby at_91) rfl ?_
      show Steps p.tables e below (T41.setTop (mkF m 93 _ [(.int (own_max (1 : Int32) ((1 : Int32) + ((p4 &&& (2147483647 : Int32)) % (3 : Int32))))), (.ref b41), (.ref b41)])) _
      refine XS.aload X41.here hx rfl (hb hby at_93) rfl rfl ?_
      show Steps p.tables e below (T41.setTop (mkF m 95 _ [(.ref b31), (.int (own_max (1 : Int32) ((1 : Int32) + ((p4 &&& (2147483647 : Int32)) % (3 : Int32))))), (.ref b41), (.ref b41)])) _
      refine XS.iconst X41.here hx rfl (hb hby at_95) ?_
      exact ht
    obtain ⟨_, _, ⟨T49, L49, k49, n49⟩, -, X49, ⟨Lc49, hQ49, l49, y49, z49⟩, st49⟩ := X41.specialBack hx (y := (⟨"com/example/kindred_mesh/kindredmesh/simulation/FloodResult", "<init>", "(I[II)V"⟩ : MethodName)) rfl hown (mvT hZ (hw _ (List.mem_of_getElem? (i := 13) rfl))) (mvT hZ (hw _ (List.mem_of_getElem? (i := 14) rfl))) (mvT hZ (hw _ (List.mem_of_getElem? (i := 15) rfl))) (by decide) (backOf (W := 1) (rmIni l Z _ hw [] b41 (own_max (1 : Int32) ((1 : Int32) + ((p4 &&& (2147483647 : Int32)) % (3 : Int32)))) b31 (0 : Int32) h41 n0 Z45 A41 f46 f47 f48 g42) hZ (hw _ (List.mem_of_getElem? (i := 15) rfl)) (hw _ (List.mem_of_getElem? (i := 12) rfl)) (by decide) (by decide)) (g := (mkF m 96 #[.val (.int p0), .val (.int p1), .val (.int p2), .val (.int p3), .val (.int p4), .val (.int p5), .val (.int (1 : Int32)), .val (.int (own_max (1 : Int32) ((1 : Int32) + ((p4 &&& (2147483647 : Int32)) % (3 : Int32))))), .val (.int ((1 : Int32) + ((p5 &&& (2147483647 : Int32)) % (own_max (1 : Int32) ((1 : Int32) + ((p4 &&& (2147483647 : Int32)) % (3 : Int32))))))), .val (.ref b31), .val (.int (own_exp p0 p1 p2 (1 : Int32) ((1 : Int32) + ((p5 &&& (2147483647 : Int32)) % (own_max (1 : Int32) ((1 : Int32) + ((p4 &&& (2147483647 : Int32)) % (3 : Int32)))))))), .unset, .unset] [(.int (0 : Int32)), (.ref b31), (.int (own_max (1 : Int32) ((1 : Int32) + ((p4 &&& (2147483647 : Int32)) % (3 : Int32))))), (.ref b41), (.ref b41)])) rfl (by rw [hml]; rfl) (Steps.refl _) (a := b41) (argsL := [(.int (own_max (1 : Int32) ((1 : Int32) + ((p4 &&& (2147483647 : Int32)) % (3 : Int32))))), (.ref b31), (.int (0 : Int32))]) (rest := [(.ref b41)]) (lenOf pd_2 rfl) rfl (by show 2 * 0 + _ ≤ _; exact Nat.le_of_eq rfl) (hb hby at_96) (fun _ _ => ⟨rfl, e41, (by decide : 2 + 0 ≤ _), (by decide : 4 + 0 ≤ _)⟩)
    dsimp only [Pt.U, Pt.locs, Pt.cells, Pt.slots] at X49 l49 y49 z49 st49 hQ49
    subst l49 y49 z49
    obtain ⟨rfl, Nq49, Kq49, f50, f51, f52⟩ := hQ49
    have N53 := Fr.app N40 Nq49
    have f54 := (f44.keep Kq49 (ninS ne43 nin0))
    have f55 := (A41.keep Kq49)
    have Z56 : n0 ≤ T49.heap.size := (Nat.le_trans Z45 Kq49.1)
    refine OFin.to (S' := T49.setTop (mkF m 99 #[.val (.int p0), .val (.int p1), .val (.int p2), .val (.int p3), .val (.int p4), .val (.int p5), .val (.int (1 : Int32)), .val (.int (own_max (1 : Int32) ((1 : Int32) + ((p4 &&& (2147483647 : Int32)) % (3 : Int32))))), .val (.int ((1 : Int32) + ((p5 &&& (2147483647 : Int32)) % (own_max (1 : Int32) ((1 : Int32) + ((p4 &&& (2147483647 : Int32)) % (3 : Int32))))))), .val (.ref b31), .val (.int (own_exp p0 p1 p2 (1 : Int32) ((1 : Int32) + ((p5 &&& (2147483647 : Int32)) % (own_max (1 : Int32) ((1 : Int32) + ((p4 &&& (2147483647 : Int32)) % (3 : Int32)))))))), .unset, .unset] [(.ref b41)])) st49 ?_
    refine OFin.of (S' := T49.setTop (mkF m 105 #[.val (.int p0), .val (.int p1), .val (.int p2), .val (.int p3), .val (.int p4), .val (.int p5), .val (.int (1 : Int32)), .val (.int (own_max (1 : Int32) ((1 : Int32) + ((p4 &&& (2147483647 : Int32)) % (3 : Int32))))), .val (.int ((1 : Int32) + ((p5 &&& (2147483647 : Int32)) % (own_max (1 : Int32) ((1 : Int32) + ((p4 &&& (2147483647 : Int32)) % (3 : Int32))))))), .val (.ref b31), .val (.int (own_exp p0 p1 p2 (1 : Int32) ((1 : Int32) + ((p5 &&& (2147483647 : Int32)) % (own_max (1 : Int32) ((1 : Int32) + ((p4 &&& (2147483647 : Int32)) % (3 : Int32)))))))), .val (.ref b41), .unset] [(.int ((1 : Int32) + ((p5 &&& (2147483647 : Int32)) % (own_max (1 : Int32) ((1 : Int32) + ((p4 &&& (2147483647 : Int32)) % (3 : Int32))))))), (.ref b41)])) (fun t ht => ?_) ?_
    · refine XS.astore X49.here hx rfl (hb hby at_99) rfl rfl (l' := #[.val (.int p0), .val (.int p1), .val (.int p2), .val (.int p3), .val (.int p4), .val (.int p5), .val (.int (1 : Int32)), .val (.int (own_max (1 : Int32) ((1 : Int32) + ((p4 &&& (2147483647 : Int32)) % (3 : Int32))))), .val (.int ((1 : Int32) + ((p5 &&& (2147483647 : Int32)) % (own_max (1 : Int32) ((1 : Int32) + ((p4 &&& (2147483647 : Int32)) % (3 : Int32))))))), .val (.ref b31), .val (.int (own_exp p0 p1 p2 (1 : Int32) ((1 : Int32) + ((p5 &&& (2147483647 : Int32)) % (own_max (1 : Int32) ((1 : Int32) + ((p4 &&& (2147483647 : Int32)) % (3 : Int32)))))))), .val (.ref b41), .unset]) rfl ?_
      show Steps p.tables e below (T49.setTop (mkF m 101 #[.val (.int p0), .val (.int p1), .val (.int p2), .val (.int p3), .val (.int p4), .val (.int p5), .val (.int (1 : Int32)), .val (.int (own_max (1 : Int32) ((1 : Int32) + ((p4 &&& (2147483647 : Int32)) % (3 : Int32))))), .val (.int ((1 : Int32) + ((p5 &&& (2147483647 : Int32)) % (own_max (1 : Int32) ((1 : Int32) + ((p4 &&& (2147483647 : Int32)) % (3 : Int32))))))), .val (.ref b31), .val (.int (own_exp p0 p1 p2 (1 : Int32) ((1 : Int32) + ((p5 &&& (2147483647 : Int32)) % (own_max (1 : Int32) ((1 : Int32) + ((p4 &&& (2147483647 : Int32)) % (3 : Int32)))))))), .val (.ref b41), .unset] [])) _
      refine XS.aload X49.here hx rfl (hb hby at_101) rfl rfl ?_
      show Steps p.tables e below (T49.setTop (mkF m 103 _ [(.ref b41)])) _
      refine XS.iload X49.here hx rfl (hb hby at_103) rfl ?_
      exact ht
    obtain ⟨cq58, kq58, q58a, q58b, q58c⟩ := isOf hZ (rfl : T49.heap = T49.heap) f55
    obtain ⟨_, _, ⟨T57, L57, k57, n57⟩, -, X57, ⟨Lc57, hQ57, l57, y57, z57⟩, st57⟩ := X49.virtualBack hx (y := (⟨"com/example/kindred_mesh/kindredmesh/simulation/FloodResult", "sentAt", "(I)I"⟩ : MethodName)) (z := (⟨"com/example/kindred_mesh/kindredmesh/simulation/FloodResult", "sentAt", "(I)I"⟩ : MethodName)) hown (mvT hZ (hw _ (List.mem_of_getElem? (i := 25) rfl))) (mvT hZ (hw _ (List.mem_of_getElem? (i := 26) rfl))) (notFace_of_selects (args := #[]) (mvT hZ (hw _ (List.mem_of_getElem? (i := 28) rfl)))) (mvT hZ (hw _ (List.mem_of_getElem? (i := 28) rfl))) (mvT hZ (hw _ (List.mem_of_getElem? (i := 27) rfl))) (by decide) (backOf (W := 0) (rmSa l Z _ hw [] b41 ((1 : Int32) + ((p5 &&& (2147483647 : Int32)) % (own_max (1 : Int32) ((1 : Int32) + ((p4 &&& (2147483647 : Int32)) % (3 : Int32)))))) b31 k31 (1 : Int32) [(.int p0)] (own_exp p0 p1 p2 (1 : Int32) ((1 : Int32) + ((p5 &&& (2147483647 : Int32)) % (own_max (1 : Int32) ((1 : Int32) + ((p4 &&& (2147483647 : Int32)) % (3 : Int32))))))) T49.heap n0 Z56 f51 f54 (own_pos (own_hop _ _ hT.1 hT.2).1) (own_g1 (own_hop _ _ hT.1 hT.2).1)) hZ (hw _ (List.mem_of_getElem? (i := 29) rfl)) (hw _ (List.mem_of_getElem? (i := 12) rfl)) (by decide) (by decide)) q58a q58c (g := (mkF m 105 #[.val (.int p0), .val (.int p1), .val (.int p2), .val (.int p3), .val (.int p4), .val (.int p5), .val (.int (1 : Int32)), .val (.int (own_max (1 : Int32) ((1 : Int32) + ((p4 &&& (2147483647 : Int32)) % (3 : Int32))))), .val (.int ((1 : Int32) + ((p5 &&& (2147483647 : Int32)) % (own_max (1 : Int32) ((1 : Int32) + ((p4 &&& (2147483647 : Int32)) % (3 : Int32))))))), .val (.ref b31), .val (.int (own_exp p0 p1 p2 (1 : Int32) ((1 : Int32) + ((p5 &&& (2147483647 : Int32)) % (own_max (1 : Int32) ((1 : Int32) + ((p4 &&& (2147483647 : Int32)) % (3 : Int32)))))))), .val (.ref b41), .unset] [(.int ((1 : Int32) + ((p5 &&& (2147483647 : Int32)) % (own_max (1 : Int32) ((1 : Int32) + ((p4 &&& (2147483647 : Int32)) % (3 : Int32))))))), (.ref b41)])) rfl (by rw [hml]; rfl) (Steps.refl _) (argsL := [(.int ((1 : Int32) + ((p5 &&& (2147483647 : Int32)) % (own_max (1 : Int32) ((1 : Int32) + ((p4 &&& (2147483647 : Int32)) % (3 : Int32)))))))]) (rest := []) (lenOf pd_3 rfl) rfl (by show 2 * 0 + _ ≤ _; exact Nat.le_of_eq rfl) (hb hby at_105) (fun _ _ => ⟨rfl, (rfl : T49.heap = T49.heap), (by decide : 2 + 0 ≤ _), (by decide : 4 + 0 ≤ _)⟩)
    dsimp only [Pt.U, Pt.locs, Pt.cells, Pt.slots] at X57 l57 y57 z57 st57 hQ57
    subst l57 y57 z57
    obtain ⟨rfl, Nq57, hs57⟩ := hQ57
    have N59 := Fr.app N53 Nq57
    refine OFin.to (S' := T57.setTop (mkF m 108 #[.val (.int p0), .val (.int p1), .val (.int p2), .val (.int p3), .val (.int p4), .val (.int p5), .val (.int (1 : Int32)), .val (.int (own_max (1 : Int32) ((1 : Int32) + ((p4 &&& (2147483647 : Int32)) % (3 : Int32))))), .val (.int ((1 : Int32) + ((p5 &&& (2147483647 : Int32)) % (own_max (1 : Int32) ((1 : Int32) + ((p4 &&& (2147483647 : Int32)) % (3 : Int32))))))), .val (.ref b31), .val (.int (own_exp p0 p1 p2 (1 : Int32) ((1 : Int32) + ((p5 &&& (2147483647 : Int32)) % (own_max (1 : Int32) ((1 : Int32) + ((p4 &&& (2147483647 : Int32)) % (3 : Int32)))))))), .val (.ref b41), .unset] [(.int (own_sent (1 : Int32) ((1 : Int32) + ((p5 &&& (2147483647 : Int32)) % (own_max (1 : Int32) ((1 : Int32) + ((p4 &&& (2147483647 : Int32)) % (3 : Int32)))))) (own_exp p0 p1 p2 (1 : Int32) ((1 : Int32) + ((p5 &&& (2147483647 : Int32)) % (own_max (1 : Int32) ((1 : Int32) + ((p4 &&& (2147483647 : Int32)) % (3 : Int32)))))))))])) st57 ?_
    refine OFin.of (S' := T57.setTop (mkF m 122 #[.val (.int p0), .val (.int p1), .val (.int p2), .val (.int p3), .val (.int p4), .val (.int p5), .val (.int (1 : Int32)), .val (.int (own_max (1 : Int32) ((1 : Int32) + ((p4 &&& (2147483647 : Int32)) % (3 : Int32))))), .val (.int ((1 : Int32) + ((p5 &&& (2147483647 : Int32)) % (own_max (1 : Int32) ((1 : Int32) + ((p4 &&& (2147483647 : Int32)) % (3 : Int32))))))), .val (.ref b31), .val (.int (own_exp p0 p1 p2 (1 : Int32) ((1 : Int32) + ((p5 &&& (2147483647 : Int32)) % (own_max (1 : Int32) ((1 : Int32) + ((p4 &&& (2147483647 : Int32)) % (3 : Int32)))))))), .val (.ref b41), .val (.int (own_sent (1 : Int32) ((1 : Int32) + ((p5 &&& (2147483647 : Int32)) % (own_max (1 : Int32) ((1 : Int32) + ((p4 &&& (2147483647 : Int32)) % (3 : Int32)))))) (own_exp p0 p1 p2 (1 : Int32) ((1 : Int32) + ((p5 &&& (2147483647 : Int32)) % (own_max (1 : Int32) ((1 : Int32) + ((p4 &&& (2147483647 : Int32)) % (3 : Int32)))))))))] [(.int (1 : Int32))])) (fun t ht => ?_) ?_
    · refine XS.istore X57.here hx rfl (hb hby at_108) rfl (l' := #[.val (.int p0), .val (.int p1), .val (.int p2), .val (.int p3), .val (.int p4), .val (.int p5), .val (.int (1 : Int32)), .val (.int (own_max (1 : Int32) ((1 : Int32) + ((p4 &&& (2147483647 : Int32)) % (3 : Int32))))), .val (.int ((1 : Int32) + ((p5 &&& (2147483647 : Int32)) % (own_max (1 : Int32) ((1 : Int32) + ((p4 &&& (2147483647 : Int32)) % (3 : Int32))))))), .val (.ref b31), .val (.int (own_exp p0 p1 p2 (1 : Int32) ((1 : Int32) + ((p5 &&& (2147483647 : Int32)) % (own_max (1 : Int32) ((1 : Int32) + ((p4 &&& (2147483647 : Int32)) % (3 : Int32)))))))), .val (.ref b41), .val (.int (own_sent (1 : Int32) ((1 : Int32) + ((p5 &&& (2147483647 : Int32)) % (own_max (1 : Int32) ((1 : Int32) + ((p4 &&& (2147483647 : Int32)) % (3 : Int32)))))) (own_exp p0 p1 p2 (1 : Int32) ((1 : Int32) + ((p5 &&& (2147483647 : Int32)) % (own_max (1 : Int32) ((1 : Int32) + ((p4 &&& (2147483647 : Int32)) % (3 : Int32)))))))))]) rfl ?_
      show Steps p.tables e below (T57.setTop (mkF m 110 #[.val (.int p0), .val (.int p1), .val (.int p2), .val (.int p3), .val (.int p4), .val (.int p5), .val (.int (1 : Int32)), .val (.int (own_max (1 : Int32) ((1 : Int32) + ((p4 &&& (2147483647 : Int32)) % (3 : Int32))))), .val (.int ((1 : Int32) + ((p5 &&& (2147483647 : Int32)) % (own_max (1 : Int32) ((1 : Int32) + ((p4 &&& (2147483647 : Int32)) % (3 : Int32))))))), .val (.ref b31), .val (.int (own_exp p0 p1 p2 (1 : Int32) ((1 : Int32) + ((p5 &&& (2147483647 : Int32)) % (own_max (1 : Int32) ((1 : Int32) + ((p4 &&& (2147483647 : Int32)) % (3 : Int32)))))))), .val (.ref b41), .val (.int (own_sent (1 : Int32) ((1 : Int32) + ((p5 &&& (2147483647 : Int32)) % (own_max (1 : Int32) ((1 : Int32) + ((p4 &&& (2147483647 : Int32)) % (3 : Int32)))))) (own_exp p0 p1 p2 (1 : Int32) ((1 : Int32) + ((p5 &&& (2147483647 : Int32)) % (own_max (1 : Int32) ((1 : Int32) + ((p4 &&& (2147483647 : Int32)) % (3 : Int32)))))))))] [])) _
      refine XS.iload X57.here hx rfl (hb hby at_110) rfl ?_
      show Steps p.tables e below (T57.setTop (mkF m 112 _ [(.int (own_sent (1 : Int32) ((1 : Int32) + ((p5 &&& (2147483647 : Int32)) % (own_max (1 : Int32) ((1 : Int32) + ((p4 &&& (2147483647 : Int32)) % (3 : Int32)))))) (own_exp p0 p1 p2 (1 : Int32) ((1 : Int32) + ((p5 &&& (2147483647 : Int32)) % (own_max (1 : Int32) ((1 : Int32) + ((p4 &&& (2147483647 : Int32)) % (3 : Int32)))))))))])) _
      refine XS.iload X57.here hx rfl (hb hby at_112) rfl ?_
      show Steps p.tables e below (T57.setTop (mkF m 114 _ [(.int (own_exp p0 p1 p2 (1 : Int32) ((1 : Int32) + ((p5 &&& (2147483647 : Int32)) % (own_max (1 : Int32) ((1 : Int32) + ((p4 &&& (2147483647 : Int32)) % (3 : Int32)))))))), (.int (own_sent (1 : Int32) ((1 : Int32) + ((p5 &&& (2147483647 : Int32)) % (own_max (1 : Int32) ((1 : Int32) + ((p4 &&& (2147483647 : Int32)) % (3 : Int32)))))) (own_exp p0 p1 p2 (1 : Int32) ((1 : Int32) + ((p5 &&& (2147483647 : Int32)) % (own_max (1 : Int32) ((1 : Int32) + ((p4 &&& (2147483647 : Int32)) % (3 : Int32)))))))))])) _
      refine XS.icmpNo X57.here hx rfl (hb hby at_114) rfl (teq (own_law (by decide) : (own_sent (1 : Int32) ((1 : Int32) + ((p5 &&& (2147483647 : Int32)) % (own_max (1 : Int32) ((1 : Int32) + ((p4 &&& (2147483647 : Int32)) % (3 : Int32)))))) (own_exp p0 p1 p2 (1 : Int32) ((1 : Int32) + ((p5 &&& (2147483647 : Int32)) % (own_max (1 : Int32) ((1 : Int32) + ((p4 &&& (2147483647 : Int32)) % (3 : Int32)))))))) = (own_exp p0 p1 p2 (1 : Int32) ((1 : Int32) + ((p5 &&& (2147483647 : Int32)) % (own_max (1 : Int32) ((1 : Int32) + ((p4 &&& (2147483647 : Int32)) % (3 : Int32))))))))).2 ?_
      show Steps p.tables e below (T57.setTop (mkF m 117 _ [])) _
      refine XS.iconst X57.here hx rfl (hb hby at_117) ?_
      show Steps p.tables e below (T57.setTop (mkF m 118 _ [(.int (1 : Int32))])) _
      refine XS.goto X57.here hx rfl (pc0 := 118) (pc' := 122) rfl (hb hby at_118) (by decide) (by decide) ?_
      exact ht
    exact OFin.retB X57 hx hlk (t := .boolean) (by simp) hret (hb hby at_122) (by decide) (by decide) (by rw [hs57]; exact ⟨rfl, N59⟩)
  · rw [hq1]
    refine OFin.of (S' := s₁.setTop (mkF m 19 #[.val (.int p0), .val (.int p1), .val (.int p2), .val (.int p3), .val (.int p4), .val (.int p5), .val (.int (2 : Int32)), .unset, .unset, .unset, .unset, .unset, .unset] [(.int ((2 : Int32) + ((p4 &&& (2147483647 : Int32)) % (3 : Int32)))), (.int (1 : Int32))])) (fun t ht => ?_) ?_
    · refine XS.istore X0.here hx rfl (hb hby at_6) rfl (l' := #[.val (.int p0), .val (.int p1), .val (.int p2), .val (.int p3), .val (.int p4), .val (.int p5), .val (.int (2 : Int32)), .unset, .unset, .unset, .unset, .unset, .unset]) rfl ?_
      show Steps p.tables e below (s₁.setTop (mkF m 8 #[.val (.int p0), .val (.int p1), .val (.int p2), .val (.int p3), .val (.int p4), .val (.int p5), .val (.int (2 : Int32)), .unset, .unset, .unset, .unset, .unset, .unset] [])) _
      refine XS.iconst X0.here hx rfl (hb hby at_8) ?_
      show Steps p.tables e below (s₁.setTop (mkF m 9 _ [(.int (1 : Int32))])) _
      refine XS.iload X0.here hx rfl (hb hby at_9) rfl ?_
      show Steps p.tables e below (s₁.setTop (mkF m 11 _ [(.int (2 : Int32)), (.int (1 : Int32))])) _
      refine XS.iload X0.here hx rfl (hb hby at_11) rfl ?_
      show Steps p.tables e below (s₁.setTop (mkF m 13 _ [(.int p4), (.int (2 : Int32)), (.int (1 : Int32))])) _
      refine X0.ldcInt hx hown (mvT hZ (hw _ (List.mem_of_getElem? (i := 0) rfl))) (g := (mkF m 13 #[.val (.int p0), .val (.int p1), .val (.int p2), .val (.int p3), .val (.int p4), .val (.int p5), .val (.int (2 : Int32)), .unset, .unset, .unset, .unset, .unset, .unset] [(.int p4), (.int (2 : Int32)), (.int (1 : Int32))])) rfl (hb hby at_13) _ ?_
      show Steps p.tables e below (s₁.setTop (mkF m 15 _ [(.int (2147483647 : Int32)), (.int p4), (.int (2 : Int32)), (.int (1 : Int32))])) _
      refine XS.iand X0.here hx rfl (hb hby at_15) rfl ?_
      show Steps p.tables e below (s₁.setTop (mkF m 16 _ [(.int (p4 &&& (2147483647 : Int32))), (.int (2 : Int32)), (.int (1 : Int32))])) _
      refine XS.iconst X0.here hx rfl (hb hby at_16) ?_
      show Steps p.tables e below (s₁.setTop (mkF m 17 _ [(.int (3 : Int32)), (.int (p4 &&& (2147483647 : Int32))), (.int (2 : Int32)), (.int (1 : Int32))])) _
      refine iremM X0 hx rfl (hb hby at_17) rfl (by decide) ?_
      show Steps p.tables e below (s₁.setTop (mkF m 18 _ [(.int ((p4 &&& (2147483647 : Int32)) % (3 : Int32))), (.int (2 : Int32)), (.int (1 : Int32))])) _
      refine XS.iadd X0.here hx rfl (hb hby at_18) rfl ?_
      exact ht
    obtain ⟨_, _, ⟨T60, L60, k60, n60⟩, -, X60, ⟨Lc60, hQ60, l60, y60, z60⟩, st60⟩ := Jvm.LawKit.callS X0 hx (y := (⟨"java/lang/Math", "max", "(II)I"⟩ : MethodName)) hown (mvT hZ (hw _ (List.mem_of_getElem? (i := 1) rfl))) (mvT hZ (hw _ (List.mem_of_getElem? (i := 2) rfl))) (mvT hZ (hw _ (List.mem_of_getElem? (i := 3) rfl))) (mvT hZ (hw _ (List.mem_of_getElem? (i := 4) rfl))) (by decide) (backOf (W := 0) (rmMx l Z _ hw [] (1 : Int32) ((2 : Int32) + ((p4 &&& (2147483647 : Int32)) % (3 : Int32))) h0 n0 Z0 ) hZ (hw _ (List.mem_of_getElem? (i := 4) rfl)) (hw _ (List.mem_of_getElem? (i := 3) rfl)) (by decide) (by decide)) (g := (mkF m 19 #[.val (.int p0), .val (.int p1), .val (.int p2), .val (.int p3), .val (.int p4), .val (.int p5), .val (.int (2 : Int32)), .unset, .unset, .unset, .unset, .unset, .unset] [(.int ((2 : Int32) + ((p4 &&& (2147483647 : Int32)) % (3 : Int32)))), (.int (1 : Int32))])) rfl (by rw [hml]; rfl) (argsL := [(.int (1 : Int32)), (.int ((2 : Int32) + ((p4 &&& (2147483647 : Int32)) % (3 : Int32))))]) (rest := []) (lenOf pd_0 rfl) rfl (by show 2 * 0 + _ ≤ _; exact Nat.le_of_eq rfl) (hb hby at_19) (fun _ _ => ⟨rfl, e0, (by decide : 0 + 0 ≤ _), (by decide : 0 + 0 ≤ _)⟩)
    dsimp only [Pt.U, Pt.locs, Pt.cells, Pt.slots] at X60 l60 y60 z60 st60 hQ60
    subst l60 y60 z60
    obtain ⟨rfl, Nq60, hs60⟩ := hQ60
    have N61 := Fr.app N0 Nq60
    refine OFin.of (S' := T60.setTop (mkF m 22 #[.val (.int p0), .val (.int p1), .val (.int p2), .val (.int p3), .val (.int p4), .val (.int p5), .val (.int (2 : Int32)), .unset, .unset, .unset, .unset, .unset, .unset] [(.int (own_max (1 : Int32) ((2 : Int32) + ((p4 &&& (2147483647 : Int32)) % (3 : Int32)))))])) (fun t ht => st60 t ht) ?_
    have hT := own_T (2 : Int32) p4 (by decide) (by decide)
    refine OFin.of (S' := T60.setTop (mkF m 38 #[.val (.int p0), .val (.int p1), .val (.int p2), .val (.int p3), .val (.int p4), .val (.int p5), .val (.int (2 : Int32)), .val (.int (own_max (1 : Int32) ((2 : Int32) + ((p4 &&& (2147483647 : Int32)) % (3 : Int32))))), .val (.int ((1 : Int32) + ((p5 &&& (2147483647 : Int32)) % (own_max (1 : Int32) ((2 : Int32) + ((p4 &&& (2147483647 : Int32)) % (3 : Int32))))))), .unset, .unset, .unset, .unset] [(.int (2 : Int32))])) (fun t ht => ?_) ?_
    · refine XS.istore X60.here hx rfl (hb hby at_22) rfl (l' := #[.val (.int p0), .val (.int p1), .val (.int p2), .val (.int p3), .val (.int p4), .val (.int p5), .val (.int (2 : Int32)), .val (.int (own_max (1 : Int32) ((2 : Int32) + ((p4 &&& (2147483647 : Int32)) % (3 : Int32))))), .unset, .unset, .unset, .unset, .unset]) rfl ?_
      show Steps p.tables e below (T60.setTop (mkF m 24 #[.val (.int p0), .val (.int p1), .val (.int p2), .val (.int p3), .val (.int p4), .val (.int p5), .val (.int (2 : Int32)), .val (.int (own_max (1 : Int32) ((2 : Int32) + ((p4 &&& (2147483647 : Int32)) % (3 : Int32))))), .unset, .unset, .unset, .unset, .unset] [])) _
      refine XS.iconst X60.here hx rfl (hb hby at_24) ?_
      show Steps p.tables e below (T60.setTop (mkF m 25 _ [(.int (1 : Int32))])) _
      refine XS.iload X60.here hx rfl (hb hby at_25) rfl ?_
      show Steps p.tables e below (T60.setTop (mkF m 27 _ [(.int p5), (.int (1 : Int32))])) _
      refine X60.ldcInt hx hown (mvT hZ (hw _ (List.mem_of_getElem? (i := 0) rfl))) (g := (mkF m 27 #[.val (.int p0), .val (.int p1), .val (.int p2), .val (.int p3), .val (.int p4), .val (.int p5), .val (.int (2 : Int32)), .val (.int (own_max (1 : Int32) ((2 : Int32) + ((p4 &&& (2147483647 : Int32)) % (3 : Int32))))), .unset, .unset, .unset, .unset, .unset] [(.int p5), (.int (1 : Int32))])) rfl (hb hby at_27) _ ?_
      show Steps p.tables e below (T60.setTop (mkF m 29 _ [(.int (2147483647 : Int32)), (.int p5), (.int (1 : Int32))])) _
      refine XS.iand X60.here hx rfl (hb hby at_29) rfl ?_
      show Steps p.tables e below (T60.setTop (mkF m 30 _ [(.int (p5 &&& (2147483647 : Int32))), (.int (1 : Int32))])) _
      refine XS.iload X60.here hx rfl (hb hby at_30) rfl ?_
      show Steps p.tables e below (T60.setTop (mkF m 32 _ [(.int (own_max (1 : Int32) ((2 : Int32) + ((p4 &&& (2147483647 : Int32)) % (3 : Int32))))), (.int (p5 &&& (2147483647 : Int32))), (.int (1 : Int32))])) _
      refine iremM X60 hx rfl (hb hby at_32) rfl (own_nz hT.1) ?_
      show Steps p.tables e below (T60.setTop (mkF m 33 _ [(.int ((p5 &&& (2147483647 : Int32)) % (own_max (1 : Int32) ((2 : Int32) + ((p4 &&& (2147483647 : Int32)) % (3 : Int32)))))), (.int (1 : Int32))])) _
      refine XS.iadd X60.here hx rfl (hb hby at_33) rfl ?_
      show Steps p.tables e below (T60.setTop (mkF m 34 _ [(.int ((1 : Int32) + ((p5 &&& (2147483647 : Int32)) % (own_max (1 : Int32) ((2 : Int32) + ((p4 &&& (2147483647 : Int32)) % (3 : Int32)))))))])) _
      refine XS.istore X60.here hx rfl (hb hby at_34) rfl (l' := #[.val (.int p0), .val (.int p1), .val (.int p2), .val (.int p3), .val (.int p4), .val (.int p5), .val (.int (2 : Int32)), .val (.int (own_max (1 : Int32) ((2 : Int32) + ((p4 &&& (2147483647 : Int32)) % (3 : Int32))))), .val (.int ((1 : Int32) + ((p5 &&& (2147483647 : Int32)) % (own_max (1 : Int32) ((2 : Int32) + ((p4 &&& (2147483647 : Int32)) % (3 : Int32))))))), .unset, .unset, .unset, .unset]) rfl ?_
      show Steps p.tables e below (T60.setTop (mkF m 36 #[.val (.int p0), .val (.int p1), .val (.int p2), .val (.int p3), .val (.int p4), .val (.int p5), .val (.int (2 : Int32)), .val (.int (own_max (1 : Int32) ((2 : Int32) + ((p4 &&& (2147483647 : Int32)) % (3 : Int32))))), .val (.int ((1 : Int32) + ((p5 &&& (2147483647 : Int32)) % (own_max (1 : Int32) ((2 : Int32) + ((p4 &&& (2147483647 : Int32)) % (3 : Int32))))))), .unset, .unset, .unset, .unset] [])) _
      refine XS.iload X60.here hx rfl (hb hby at_36) rfl ?_
      exact ht
    obtain ⟨T62, h62, k62, X62, e62, E62, A62, st62⟩ := newP X60 hx hZ (hw _ (List.mem_of_getElem? (i := 5) rfl)) hs60 (g := (mkF m 38 #[.val (.int p0), .val (.int p1), .val (.int p2), .val (.int p3), .val (.int p4), .val (.int p5), .val (.int (2 : Int32)), .val (.int (own_max (1 : Int32) ((2 : Int32) + ((p4 &&& (2147483647 : Int32)) % (3 : Int32))))), .val (.int ((1 : Int32) + ((p5 &&& (2147483647 : Int32)) % (own_max (1 : Int32) ((2 : Int32) + ((p4 &&& (2147483647 : Int32)) % (3 : Int32))))))), .unset, .unset, .unset, .unset] [(.int (2 : Int32))])) rfl (hb hby at_38) rfl (by decide) (cap := 2) (by decide) (by decide) (by decide) (by decide)
    obtain ⟨b62, gq62⟩ : ∃ z, z = h0.size := ⟨_, rfl⟩
    rw [← gq62] at A62 st62
    have g63 : n0 ≤ b62 := (Nat.le_trans Z0 (Nat.le_of_eq gq62.symm))
    have Z64 : n0 ≤ h62.size := (Nat.le_trans Z0 E62.1)
    have f65 : Arv Z h62 b62 k62 .int (2 : Int32) [(.int (0 : Int32)), (.int (0 : Int32))] (.int (0 : Int32)) := ((Arv.new A62 (by decide)).pad (pad_rep [] (.int (0 : Int32)) 2))
    refine OFin.of (S' := T62.setTop (mkF m 40 #[.val (.int p0), .val (.int p1), .val (.int p2), .val (.int p3), .val (.int p4), .val (.int p5), .val (.int (2 : Int32)), .val (.int (own_max (1 : Int32) ((2 : Int32) + ((p4 &&& (2147483647 : Int32)) % (3 : Int32))))), .val (.int ((1 : Int32) + ((p5 &&& (2147483647 : Int32)) % (own_max (1 : Int32) ((2 : Int32) + ((p4 &&& (2147483647 : Int32)) % (3 : Int32))))))), .unset, .unset, .unset, .unset] [(.ref b62)])) (fun t ht => st62 t ht) ?_
    refine OFin.of (S' := T62.setTop (mkF m 52 #[.val (.int p0), .val (.int p1), .val (.int p2), .val (.int p3), .val (.int p4), .val (.int p5), .val (.int (2 : Int32)), .val (.int (own_max (1 : Int32) ((2 : Int32) + ((p4 &&& (2147483647 : Int32)) % (3 : Int32))))), .val (.int ((1 : Int32) + ((p5 &&& (2147483647 : Int32)) % (own_max (1 : Int32) ((2 : Int32) + ((p4 &&& (2147483647 : Int32)) % (3 : Int32))))))), .val (.ref b62), .unset, .unset, .unset] [(.int p0), (.int (0 : Int32)), (.ref b62)])) (fun t ht => ?_) ?_
    · refine XS.astore X62.here hx rfl (hb hby at_40) rfl rfl (l' := #[.val (.int p0), .val (.int p1), .val (.int p2), .val (.int p3), .val (.int p4), .val (.int p5), .val (.int (2 : Int32)), .val (.int (own_max (1 : Int32) ((2 : Int32) + ((p4 &&& (2147483647 : Int32)) % (3 : Int32))))), .val (.int ((1 : Int32) + ((p5 &&& (2147483647 : Int32)) % (own_max (1 : Int32) ((2 : Int32) + ((p4 &&& (2147483647 : Int32)) % (3 : Int32))))))), .val (.ref b62), .unset, .unset, .unset]) rfl ?_
      show Steps p.tables e below (T62.setTop (mkF m 42 #[.val (.int p0), .val (.int p1), .val (.int p2), .val (.int p3), .val (.int p4), .val (.int p5), .val (.int (2 : Int32)), .val (.int (own_max (1 : Int32) ((2 : Int32) + ((p4 &&& (2147483647 : Int32)) % (3 : Int32))))), .val (.int ((1 : Int32) + ((p5 &&& (2147483647 : Int32)) % (own_max (1 : Int32) ((2 : Int32) + ((p4 &&& (2147483647 : Int32)) % (3 : Int32))))))), .val (.ref b62), .unset, .unset, .unset] [])) _
      refine XS.iload X62.here hx rfl (hb hby at_42) rfl ?_
      show Steps p.tables e below (T62.setTop (mkF m 44 _ [(.int (2 : Int32))])) _
      refine XS.iconst X62.here hx rfl (hb hby at_44) ?_
      show Steps p.tables e below (T62.setTop (mkF m 45 _ [(.int (1 : Int32)), (.int (2 : Int32))])) _
      refine XS.icmpNo X62.here hx rfl (hb hby at_45) rfl (flt (by decide : ¬ ((2 : Int32) < (1 : Int32)))).1 ?_
      show Steps p.tables e below (T62.setTop (mkF m 48 _ [])) _
      refine XS.aload X62.here hx rfl (hb hby at_48) rfl rfl ?_
      show Steps p.tables e below (T62.setTop (mkF m 50 _ [(.ref b62)])) _
      refine XS.iconst X62.here hx rfl (hb hby at_50) ?_
      show Steps p.tables e below (T62.setTop (mkF m 51 _ [(.int (0 : Int32)), (.ref b62)])) _
      refine XS.iloadN X62.here hx rfl (hb hby at_51) rfl ?_
      exact ht
    obtain ⟨cl66, Ar66, q66, S66, Ng66, H66, G66⟩ := id f65
    have hin66 := inb_of (j := (0 : Int32)) S66 ⟨by decide, by decide⟩
    obtain ⟨T66, h66, X66, e66, W66, st66⟩ := stI X62 hx hZ e62 Ar66 (j := (0 : Int32)) hin66 (g := (mkF m 52 #[.val (.int p0), .val (.int p1), .val (.int p2), .val (.int p3), .val (.int p4), .val (.int p5), .val (.int (2 : Int32)), .val (.int (own_max (1 : Int32) ((2 : Int32) + ((p4 &&& (2147483647 : Int32)) % (3 : Int32))))), .val (.int ((1 : Int32) + ((p5 &&& (2147483647 : Int32)) % (own_max (1 : Int32) ((2 : Int32) + ((p4 &&& (2147483647 : Int32)) % (3 : Int32))))))), .val (.ref b62), .unset, .unset, .unset] [(.int p0), (.int (0 : Int32)), (.ref b62)])) rfl rfl (hb hby at_52)
    have Z67 : n0 ≤ h66.size := (Nat.le_trans Z64 (Keep.of_wr W66).1)
    have N68 := Fr.snoc X66 N61 g63
    have f69 : Arv Z h66 b62 k62 .int (2 : Int32) [(.int p0), (.int (0 : Int32))] (.int (0 : Int32)) := Arv.set Ar66 q66 S66 Ng66 H66 G66 rfl W66 0 rfl (Nat.le_of_ble_eq_true rfl)
    refine OFin.of (S' := T66.setTop (mkF m 53 #[.val (.int p0), .val (.int p1), .val (.int p2), .val (.int p3), .val (.int p4), .val (.int p5), .val (.int (2 : Int32)), .val (.int (own_max (1 : Int32) ((2 : Int32) + ((p4 &&& (2147483647 : Int32)) % (3 : Int32))))), .val (.int ((1 : Int32) + ((p5 &&& (2147483647 : Int32)) % (own_max (1 : Int32) ((2 : Int32) + ((p4 &&& (2147483647 : Int32)) % (3 : Int32))))))), .val (.ref b62), .unset, .unset, .unset] [])) (fun t ht => st66 t ht) ?_
    refine OFin.of (S' := T66.setTop (mkF m 63 #[.val (.int p0), .val (.int p1), .val (.int p2), .val (.int p3), .val (.int p4), .val (.int p5), .val (.int (2 : Int32)), .val (.int (own_max (1 : Int32) ((2 : Int32) + ((p4 &&& (2147483647 : Int32)) % (3 : Int32))))), .val (.int ((1 : Int32) + ((p5 &&& (2147483647 : Int32)) % (own_max (1 : Int32) ((2 : Int32) + ((p4 &&& (2147483647 : Int32)) % (3 : Int32))))))), .val (.ref b62), .unset, .unset, .unset] [(.int p1), (.int (1 : Int32)), (.ref b62)])) (fun t ht => ?_) ?_
    · refine XS.iload X66.here hx rfl (hb hby at_53) rfl ?_
      show Steps p.tables e below (T66.setTop (mkF m 55 _ [(.int (2 : Int32))])) _
      refine XS.iconst X66.here hx rfl (hb hby at_55) ?_
      show Steps p.tables e below (T66.setTop (mkF m 56 _ [(.int (2 : Int32)), (.int (2 : Int32))])) _
      refine XS.icmpNo X66.here hx rfl (hb hby at_56) rfl (flt (by decide : ¬ ((2 : Int32) < (2 : Int32)))).1 ?_
      show Steps p.tables e below (T66.setTop (mkF m 59 _ [])) _
      refine XS.aload X66.here hx rfl (hb hby at_59) rfl rfl ?_
      show Steps p.tables e below (T66.setTop (mkF m 61 _ [(.ref b62)])) _
      refine XS.iconst X66.here hx rfl (hb hby at_61) ?_
      show Steps p.tables e below (T66.setTop (mkF m 62 _ [(.int (1 : Int32)), (.ref b62)])) _
      refine XS.iloadN X66.here hx rfl (hb hby at_62) rfl ?_
      exact ht
    obtain ⟨cl70, Ar70, q70, S70, Ng70, H70, G70⟩ := id f69
    have hin70 := inb_of (j := (1 : Int32)) S70 ⟨by decide, by decide⟩
    obtain ⟨T70, h70, X70, e70, W70, st70⟩ := stI X66 hx hZ e66 Ar70 (j := (1 : Int32)) hin70 (g := (mkF m 63 #[.val (.int p0), .val (.int p1), .val (.int p2), .val (.int p3), .val (.int p4), .val (.int p5), .val (.int (2 : Int32)), .val (.int (own_max (1 : Int32) ((2 : Int32) + ((p4 &&& (2147483647 : Int32)) % (3 : Int32))))), .val (.int ((1 : Int32) + ((p5 &&& (2147483647 : Int32)) % (own_max (1 : Int32) ((2 : Int32) + ((p4 &&& (2147483647 : Int32)) % (3 : Int32))))))), .val (.ref b62), .unset, .unset, .unset] [(.int p1), (.int (1 : Int32)), (.ref b62)])) rfl rfl (hb hby at_63)
    have Z71 : n0 ≤ h70.size := (Nat.le_trans Z67 (Keep.of_wr W70).1)
    have N72 := Fr.snoc X70 N68 g63
    have f73 : Arv Z h70 b62 k62 .int (2 : Int32) [(.int p0), (.int p1)] (.int (0 : Int32)) := Arv.set Ar70 q70 S70 Ng70 H70 G70 rfl W70 1 rfl (Nat.le_of_ble_eq_true rfl)
    refine OFin.of (S' := T70.setTop (mkF m 64 #[.val (.int p0), .val (.int p1), .val (.int p2), .val (.int p3), .val (.int p4), .val (.int p5), .val (.int (2 : Int32)), .val (.int (own_max (1 : Int32) ((2 : Int32) + ((p4 &&& (2147483647 : Int32)) % (3 : Int32))))), .val (.int ((1 : Int32) + ((p5 &&& (2147483647 : Int32)) % (own_max (1 : Int32) ((2 : Int32) + ((p4 &&& (2147483647 : Int32)) % (3 : Int32))))))), .val (.ref b62), .unset, .unset, .unset] [])) (fun t ht => st70 t ht) ?_
    refine OFin.of (S' := T70.setTop (mkF m 82 #[.val (.int p0), .val (.int p1), .val (.int p2), .val (.int p3), .val (.int p4), .val (.int p5), .val (.int (2 : Int32)), .val (.int (own_max (1 : Int32) ((2 : Int32) + ((p4 &&& (2147483647 : Int32)) % (3 : Int32))))), .val (.int ((1 : Int32) + ((p5 &&& (2147483647 : Int32)) % (own_max (1 : Int32) ((2 : Int32) + ((p4 &&& (2147483647 : Int32)) % (3 : Int32))))))), .val (.ref b62), .unset, .unset, .unset] [(.int ((1 : Int32) + ((p5 &&& (2147483647 : Int32)) % (own_max (1 : Int32) ((2 : Int32) + ((p4 &&& (2147483647 : Int32)) % (3 : Int32))))))), (.int (2 : Int32)), (.int p2), (.int p1), (.int p0)])) (fun t ht => ?_) ?_
    · refine XS.iload X70.here hx rfl (hb hby at_64) rfl ?_
      show Steps p.tables e below (T70.setTop (mkF m 66 _ [(.int (2 : Int32))])) _
      refine XS.iconst X70.here hx rfl (hb hby at_66) ?_
      show Steps p.tables e below (T70.setTop (mkF m 67 _ [(.int (3 : Int32)), (.int (2 : Int32))])) _
      refine XS.icmpYes X70.here hx rfl (pc0 := 67) (pc' := 75) rfl (hb hby at_67) rfl (tlt (by decide : (2 : Int32) < (3 : Int32))).1 (by decide) (by decide) ?_
      show Steps p.tables e below (T70.setTop (mkF m 75 _ [])) _
      refine XS.iloadN X70.here hx rfl (hb hby at_75) rfl ?_
      show Steps p.tables e below (T70.setTop (mkF m 76 _ [(.int p0)])) _
      refine XS.iloadN X70.here hx rfl (hb hby at_76) rfl ?_
      show Steps p.tables e below (T70.setTop (mkF m 77 _ [(.int p1), (.int p0)])) _
      refine XS.iloadN X70.here hx rfl (hb hby at_77) rfl ?_
      show Steps p.tables e below (T70.setTop (mkF m 78 _ [(.int p2), (.int p1), (.int p0)])) _
      refine XS.iload X70.here hx rfl (hb hby at_78) rfl ?_
      show Steps p.tables e below (T70.setTop (mkF m 80 _ [(.int (2 : Int32)), (.int p2), (.int p1), (.int p0)])) _
      refine XS.iload X70.here hx rfl (hb hby at_80) rfl ?_
      exact ht
    obtain ⟨_, _, ⟨T74, L74, k74, n74⟩, -, X74, ⟨Lc74, hQ74, l74, y74, z74⟩, st74⟩ := Jvm.LawKit.callS X70 hx (y := (⟨"com/example/kindred_mesh/kindredmesh/simulation/FloodResultSentAtPinLaw", "expect", "(IIIII)I"⟩ : MethodName)) hown (mvT hZ (hw _ (List.mem_of_getElem? (i := 6) rfl))) (mvT hZ (hw _ (List.mem_of_getElem? (i := 7) rfl))) (mvT hZ (hw _ (List.mem_of_getElem? (i := 8) rfl))) (mvT hZ (hw _ (List.mem_of_getElem? (i := 9) rfl))) (by decide) (backOf (W := 0) (rmEx l Z _ hw [] p0 p1 p2 (2 : Int32) ((1 : Int32) + ((p5 &&& (2147483647 : Int32)) % (own_max (1 : Int32) ((2 : Int32) + ((p4 &&& (2147483647 : Int32)) % (3 : Int32)))))) h70 n0 Z71 ) hZ (hw _ (List.mem_of_getElem? (i := 9) rfl)) (hw _ (List.mem_of_getElem? (i := 8) rfl)) (by decide) (by decide)) (g := (mkF m 82 #[.val (.int p0), .val (.int p1), .val (.int p2), .val (.int p3), .val (.int p4), .val (.int p5), .val (.int (2 : Int32)), .val (.int (own_max (1 : Int32) ((2 : Int32) + ((p4 &&& (2147483647 : Int32)) % (3 : Int32))))), .val (.int ((1 : Int32) + ((p5 &&& (2147483647 : Int32)) % (own_max (1 : Int32) ((2 : Int32) + ((p4 &&& (2147483647 : Int32)) % (3 : Int32))))))), .val (.ref b62), .unset, .unset, .unset] [(.int ((1 : Int32) + ((p5 &&& (2147483647 : Int32)) % (own_max (1 : Int32) ((2 : Int32) + ((p4 &&& (2147483647 : Int32)) % (3 : Int32))))))), (.int (2 : Int32)), (.int p2), (.int p1), (.int p0)])) rfl (by rw [hml]; rfl) (argsL := [(.int p0), (.int p1), (.int p2), (.int (2 : Int32)), (.int ((1 : Int32) + ((p5 &&& (2147483647 : Int32)) % (own_max (1 : Int32) ((2 : Int32) + ((p4 &&& (2147483647 : Int32)) % (3 : Int32)))))))]) (rest := []) (lenOf pd_1 rfl) rfl (by show 2 * 0 + _ ≤ _; exact Nat.le_of_eq rfl) (hb hby at_82) (fun _ _ => ⟨rfl, e70, (by decide : 1 + 0 ≤ _), (by decide : 2 + 0 ≤ _)⟩)
    dsimp only [Pt.U, Pt.locs, Pt.cells, Pt.slots] at X74 l74 y74 z74 st74 hQ74
    subst l74 y74 z74
    obtain ⟨rfl, Nq74, hs74⟩ := hQ74
    have N75 := Fr.app N72 Nq74
    refine OFin.of (S' := T74.setTop (mkF m 85 #[.val (.int p0), .val (.int p1), .val (.int p2), .val (.int p3), .val (.int p4), .val (.int p5), .val (.int (2 : Int32)), .val (.int (own_max (1 : Int32) ((2 : Int32) + ((p4 &&& (2147483647 : Int32)) % (3 : Int32))))), .val (.int ((1 : Int32) + ((p5 &&& (2147483647 : Int32)) % (own_max (1 : Int32) ((2 : Int32) + ((p4 &&& (2147483647 : Int32)) % (3 : Int32))))))), .val (.ref b62), .unset, .unset, .unset] [(.int (own_exp p0 p1 p2 (2 : Int32) ((1 : Int32) + ((p5 &&& (2147483647 : Int32)) % (own_max (1 : Int32) ((2 : Int32) + ((p4 &&& (2147483647 : Int32)) % (3 : Int32))))))))])) (fun t ht => st74 t ht) ?_
    refine OFin.of (S' := T74.setTop (mkF m 87 #[.val (.int p0), .val (.int p1), .val (.int p2), .val (.int p3), .val (.int p4), .val (.int p5), .val (.int (2 : Int32)), .val (.int (own_max (1 : Int32) ((2 : Int32) + ((p4 &&& (2147483647 : Int32)) % (3 : Int32))))), .val (.int ((1 : Int32) + ((p5 &&& (2147483647 : Int32)) % (own_max (1 : Int32) ((2 : Int32) + ((p4 &&& (2147483647 : Int32)) % (3 : Int32))))))), .val (.ref b62), .val (.int (own_exp p0 p1 p2 (2 : Int32) ((1 : Int32) + ((p5 &&& (2147483647 : Int32)) % (own_max (1 : Int32) ((2 : Int32) + ((p4 &&& (2147483647 : Int32)) % (3 : Int32)))))))), .unset, .unset] [])) (fun t ht => ?_) ?_
    · refine XS.istore X74.here hx rfl (hb hby at_85) rfl (l' := #[.val (.int p0), .val (.int p1), .val (.int p2), .val (.int p3), .val (.int p4), .val (.int p5), .val (.int (2 : Int32)), .val (.int (own_max (1 : Int32) ((2 : Int32) + ((p4 &&& (2147483647 : Int32)) % (3 : Int32))))), .val (.int ((1 : Int32) + ((p5 &&& (2147483647 : Int32)) % (own_max (1 : Int32) ((2 : Int32) + ((p4 &&& (2147483647 : Int32)) % (3 : Int32))))))), .val (.ref b62), .val (.int (own_exp p0 p1 p2 (2 : Int32) ((1 : Int32) + ((p5 &&& (2147483647 : Int32)) % (own_max (1 : Int32) ((2 : Int32) + ((p4 &&& (2147483647 : Int32)) % (3 : Int32)))))))), .unset, .unset]) rfl ?_
      exact ht
    obtain ⟨T76, h76, X76, e76, E76, A76, D76, -, st76⟩ := newO X74 hx hZ hown (hw _ (List.mem_of_getElem? (i := 10) rfl)) (hw _ (List.mem_of_getElem? (i := 11) rfl)) (hw _ (List.mem_of_getElem? (i := 12) rfl)) hs74 (g := (mkF m 87 #[.val (.int p0), .val (.int p1), .val (.int p2), .val (.int p3), .val (.int p4), .val (.int p5), .val (.int (2 : Int32)), .val (.int (own_max (1 : Int32) ((2 : Int32) + ((p4 &&& (2147483647 : Int32)) % (3 : Int32))))), .val (.int ((1 : Int32) + ((p5 &&& (2147483647 : Int32)) % (own_max (1 : Int32) ((2 : Int32) + ((p4 &&& (2147483647 : Int32)) % (3 : Int32))))))), .val (.ref b62), .val (.int (own_exp p0 p1 p2 (2 : Int32) ((1 : Int32) + ((p5 &&& (2147483647 : Int32)) % (own_max (1 : Int32) ((2 : Int32) + ((p4 &&& (2147483647 : Int32)) % (3 : Int32)))))))), .unset, .unset] [])) rfl (hb hby at_87) (by decide) (by decide)
    obtain ⟨b76, gq76⟩ : ∃ z, z = h70.size := ⟨_, rfl⟩
    rw [← gq76] at A76 D76 st76
    have g77 : n0 ≤ b76 := (Nat.le_trans Z71 (Nat.le_of_eq gq76.symm))
    have ne78 : b62 ≠ b76 := (Nat.ne_of_lt (Nat.lt_of_lt_of_le f73.lt (Nat.le_of_eq gq76.symm)))
    have f79 := f73.ext E76
    have Z80 : n0 ≤ h76.size := (Nat.le_trans Z71 E76.1)
    have f81 : Fld Z h76 b76 "com/example/kindred_mesh/kindredmesh/simulation/FloodResult" "ttl" "I" (.int (0 : Int32)) := D76 (Or.inr (hw _ (List.mem_of_getElem? (i := 20) rfl))) (ty := .int) (by decide)
    have f82 : Fld Z h76 b76 "com/example/kindred_mesh/kindredmesh/simulation/FloodResult" "sent" "[I" .null := D76 (Or.inr (hw _ (List.mem_of_getElem? (i := 22) rfl))) (ty := (.array .int)) (by decide)
    have f83 : Fld Z h76 b76 "com/example/kindred_mesh/kindredmesh/simulation/FloodResult" "reached" "I" (.int (0 : Int32)) := D76 (Or.inr (hw _ (List.mem_of_getElem? (i := 24) rfl))) (ty := .int) (by decide)
    refine OFin.of (S' := T76.setTop (mkF m 90 #[.val (.int p0), .val (.int p1), .val (.int p2), .val (.int p3), .val (.int p4), .val (.int p5), .val (.int (2 : Int32)), .val (.int (own_max (1 : Int32) ((2 : Int32) + ((p4 &&& (2147483647 : Int32)) % (3 : Int32))))), .val (.int ((1 : Int32) + ((p5 &&& (2147483647 : Int32)) % (own_max (1 : Int32) ((2 : Int32) + ((p4 &&& (2147483647 : Int32)) % (3 : Int32))))))), .val (.ref b62), .val (.int (own_exp p0 p1 p2 (2 : Int32) ((1 : Int32) + ((p5 &&& (2147483647 : Int32)) % (own_max (1 : Int32) ((2 : Int32) + ((p4 &&& (2147483647 : Int32)) % (3 : Int32)))))))), .unset, .unset] [(.ref b76)])) (fun t ht => st76 t ht) ?_
    refine OFin.of (S' := T76.setTop (mkF m 96 #[.val (.int p0), .val (.int p1), .val (.int p2), .val (.int p3), .val (.int p4), .val (.int p5), .val (.int (2 : Int32)), .val (.int (own_max (1 : Int32) ((2 : Int32) + ((p4 &&& (2147483647 : Int32)) % (3 : Int32))))), .val (.int ((1 : Int32) + ((p5 &&& (2147483647 : Int32)) % (own_max (1 : Int32) ((2 : Int32) + ((p4 &&& (2147483647 : Int32)) % (3 : Int32))))))), .val (.ref b62), .val (.int (own_exp p0 p1 p2 (2 : Int32) ((1 : Int32) + ((p5 &&& (2147483647 : Int32)) % (own_max (1 : Int32) ((2 : Int32) + ((p4 &&& (2147483647 : Int32)) % (3 : Int32)))))))), .unset, .unset] [(.int (0 : Int32)), (.ref b62), (.int (own_max (1 : Int32) ((2 : Int32) + ((p4 &&& (2147483647 : Int32)) % (3 : Int32))))), (.ref b76), (.ref b76)])) (fun t ht => ?_) ?_
    · refine XS.dup X76.here hx rfl (hb hby at_90) rfl rfl ?_
      show Steps p.tables e below (T76.setTop (mkF m 91 _ [(.ref b76), (.ref b76)])) _
      refine XS.iload X76.here hx rfl (hb hby at_91) rfl ?_
      show Steps p.tables e below (T76.setTop (mkF m 93 _ [(.int (own_max (1 : Int32) ((2 : Int32) + ((p4 &&& (2147483647 : Int32)) % (3 : Int32))))), (.ref b76), (.ref b76)])) _
      refine XS.aload X76.here hx rfl (hb hby at_93) rfl rfl ?_
      show Steps p.tables e below (T76.setTop (mkF m 95 _ [(.ref b62), (.int (own_max (1 : Int32) ((2 : Int32) + ((p4 &&& (2147483647 : Int32)) % (3 : Int32))))), (.ref b76), (.ref b76)])) _
      refine XS.iconst X76.here hx rfl (hb hby at_95) ?_
      exact ht
    obtain ⟨_, _, ⟨T84, L84, k84, n84⟩, -, X84, ⟨Lc84, hQ84, l84, y84, z84⟩, st84⟩ := X76.specialBack hx (y := (⟨"com/example/kindred_mesh/kindredmesh/simulation/FloodResult", "<init>", "(I[II)V"⟩ : MethodName)) rfl hown (mvT hZ (hw _ (List.mem_of_getElem? (i := 13) rfl))) (mvT hZ (hw _ (List.mem_of_getElem? (i := 14) rfl))) (mvT hZ (hw _ (List.mem_of_getElem? (i := 15) rfl))) (by decide) (backOf (W := 1) (rmIni l Z _ hw [] b76 (own_max (1 : Int32) ((2 : Int32) + ((p4 &&& (2147483647 : Int32)) % (3 : Int32)))) b62 (0 : Int32) h76 n0 Z80 A76 f81 f82 f83 g77) hZ (hw _ (List.mem_of_getElem? (i := 15) rfl)) (hw _ (List.mem_of_getElem? (i := 12) rfl)) (by decide) (by decide)) (g := (mkF m 96 #[.val (.int p0), .val (.int p1), .val (.int p2), .val (.int p3), .val (.int p4), .val (.int p5), .val (.int (2 : Int32)), .val (.int (own_max (1 : Int32) ((2 : Int32) + ((p4 &&& (2147483647 : Int32)) % (3 : Int32))))), .val (.int ((1 : Int32) + ((p5 &&& (2147483647 : Int32)) % (own_max (1 : Int32) ((2 : Int32) + ((p4 &&& (2147483647 : Int32)) % (3 : Int32))))))), .val (.ref b62), .val (.int (own_exp p0 p1 p2 (2 : Int32) ((1 : Int32) + ((p5 &&& (2147483647 : Int32)) % (own_max (1 : Int32) ((2 : Int32) + ((p4 &&& (2147483647 : Int32)) % (3 : Int32)))))))), .unset, .unset] [(.int (0 : Int32)), (.ref b62), (.int (own_max (1 : Int32) ((2 : Int32) + ((p4 &&& (2147483647 : Int32)) % (3 : Int32))))), (.ref b76), (.ref b76)])) rfl (by rw [hml]; rfl) (Steps.refl _) (a := b76) (argsL := [(.int (own_max (1 : Int32) ((2 : Int32) + ((p4 &&& (2147483647 : Int32)) % (3 : Int32))))), (.ref b62), (.int (0 : Int32))]) (rest := [(.ref b76)]) (lenOf pd_2 rfl) rfl (by show 2 * 0 + _ ≤ _; exact Nat.le_of_eq rfl) (hb hby at_96) (fun _ _ => ⟨rfl, e76, (by decide : 2 + 0 ≤ _), (by decide : 5 + 0 ≤ _)⟩)
    dsimp only [Pt.U, Pt.locs, Pt.cells, Pt.slots] at X84 l84 y84 z84 st84 hQ84
    subst l84 y84 z84
    obtain ⟨rfl, Nq84, Kq84, f85, f86, f87⟩ := hQ84
    have N88 := Fr.app N75 Nq84
    have f89 := (f79.keep Kq84 (ninS ne78 nin0))
    have f90 := (A76.keep Kq84)
    have Z91 : n0 ≤ T84.heap.size := (Nat.le_trans Z80 Kq84.1)
    refine OFin.to (S' := T84.setTop (mkF m 99 #[.val (.int p0), .val (.int p1), .val (.int p2), .val (.int p3), .val (.int p4), .val (.int p5), .val (.int (2 : Int32)), .val (.int (own_max (1 : Int32) ((2 : Int32) + ((p4 &&& (2147483647 : Int32)) % (3 : Int32))))), .val (.int ((1 : Int32) + ((p5 &&& (2147483647 : Int32)) % (own_max (1 : Int32) ((2 : Int32) + ((p4 &&& (2147483647 : Int32)) % (3 : Int32))))))), .val (.ref b62), .val (.int (own_exp p0 p1 p2 (2 : Int32) ((1 : Int32) + ((p5 &&& (2147483647 : Int32)) % (own_max (1 : Int32) ((2 : Int32) + ((p4 &&& (2147483647 : Int32)) % (3 : Int32)))))))), .unset, .unset] [(.ref b76)])) st84 ?_
    refine OFin.of (S' := T84.setTop (mkF m 105 #[.val (.int p0), .val (.int p1), .val (.int p2), .val (.int p3), .val (.int p4), .val (.int p5), .val (.int (2 : Int32)), .val (.int (own_max (1 : Int32) ((2 : Int32) + ((p4 &&& (2147483647 : Int32)) % (3 : Int32))))), .val (.int ((1 : Int32) + ((p5 &&& (2147483647 : Int32)) % (own_max (1 : Int32) ((2 : Int32) + ((p4 &&& (2147483647 : Int32)) % (3 : Int32))))))), .val (.ref b62), .val (.int (own_exp p0 p1 p2 (2 : Int32) ((1 : Int32) + ((p5 &&& (2147483647 : Int32)) % (own_max (1 : Int32) ((2 : Int32) + ((p4 &&& (2147483647 : Int32)) % (3 : Int32)))))))), .val (.ref b76), .unset] [(.int ((1 : Int32) + ((p5 &&& (2147483647 : Int32)) % (own_max (1 : Int32) ((2 : Int32) + ((p4 &&& (2147483647 : Int32)) % (3 : Int32))))))), (.ref b76)])) (fun t ht => ?_) ?_
    · refine XS.astore X84.here hx rfl (hb hby at_99) rfl rfl (l' := #[.val (.int p0), .val (.int p1), .val (.int p2), .val (.int p3), .val (.int p4), .val (.int p5), .val (.int (2 : Int32)), .val (.int (own_max (1 : Int32) ((2 : Int32) + ((p4 &&& (2147483647 : Int32)) % (3 : Int32))))), .val (.int ((1 : Int32) + ((p5 &&& (2147483647 : Int32)) % (own_max (1 : Int32) ((2 : Int32) + ((p4 &&& (2147483647 : Int32)) % (3 : Int32))))))), .val (.ref b62), .val (.int (own_exp p0 p1 p2 (2 : Int32) ((1 : Int32) + ((p5 &&& (2147483647 : Int32)) % (own_max (1 : Int32) ((2 : Int32) + ((p4 &&& (2147483647 : Int32)) % (3 : Int32)))))))), .val (.ref b76), .unset]) rfl ?_
      show Steps p.tables e below (T84.setTop (mkF m 101 #[.val (.int p0), .val (.int p1), .val (.int p2), .val (.int p3), .val (.int p4), .val (.int p5), .val (.int (2 : Int32)), .val (.int (own_max (1 : Int32) ((2 : Int32) + ((p4 &&& (2147483647 : Int32)) % (3 : Int32))))), .val (.int ((1 : Int32) + ((p5 &&& (2147483647 : Int32)) % (own_max (1 : Int32) ((2 : Int32) + ((p4 &&& (2147483647 : Int32)) % (3 : Int32))))))), .val (.ref b62), .val (.int (own_exp p0 p1 p2 (2 : Int32) ((1 : Int32) + ((p5 &&& (2147483647 : Int32)) % (own_max (1 : Int32) ((2 : Int32) + ((p4 &&& (2147483647 : Int32)) % (3 : Int32)))))))), .val (.ref b76), .unset] [])) _
      refine XS.aload X84.here hx rfl (hb hby at_101) rfl rfl ?_
      show Steps p.tables e below (T84.setTop (mkF m 103 _ [(.ref b76)])) _
      refine XS.iload X84.here hx rfl (hb hby at_103) rfl ?_
      exact ht
    obtain ⟨cq93, kq93, q93a, q93b, q93c⟩ := isOf hZ (rfl : T84.heap = T84.heap) f90
    obtain ⟨_, _, ⟨T92, L92, k92, n92⟩, -, X92, ⟨Lc92, hQ92, l92, y92, z92⟩, st92⟩ := X84.virtualBack hx (y := (⟨"com/example/kindred_mesh/kindredmesh/simulation/FloodResult", "sentAt", "(I)I"⟩ : MethodName)) (z := (⟨"com/example/kindred_mesh/kindredmesh/simulation/FloodResult", "sentAt", "(I)I"⟩ : MethodName)) hown (mvT hZ (hw _ (List.mem_of_getElem? (i := 25) rfl))) (mvT hZ (hw _ (List.mem_of_getElem? (i := 26) rfl))) (notFace_of_selects (args := #[]) (mvT hZ (hw _ (List.mem_of_getElem? (i := 28) rfl)))) (mvT hZ (hw _ (List.mem_of_getElem? (i := 28) rfl))) (mvT hZ (hw _ (List.mem_of_getElem? (i := 27) rfl))) (by decide) (backOf (W := 0) (rmSa l Z _ hw [] b76 ((1 : Int32) + ((p5 &&& (2147483647 : Int32)) % (own_max (1 : Int32) ((2 : Int32) + ((p4 &&& (2147483647 : Int32)) % (3 : Int32)))))) b62 k62 (2 : Int32) [(.int p0), (.int p1)] (own_exp p0 p1 p2 (2 : Int32) ((1 : Int32) + ((p5 &&& (2147483647 : Int32)) % (own_max (1 : Int32) ((2 : Int32) + ((p4 &&& (2147483647 : Int32)) % (3 : Int32))))))) T84.heap n0 Z91 f86 f89 (own_pos (own_hop _ _ hT.1 hT.2).1) (own_g2 (own_hop _ _ hT.1 hT.2).1)) hZ (hw _ (List.mem_of_getElem? (i := 29) rfl)) (hw _ (List.mem_of_getElem? (i := 12) rfl)) (by decide) (by decide)) q93a q93c (g := (mkF m 105 #[.val (.int p0), .val (.int p1), .val (.int p2), .val (.int p3), .val (.int p4), .val (.int p5), .val (.int (2 : Int32)), .val (.int (own_max (1 : Int32) ((2 : Int32) + ((p4 &&& (2147483647 : Int32)) % (3 : Int32))))), .val (.int ((1 : Int32) + ((p5 &&& (2147483647 : Int32)) % (own_max (1 : Int32) ((2 : Int32) + ((p4 &&& (2147483647 : Int32)) % (3 : Int32))))))), .val (.ref b62), .val (.int (own_exp p0 p1 p2 (2 : Int32) ((1 : Int32) + ((p5 &&& (2147483647 : Int32)) % (own_max (1 : Int32) ((2 : Int32) + ((p4 &&& (2147483647 : Int32)) % (3 : Int32)))))))), .val (.ref b76), .unset] [(.int ((1 : Int32) + ((p5 &&& (2147483647 : Int32)) % (own_max (1 : Int32) ((2 : Int32) + ((p4 &&& (2147483647 : Int32)) % (3 : Int32))))))), (.ref b76)])) rfl (by rw [hml]; rfl) (Steps.refl _) (argsL := [(.int ((1 : Int32) + ((p5 &&& (2147483647 : Int32)) % (own_max (1 : Int32) ((2 : Int32) + ((p4 &&& (2147483647 : Int32)) % (3 : Int32)))))))]) (rest := []) (lenOf pd_3 rfl) rfl (by show 2 * 0 + _ ≤ _; exact Nat.le_of_eq rfl) (hb hby at_105) (fun _ _ => ⟨rfl, (rfl : T84.heap = T84.heap), (by decide : 2 + 0 ≤ _), (by decide : 5 + 0 ≤ _)⟩)
    dsimp only [Pt.U, Pt.locs, Pt.cells, Pt.slots] at X92 l92 y92 z92 st92 hQ92
    subst l92 y92 z92
    obtain ⟨rfl, Nq92, hs92⟩ := hQ92
    have N94 := Fr.app N88 Nq92
    refine OFin.to (S' := T92.setTop (mkF m 108 #[.val (.int p0), .val (.int p1), .val (.int p2), .val (.int p3), .val (.int p4), .val (.int p5), .val (.int (2 : Int32)), .val (.int (own_max (1 : Int32) ((2 : Int32) + ((p4 &&& (2147483647 : Int32)) % (3 : Int32))))), .val (.int ((1 : Int32) + ((p5 &&& (2147483647 : Int32)) % (own_max (1 : Int32) ((2 : Int32) + ((p4 &&& (2147483647 : Int32)) % (3 : Int32))))))), .val (.ref b62), .val (.int (own_exp p0 p1 p2 (2 : Int32) ((1 : Int32) + ((p5 &&& (2147483647 : Int32)) % (own_max (1 : Int32) ((2 : Int32) + ((p4 &&& (2147483647 : Int32)) % (3 : Int32)))))))), .val (.ref b76), .unset] [(.int (own_sent (2 : Int32) ((1 : Int32) + ((p5 &&& (2147483647 : Int32)) % (own_max (1 : Int32) ((2 : Int32) + ((p4 &&& (2147483647 : Int32)) % (3 : Int32)))))) (own_exp p0 p1 p2 (2 : Int32) ((1 : Int32) + ((p5 &&& (2147483647 : Int32)) % (own_max (1 : Int32) ((2 : Int32) + ((p4 &&& (2147483647 : Int32)) % (3 : Int32)))))))))])) st92 ?_
    refine OFin.of (S' := T92.setTop (mkF m 122 #[.val (.int p0), .val (.int p1), .val (.int p2), .val (.int p3), .val (.int p4), .val (.int p5), .val (.int (2 : Int32)), .val (.int (own_max (1 : Int32) ((2 : Int32) + ((p4 &&& (2147483647 : Int32)) % (3 : Int32))))), .val (.int ((1 : Int32) + ((p5 &&& (2147483647 : Int32)) % (own_max (1 : Int32) ((2 : Int32) + ((p4 &&& (2147483647 : Int32)) % (3 : Int32))))))), .val (.ref b62), .val (.int (own_exp p0 p1 p2 (2 : Int32) ((1 : Int32) + ((p5 &&& (2147483647 : Int32)) % (own_max (1 : Int32) ((2 : Int32) + ((p4 &&& (2147483647 : Int32)) % (3 : Int32)))))))), .val (.ref b76), .val (.int (own_sent (2 : Int32) ((1 : Int32) + ((p5 &&& (2147483647 : Int32)) % (own_max (1 : Int32) ((2 : Int32) + ((p4 &&& (2147483647 : Int32)) % (3 : Int32)))))) (own_exp p0 p1 p2 (2 : Int32) ((1 : Int32) + ((p5 &&& (2147483647 : Int32)) % (own_max (1 : Int32) ((2 : Int32) + ((p4 &&& (2147483647 : Int32)) % (3 : Int32)))))))))] [(.int (1 : Int32))])) (fun t ht => ?_) ?_
    · refine XS.istore X92.here hx rfl (hb hby at_108) rfl (l' := #[.val (.int p0), .val (.int p1), .val (.int p2), .val (.int p3), .val (.int p4), .val (.int p5), .val (.int (2 : Int32)), .val (.int (own_max (1 : Int32) ((2 : Int32) + ((p4 &&& (2147483647 : Int32)) % (3 : Int32))))), .val (.int ((1 : Int32) + ((p5 &&& (2147483647 : Int32)) % (own_max (1 : Int32) ((2 : Int32) + ((p4 &&& (2147483647 : Int32)) % (3 : Int32))))))), .val (.ref b62), .val (.int (own_exp p0 p1 p2 (2 : Int32) ((1 : Int32) + ((p5 &&& (2147483647 : Int32)) % (own_max (1 : Int32) ((2 : Int32) + ((p4 &&& (2147483647 : Int32)) % (3 : Int32)))))))), .val (.ref b76), .val (.int (own_sent (2 : Int32) ((1 : Int32) + ((p5 &&& (2147483647 : Int32)) % (own_max (1 : Int32) ((2 : Int32) + ((p4 &&& (2147483647 : Int32)) % (3 : Int32)))))) (own_exp p0 p1 p2 (2 : Int32) ((1 : Int32) + ((p5 &&& (2147483647 : Int32)) % (own_max (1 : Int32) ((2 : Int32) + ((p4 &&& (2147483647 : Int32)) % (3 : Int32)))))))))]) rfl ?_
      show Steps p.tables e below (T92.setTop (mkF m 110 #[.val (.int p0), .val (.int p1), .val (.int p2), .val (.int p3), .val (.int p4), .val (.int p5), .val (.int (2 : Int32)), .val (.int (own_max (1 : Int32) ((2 : Int32) + ((p4 &&& (2147483647 : Int32)) % (3 : Int32))))), .val (.int ((1 : Int32) + ((p5 &&& (2147483647 : Int32)) % (own_max (1 : Int32) ((2 : Int32) + ((p4 &&& (2147483647 : Int32)) % (3 : Int32))))))), .val (.ref b62), .val (.int (own_exp p0 p1 p2 (2 : Int32) ((1 : Int32) + ((p5 &&& (2147483647 : Int32)) % (own_max (1 : Int32) ((2 : Int32) + ((p4 &&& (2147483647 : Int32)) % (3 : Int32)))))))), .val (.ref b76), .val (.int (own_sent (2 : Int32) ((1 : Int32) + ((p5 &&& (2147483647 : Int32)) % (own_max (1 : Int32) ((2 : Int32) + ((p4 &&& (2147483647 : Int32)) % (3 : Int32)))))) (own_exp p0 p1 p2 (2 : Int32) ((1 : Int32) + ((p5 &&& (2147483647 : Int32)) % (own_max (1 : Int32) ((2 : Int32) + ((p4 &&& (2147483647 : Int32)) % (3 : Int32)))))))))] [])) _
      refine XS.iload X92.here hx rfl (hb hby at_110) rfl ?_
      show Steps p.tables e below (T92.setTop (mkF m 112 _ [(.int (own_sent (2 : Int32) ((1 : Int32) + ((p5 &&& (2147483647 : Int32)) % (own_max (1 : Int32) ((2 : Int32) + ((p4 &&& (2147483647 : Int32)) % (3 : Int32)))))) (own_exp p0 p1 p2 (2 : Int32) ((1 : Int32) + ((p5 &&& (2147483647 : Int32)) % (own_max (1 : Int32) ((2 : Int32) + ((p4 &&& (2147483647 : Int32)) % (3 : Int32)))))))))])) _
      refine XS.iload X92.here hx rfl (hb hby at_112) rfl ?_
      show Steps p.tables e below (T92.setTop (mkF m 114 _ [(.int (own_exp p0 p1 p2 (2 : Int32) ((1 : Int32) + ((p5 &&& (2147483647 : Int32)) % (own_max (1 : Int32) ((2 : Int32) + ((p4 &&& (2147483647 : Int32)) % (3 : Int32)))))))), (.int (own_sent (2 : Int32) ((1 : Int32) + ((p5 &&& (2147483647 : Int32)) % (own_max (1 : Int32) ((2 : Int32) + ((p4 &&& (2147483647 : Int32)) % (3 : Int32)))))) (own_exp p0 p1 p2 (2 : Int32) ((1 : Int32) + ((p5 &&& (2147483647 : Int32)) % (own_max (1 : Int32) ((2 : Int32) + ((p4 &&& (2147483647 : Int32)) % (3 : Int32)))))))))])) _
      refine XS.icmpNo X92.here hx rfl (hb hby at_114) rfl (teq (own_law (by decide) : (own_sent (2 : Int32) ((1 : Int32) + ((p5 &&& (2147483647 : Int32)) % (own_max (1 : Int32) ((2 : Int32) + ((p4 &&& (2147483647 : Int32)) % (3 : Int32)))))) (own_exp p0 p1 p2 (2 : Int32) ((1 : Int32) + ((p5 &&& (2147483647 : Int32)) % (own_max (1 : Int32) ((2 : Int32) + ((p4 &&& (2147483647 : Int32)) % (3 : Int32)))))))) = (own_exp p0 p1 p2 (2 : Int32) ((1 : Int32) + ((p5 &&& (2147483647 : Int32)) % (own_max (1 : Int32) ((2 : Int32) + ((p4 &&& (2147483647 : Int32)) % (3 : Int32))))))))).2 ?_
      show Steps p.tables e below (T92.setTop (mkF m 117 _ [])) _
      refine XS.iconst X92.here hx rfl (hb hby at_117) ?_
      show Steps p.tables e below (T92.setTop (mkF m 118 _ [(.int (1 : Int32))])) _
      refine XS.goto X92.here hx rfl (pc0 := 118) (pc' := 122) rfl (hb hby at_118) (by decide) (by decide) ?_
      exact ht
    exact OFin.retB X92 hx hlk (t := .boolean) (by simp) hret (hb hby at_122) (by decide) (by decide) (by rw [hs92]; exact ⟨rfl, N94⟩)
  · rw [hq1]
    refine OFin.of (S' := s₁.setTop (mkF m 19 #[.val (.int p0), .val (.int p1), .val (.int p2), .val (.int p3), .val (.int p4), .val (.int p5), .val (.int (3 : Int32)), .unset, .unset, .unset, .unset, .unset, .unset] [(.int ((3 : Int32) + ((p4 &&& (2147483647 : Int32)) % (3 : Int32)))), (.int (1 : Int32))])) (fun t ht => ?_) ?_
    · refine XS.istore X0.here hx rfl (hb hby at_6) rfl (l' := #[.val (.int p0), .val (.int p1), .val (.int p2), .val (.int p3), .val (.int p4), .val (.int p5), .val (.int (3 : Int32)), .unset, .unset, .unset, .unset, .unset, .unset]) rfl ?_
      show Steps p.tables e below (s₁.setTop (mkF m 8 #[.val (.int p0), .val (.int p1), .val (.int p2), .val (.int p3), .val (.int p4), .val (.int p5), .val (.int (3 : Int32)), .unset, .unset, .unset, .unset, .unset, .unset] [])) _
      refine XS.iconst X0.here hx rfl (hb hby at_8) ?_
      show Steps p.tables e below (s₁.setTop (mkF m 9 _ [(.int (1 : Int32))])) _
      refine XS.iload X0.here hx rfl (hb hby at_9) rfl ?_
      show Steps p.tables e below (s₁.setTop (mkF m 11 _ [(.int (3 : Int32)), (.int (1 : Int32))])) _
      refine XS.iload X0.here hx rfl (hb hby at_11) rfl ?_
      show Steps p.tables e below (s₁.setTop (mkF m 13 _ [(.int p4), (.int (3 : Int32)), (.int (1 : Int32))])) _
      refine X0.ldcInt hx hown (mvT hZ (hw _ (List.mem_of_getElem? (i := 0) rfl))) (g := (mkF m 13 #[.val (.int p0), .val (.int p1), .val (.int p2), .val (.int p3), .val (.int p4), .val (.int p5), .val (.int (3 : Int32)), .unset, .unset, .unset, .unset, .unset, .unset] [(.int p4), (.int (3 : Int32)), (.int (1 : Int32))])) rfl (hb hby at_13) _ ?_
      show Steps p.tables e below (s₁.setTop (mkF m 15 _ [(.int (2147483647 : Int32)), (.int p4), (.int (3 : Int32)), (.int (1 : Int32))])) _
      refine XS.iand X0.here hx rfl (hb hby at_15) rfl ?_
      show Steps p.tables e below (s₁.setTop (mkF m 16 _ [(.int (p4 &&& (2147483647 : Int32))), (.int (3 : Int32)), (.int (1 : Int32))])) _
      refine XS.iconst X0.here hx rfl (hb hby at_16) ?_
      show Steps p.tables e below (s₁.setTop (mkF m 17 _ [(.int (3 : Int32)), (.int (p4 &&& (2147483647 : Int32))), (.int (3 : Int32)), (.int (1 : Int32))])) _
      refine iremM X0 hx rfl (hb hby at_17) rfl (by decide) ?_
      show Steps p.tables e below (s₁.setTop (mkF m 18 _ [(.int ((p4 &&& (2147483647 : Int32)) % (3 : Int32))), (.int (3 : Int32)), (.int (1 : Int32))])) _
      refine XS.iadd X0.here hx rfl (hb hby at_18) rfl ?_
      exact ht
    obtain ⟨_, _, ⟨T95, L95, k95, n95⟩, -, X95, ⟨Lc95, hQ95, l95, y95, z95⟩, st95⟩ := Jvm.LawKit.callS X0 hx (y := (⟨"java/lang/Math", "max", "(II)I"⟩ : MethodName)) hown (mvT hZ (hw _ (List.mem_of_getElem? (i := 1) rfl))) (mvT hZ (hw _ (List.mem_of_getElem? (i := 2) rfl))) (mvT hZ (hw _ (List.mem_of_getElem? (i := 3) rfl))) (mvT hZ (hw _ (List.mem_of_getElem? (i := 4) rfl))) (by decide) (backOf (W := 0) (rmMx l Z _ hw [] (1 : Int32) ((3 : Int32) + ((p4 &&& (2147483647 : Int32)) % (3 : Int32))) h0 n0 Z0 ) hZ (hw _ (List.mem_of_getElem? (i := 4) rfl)) (hw _ (List.mem_of_getElem? (i := 3) rfl)) (by decide) (by decide)) (g := (mkF m 19 #[.val (.int p0), .val (.int p1), .val (.int p2), .val (.int p3), .val (.int p4), .val (.int p5), .val (.int (3 : Int32)), .unset, .unset, .unset, .unset, .unset, .unset] [(.int ((3 : Int32) + ((p4 &&& (2147483647 : Int32)) % (3 : Int32)))), (.int (1 : Int32))])) rfl (by rw [hml]; rfl) (argsL := [(.int (1 : Int32)), (.int ((3 : Int32) + ((p4 &&& (2147483647 : Int32)) % (3 : Int32))))]) (rest := []) (lenOf pd_0 rfl) rfl (by show 2 * 0 + _ ≤ _; exact Nat.le_of_eq rfl) (hb hby at_19) (fun _ _ => ⟨rfl, e0, (by decide : 0 + 0 ≤ _), (by decide : 0 + 0 ≤ _)⟩)
    dsimp only [Pt.U, Pt.locs, Pt.cells, Pt.slots] at X95 l95 y95 z95 st95 hQ95
    subst l95 y95 z95
    obtain ⟨rfl, Nq95, hs95⟩ := hQ95
    have N96 := Fr.app N0 Nq95
    refine OFin.of (S' := T95.setTop (mkF m 22 #[.val (.int p0), .val (.int p1), .val (.int p2), .val (.int p3), .val (.int p4), .val (.int p5), .val (.int (3 : Int32)), .unset, .unset, .unset, .unset, .unset, .unset] [(.int (own_max (1 : Int32) ((3 : Int32) + ((p4 &&& (2147483647 : Int32)) % (3 : Int32)))))])) (fun t ht => st95 t ht) ?_
    have hT := own_T (3 : Int32) p4 (by decide) (by decide)
    refine OFin.of (S' := T95.setTop (mkF m 38 #[.val (.int p0), .val (.int p1), .val (.int p2), .val (.int p3), .val (.int p4), .val (.int p5), .val (.int (3 : Int32)), .val (.int (own_max (1 : Int32) ((3 : Int32) + ((p4 &&& (2147483647 : Int32)) % (3 : Int32))))), .val (.int ((1 : Int32) + ((p5 &&& (2147483647 : Int32)) % (own_max (1 : Int32) ((3 : Int32) + ((p4 &&& (2147483647 : Int32)) % (3 : Int32))))))), .unset, .unset, .unset, .unset] [(.int (3 : Int32))])) (fun t ht => ?_) ?_
    · refine XS.istore X95.here hx rfl (hb hby at_22) rfl (l' := #[.val (.int p0), .val (.int p1), .val (.int p2), .val (.int p3), .val (.int p4), .val (.int p5), .val (.int (3 : Int32)), .val (.int (own_max (1 : Int32) ((3 : Int32) + ((p4 &&& (2147483647 : Int32)) % (3 : Int32))))), .unset, .unset, .unset, .unset, .unset]) rfl ?_
      show Steps p.tables e below (T95.setTop (mkF m 24 #[.val (.int p0), .val (.int p1), .val (.int p2), .val (.int p3), .val (.int p4), .val (.int p5), .val (.int (3 : Int32)), .val (.int (own_max (1 : Int32) ((3 : Int32) + ((p4 &&& (2147483647 : Int32)) % (3 : Int32))))), .unset, .unset, .unset, .unset, .unset] [])) _
      refine XS.iconst X95.here hx rfl (hb hby at_24) ?_
      show Steps p.tables e below (T95.setTop (mkF m 25 _ [(.int (1 : Int32))])) _
      refine XS.iload X95.here hx rfl (hb hby at_25) rfl ?_
      show Steps p.tables e below (T95.setTop (mkF m 27 _ [(.int p5), (.int (1 : Int32))])) _
      refine X95.ldcInt hx hown (mvT hZ (hw _ (List.mem_of_getElem? (i := 0) rfl))) (g := (mkF m 27 #[.val (.int p0), .val (.int p1), .val (.int p2), .val (.int p3), .val (.int p4), .val (.int p5), .val (.int (3 : Int32)), .val (.int (own_max (1 : Int32) ((3 : Int32) + ((p4 &&& (2147483647 : Int32)) % (3 : Int32))))), .unset, .unset, .unset, .unset, .unset] [(.int p5), (.int (1 : Int32))])) rfl (hb hby at_27) _ ?_
      show Steps p.tables e below (T95.setTop (mkF m 29 _ [(.int (2147483647 : Int32)), (.int p5), (.int (1 : Int32))])) _
      refine XS.iand X95.here hx rfl (hb hby at_29) rfl ?_
      show Steps p.tables e below (T95.setTop (mkF m 30 _ [(.int (p5 &&& (2147483647 : Int32))), (.int (1 : Int32))])) _
      refine XS.iload X95.here hx rfl (hb hby at_30) rfl ?_
      show Steps p.tables e below (T95.setTop (mkF m 32 _ [(.int (own_max (1 : Int32) ((3 : Int32) + ((p4 &&& (2147483647 : Int32)) % (3 : Int32))))), (.int (p5 &&& (2147483647 : Int32))), (.int (1 : Int32))])) _
      refine iremM X95 hx rfl (hb hby at_32) rfl (own_nz hT.1) ?_
      show Steps p.tables e below (T95.setTop (mkF m 33 _ [(.int ((p5 &&& (2147483647 : Int32)) % (own_max (1 : Int32) ((3 : Int32) + ((p4 &&& (2147483647 : Int32)) % (3 : Int32)))))), (.int (1 : Int32))])) _
      refine XS.iadd X95.here hx rfl (hb hby at_33) rfl ?_
      show Steps p.tables e below (T95.setTop (mkF m 34 _ [(.int ((1 : Int32) + ((p5 &&& (2147483647 : Int32)) % (own_max (1 : Int32) ((3 : Int32) + ((p4 &&& (2147483647 : Int32)) % (3 : Int32)))))))])) _
      refine XS.istore X95.here hx rfl (hb hby at_34) rfl (l' := #[.val (.int p0), .val (.int p1), .val (.int p2), .val (.int p3), .val (.int p4), .val (.int p5), .val (.int (3 : Int32)), .val (.int (own_max (1 : Int32) ((3 : Int32) + ((p4 &&& (2147483647 : Int32)) % (3 : Int32))))), .val (.int ((1 : Int32) + ((p5 &&& (2147483647 : Int32)) % (own_max (1 : Int32) ((3 : Int32) + ((p4 &&& (2147483647 : Int32)) % (3 : Int32))))))), .unset, .unset, .unset, .unset]) rfl ?_
      show Steps p.tables e below (T95.setTop (mkF m 36 #[.val (.int p0), .val (.int p1), .val (.int p2), .val (.int p3), .val (.int p4), .val (.int p5), .val (.int (3 : Int32)), .val (.int (own_max (1 : Int32) ((3 : Int32) + ((p4 &&& (2147483647 : Int32)) % (3 : Int32))))), .val (.int ((1 : Int32) + ((p5 &&& (2147483647 : Int32)) % (own_max (1 : Int32) ((3 : Int32) + ((p4 &&& (2147483647 : Int32)) % (3 : Int32))))))), .unset, .unset, .unset, .unset] [])) _
      refine XS.iload X95.here hx rfl (hb hby at_36) rfl ?_
      exact ht
    obtain ⟨T97, h97, k97, X97, e97, E97, A97, st97⟩ := newP X95 hx hZ (hw _ (List.mem_of_getElem? (i := 5) rfl)) hs95 (g := (mkF m 38 #[.val (.int p0), .val (.int p1), .val (.int p2), .val (.int p3), .val (.int p4), .val (.int p5), .val (.int (3 : Int32)), .val (.int (own_max (1 : Int32) ((3 : Int32) + ((p4 &&& (2147483647 : Int32)) % (3 : Int32))))), .val (.int ((1 : Int32) + ((p5 &&& (2147483647 : Int32)) % (own_max (1 : Int32) ((3 : Int32) + ((p4 &&& (2147483647 : Int32)) % (3 : Int32))))))), .unset, .unset, .unset, .unset] [(.int (3 : Int32))])) rfl (hb hby at_38) rfl (by decide) (cap := 3) (by decide) (by decide) (by decide) (by decide)
    obtain ⟨b97, gq97⟩ : ∃ z, z = h0.size := ⟨_, rfl⟩
    rw [← gq97] at A97 st97
    have g98 : n0 ≤ b97 := (Nat.le_trans Z0 (Nat.le_of_eq gq97.symm))
    have Z99 : n0 ≤ h97.size := (Nat.le_trans Z0 E97.1)
    have f100 : Arv Z h97 b97 k97 .int (3 : Int32) [(.int (0 : Int32)), (.int (0 : Int32)), (.int (0 : Int32))] (.int (0 : Int32)) := ((Arv.new A97 (by decide)).pad (pad_rep [] (.int (0 : Int32)) 3))
    refine OFin.of (S' := T97.setTop (mkF m 40 #[.val (.int p0), .val (.int p1), .val (.int p2), .val (.int p3), .val (.int p4), .val (.int p5), .val (.int (3 : Int32)), .val (.int (own_max (1 : Int32) ((3 : Int32) + ((p4 &&& (2147483647 : Int32)) % (3 : Int32))))), .val (.int ((1 : Int32) + ((p5 &&& (2147483647 : Int32)) % (own_max (1 : Int32) ((3 : Int32) + ((p4 &&& (2147483647 : Int32)) % (3 : Int32))))))), .unset, .unset, .unset, .unset] [(.ref b97)])) (fun t ht => st97 t ht) ?_
    refine OFin.of (S' := T97.setTop (mkF m 52 #[.val (.int p0), .val (.int p1), .val (.int p2), .val (.int p3), .val (.int p4), .val (.int p5), .val (.int (3 : Int32)), .val (.int (own_max (1 : Int32) ((3 : Int32) + ((p4 &&& (2147483647 : Int32)) % (3 : Int32))))), .val (.int ((1 : Int32) + ((p5 &&& (2147483647 : Int32)) % (own_max (1 : Int32) ((3 : Int32) + ((p4 &&& (2147483647 : Int32)) % (3 : Int32))))))), .val (.ref b97), .unset, .unset, .unset] [(.int p0), (.int (0 : Int32)), (.ref b97)])) (fun t ht => ?_) ?_
    · refine XS.astore X97.here hx rfl (hb hby at_40) rfl rfl (l' := #[.val (.int p0), .val (.int p1), .val (.int p2), .val (.int p3), .val (.int p4), .val (.int p5), .val (.int (3 : Int32)), .val (.int (own_max (1 : Int32) ((3 : Int32) + ((p4 &&& (2147483647 : Int32)) % (3 : Int32))))), .val (.int ((1 : Int32) + ((p5 &&& (2147483647 : Int32)) % (own_max (1 : Int32) ((3 : Int32) + ((p4 &&& (2147483647 : Int32)) % (3 : Int32))))))), .val (.ref b97), .unset, .unset, .unset]) rfl ?_
      show Steps p.tables e below (T97.setTop (mkF m 42 #[.val (.int p0), .val (.int p1), .val (.int p2), .val (.int p3), .val (.int p4), .val (.int p5), .val (.int (3 : Int32)), .val (.int (own_max (1 : Int32) ((3 : Int32) + ((p4 &&& (2147483647 : Int32)) % (3 : Int32))))), .val (.int ((1 : Int32) + ((p5 &&& (2147483647 : Int32)) % (own_max (1 : Int32) ((3 : Int32) + ((p4 &&& (2147483647 : Int32)) % (3 : Int32))))))), .val (.ref b97), .unset, .unset, .unset] [])) _
      refine XS.iload X97.here hx rfl (hb hby at_42) rfl ?_
      show Steps p.tables e below (T97.setTop (mkF m 44 _ [(.int (3 : Int32))])) _
      refine XS.iconst X97.here hx rfl (hb hby at_44) ?_
      show Steps p.tables e below (T97.setTop (mkF m 45 _ [(.int (1 : Int32)), (.int (3 : Int32))])) _
      refine XS.icmpNo X97.here hx rfl (hb hby at_45) rfl (flt (by decide : ¬ ((3 : Int32) < (1 : Int32)))).1 ?_
      show Steps p.tables e below (T97.setTop (mkF m 48 _ [])) _
      refine XS.aload X97.here hx rfl (hb hby at_48) rfl rfl ?_
      show Steps p.tables e below (T97.setTop (mkF m 50 _ [(.ref b97)])) _
      refine XS.iconst X97.here hx rfl (hb hby at_50) ?_
      show Steps p.tables e below (T97.setTop (mkF m 51 _ [(.int (0 : Int32)), (.ref b97)])) _
      refine XS.iloadN X97.here hx rfl (hb hby at_51) rfl ?_
      exact ht
    obtain ⟨cl101, Ar101, q101, S101, Ng101, H101, G101⟩ := id f100
    have hin101 := inb_of (j := (0 : Int32)) S101 ⟨by decide, by decide⟩
    obtain ⟨T101, h101, X101, e101, W101, st101⟩ := stI X97 hx hZ e97 Ar101 (j := (0 : Int32)) hin101 (g := (mkF m 52 #[.val (.int p0), .val (.int p1), .val (.int p2), .val (.int p3), .val (.int p4), .val (.int p5), .val (.int (3 : Int32)), .val (.int (own_max (1 : Int32) ((3 : Int32) + ((p4 &&& (2147483647 : Int32)) % (3 : Int32))))), .val (.int ((1 : Int32) + ((p5 &&& (2147483647 : Int32)) % (own_max (1 : Int32) ((3 : Int32) + ((p4 &&& (2147483647 : Int32)) % (3 : Int32))))))), .val (.ref b97), .unset, .unset, .unset] [(.int p0), (.int (0 : Int32)), (.ref b97)])) rfl rfl (hb hby at_52)
    have Z102 : n0 ≤ h101.size := (Nat.le_trans Z99 (Keep.of_wr W101).1)
    have N103 := Fr.snoc X101 N96 g98
    have f104 : Arv Z h101 b97 k97 .int (3 : Int32) [(.int p0), (.int (0 : Int32)), (.int (0 : Int32))] (.int (0 : Int32)) := Arv.set Ar101 q101 S101 Ng101 H101 G101 rfl W101 0 rfl (Nat.le_of_ble_eq_true rfl)
    refine OFin.of (S' := T101.setTop (mkF m 53 #[.val (.int p0), .val (.int p1), .val (.int p2), .val (.int p3), .val (.int p4), .val (.int p5), .val (.int (3 : Int32)), .val (.int (own_max (1 : Int32) ((3 : Int32) + ((p4 &&& (2147483647 : Int32)) % (3 : Int32))))), .val (.int ((1 : Int32) + ((p5 &&& (2147483647 : Int32)) % (own_max (1 : Int32) ((3 : Int32) + ((p4 &&& (2147483647 : Int32)) % (3 : Int32))))))), .val (.ref b97), .unset, .unset, .unset] [])) (fun t ht => st101 t ht) ?_
    refine OFin.of (S' := T101.setTop (mkF m 63 #[.val (.int p0), .val (.int p1), .val (.int p2), .val (.int p3), .val (.int p4), .val (.int p5), .val (.int (3 : Int32)), .val (.int (own_max (1 : Int32) ((3 : Int32) + ((p4 &&& (2147483647 : Int32)) % (3 : Int32))))), .val (.int ((1 : Int32) + ((p5 &&& (2147483647 : Int32)) % (own_max (1 : Int32) ((3 : Int32) + ((p4 &&& (2147483647 : Int32)) % (3 : Int32))))))), .val (.ref b97), .unset, .unset, .unset] [(.int p1), (.int (1 : Int32)), (.ref b97)])) (fun t ht => ?_) ?_
    · refine XS.iload X101.here hx rfl (hb hby at_53) rfl ?_
      show Steps p.tables e below (T101.setTop (mkF m 55 _ [(.int (3 : Int32))])) _
      refine XS.iconst X101.here hx rfl (hb hby at_55) ?_
      show Steps p.tables e below (T101.setTop (mkF m 56 _ [(.int (2 : Int32)), (.int (3 : Int32))])) _
      refine XS.icmpNo X101.here hx rfl (hb hby at_56) rfl (flt (by decide : ¬ ((3 : Int32) < (2 : Int32)))).1 ?_
      show Steps p.tables e below (T101.setTop (mkF m 59 _ [])) _
      refine XS.aload X101.here hx rfl (hb hby at_59) rfl rfl ?_
      show Steps p.tables e below (T101.setTop (mkF m 61 _ [(.ref b97)])) _
      refine XS.iconst X101.here hx rfl (hb hby at_61) ?_
      show Steps p.tables e below (T101.setTop (mkF m 62 _ [(.int (1 : Int32)), (.ref b97)])) _
      refine XS.iloadN X101.here hx rfl (hb hby at_62) rfl ?_
      exact ht
    obtain ⟨cl105, Ar105, q105, S105, Ng105, H105, G105⟩ := id f104
    have hin105 := inb_of (j := (1 : Int32)) S105 ⟨by decide, by decide⟩
    obtain ⟨T105, h105, X105, e105, W105, st105⟩ := stI X101 hx hZ e101 Ar105 (j := (1 : Int32)) hin105 (g := (mkF m 63 #[.val (.int p0), .val (.int p1), .val (.int p2), .val (.int p3), .val (.int p4), .val (.int p5), .val (.int (3 : Int32)), .val (.int (own_max (1 : Int32) ((3 : Int32) + ((p4 &&& (2147483647 : Int32)) % (3 : Int32))))), .val (.int ((1 : Int32) + ((p5 &&& (2147483647 : Int32)) % (own_max (1 : Int32) ((3 : Int32) + ((p4 &&& (2147483647 : Int32)) % (3 : Int32))))))), .val (.ref b97), .unset, .unset, .unset] [(.int p1), (.int (1 : Int32)), (.ref b97)])) rfl rfl (hb hby at_63)
    have Z106 : n0 ≤ h105.size := (Nat.le_trans Z102 (Keep.of_wr W105).1)
    have N107 := Fr.snoc X105 N103 g98
    have f108 : Arv Z h105 b97 k97 .int (3 : Int32) [(.int p0), (.int p1), (.int (0 : Int32))] (.int (0 : Int32)) := Arv.set Ar105 q105 S105 Ng105 H105 G105 rfl W105 1 rfl (Nat.le_of_ble_eq_true rfl)
    refine OFin.of (S' := T105.setTop (mkF m 64 #[.val (.int p0), .val (.int p1), .val (.int p2), .val (.int p3), .val (.int p4), .val (.int p5), .val (.int (3 : Int32)), .val (.int (own_max (1 : Int32) ((3 : Int32) + ((p4 &&& (2147483647 : Int32)) % (3 : Int32))))), .val (.int ((1 : Int32) + ((p5 &&& (2147483647 : Int32)) % (own_max (1 : Int32) ((3 : Int32) + ((p4 &&& (2147483647 : Int32)) % (3 : Int32))))))), .val (.ref b97), .unset, .unset, .unset] [])) (fun t ht => st105 t ht) ?_
    refine OFin.of (S' := T105.setTop (mkF m 74 #[.val (.int p0), .val (.int p1), .val (.int p2), .val (.int p3), .val (.int p4), .val (.int p5), .val (.int (3 : Int32)), .val (.int (own_max (1 : Int32) ((3 : Int32) + ((p4 &&& (2147483647 : Int32)) % (3 : Int32))))), .val (.int ((1 : Int32) + ((p5 &&& (2147483647 : Int32)) % (own_max (1 : Int32) ((3 : Int32) + ((p4 &&& (2147483647 : Int32)) % (3 : Int32))))))), .val (.ref b97), .unset, .unset, .unset] [(.int p2), (.int (2 : Int32)), (.ref b97)])) (fun t ht => ?_) ?_
    · refine XS.iload X105.here hx rfl (hb hby at_64) rfl ?_
      show Steps p.tables e below (T105.setTop (mkF m 66 _ [(.int (3 : Int32))])) _
      refine XS.iconst X105.here hx rfl (hb hby at_66) ?_
      show Steps p.tables e below (T105.setTop (mkF m 67 _ [(.int (3 : Int32)), (.int (3 : Int32))])) _
      refine XS.icmpNo X105.here hx rfl (hb hby at_67) rfl (flt (by decide : ¬ ((3 : Int32) < (3 : Int32)))).1 ?_
      show Steps p.tables e below (T105.setTop (mkF m 70 _ [])) _
      refine XS.aload X105.here hx rfl (hb hby at_70) rfl rfl ?_
      show Steps p.tables e below (T105.setTop (mkF m 72 _ [(.ref b97)])) _
      refine XS.iconst X105.here hx rfl (hb hby at_72) ?_
      show Steps p.tables e below (T105.setTop (mkF m 73 _ [(.int (2 : Int32)), (.ref b97)])) _
      refine XS.iloadN X105.here hx rfl (hb hby at_73) rfl ?_
      exact ht
    obtain ⟨cl109, Ar109, q109, S109, Ng109, H109, G109⟩ := id f108
    have hin109 := inb_of (j := (2 : Int32)) S109 ⟨by decide, by decide⟩
    obtain ⟨T109, h109, X109, e109, W109, st109⟩ := stI X105 hx hZ e105 Ar109 (j := (2 : Int32)) hin109 (g := (mkF m 74 #[.val (.int p0), .val (.int p1), .val (.int p2), .val (.int p3), .val (.int p4), .val (.int p5), .val (.int (3 : Int32)), .val (.int (own_max (1 : Int32) ((3 : Int32) + ((p4 &&& (2147483647 : Int32)) % (3 : Int32))))), .val (.int ((1 : Int32) + ((p5 &&& (2147483647 : Int32)) % (own_max (1 : Int32) ((3 : Int32) + ((p4 &&& (2147483647 : Int32)) % (3 : Int32))))))), .val (.ref b97), .unset, .unset, .unset] [(.int p2), (.int (2 : Int32)), (.ref b97)])) rfl rfl (hb hby at_74)
    have Z110 : n0 ≤ h109.size := (Nat.le_trans Z106 (Keep.of_wr W109).1)
    have N111 := Fr.snoc X109 N107 g98
    have f112 : Arv Z h109 b97 k97 .int (3 : Int32) [(.int p0), (.int p1), (.int p2)] (.int (0 : Int32)) := Arv.set Ar109 q109 S109 Ng109 H109 G109 rfl W109 2 rfl (Nat.le_of_ble_eq_true rfl)
    refine OFin.of (S' := T109.setTop (mkF m 75 #[.val (.int p0), .val (.int p1), .val (.int p2), .val (.int p3), .val (.int p4), .val (.int p5), .val (.int (3 : Int32)), .val (.int (own_max (1 : Int32) ((3 : Int32) + ((p4 &&& (2147483647 : Int32)) % (3 : Int32))))), .val (.int ((1 : Int32) + ((p5 &&& (2147483647 : Int32)) % (own_max (1 : Int32) ((3 : Int32) + ((p4 &&& (2147483647 : Int32)) % (3 : Int32))))))), .val (.ref b97), .unset, .unset, .unset] [])) (fun t ht => st109 t ht) ?_
    refine OFin.of (S' := T109.setTop (mkF m 82 #[.val (.int p0), .val (.int p1), .val (.int p2), .val (.int p3), .val (.int p4), .val (.int p5), .val (.int (3 : Int32)), .val (.int (own_max (1 : Int32) ((3 : Int32) + ((p4 &&& (2147483647 : Int32)) % (3 : Int32))))), .val (.int ((1 : Int32) + ((p5 &&& (2147483647 : Int32)) % (own_max (1 : Int32) ((3 : Int32) + ((p4 &&& (2147483647 : Int32)) % (3 : Int32))))))), .val (.ref b97), .unset, .unset, .unset] [(.int ((1 : Int32) + ((p5 &&& (2147483647 : Int32)) % (own_max (1 : Int32) ((3 : Int32) + ((p4 &&& (2147483647 : Int32)) % (3 : Int32))))))), (.int (3 : Int32)), (.int p2), (.int p1), (.int p0)])) (fun t ht => ?_) ?_
    · refine XS.iloadN X109.here hx rfl (hb hby at_75) rfl ?_
      show Steps p.tables e below (T109.setTop (mkF m 76 _ [(.int p0)])) _
      refine XS.iloadN X109.here hx rfl (hb hby at_76) rfl ?_
      show Steps p.tables e below (T109.setTop (mkF m 77 _ [(.int p1), (.int p0)])) _
      refine XS.iloadN X109.here hx rfl (hb hby at_77) rfl ?_
      show Steps p.tables e below (T109.setTop (mkF m 78 _ [(.int p2), (.int p1), (.int p0)])) _
      refine XS.iload X109.here hx rfl (hb hby at_78) rfl ?_
      show Steps p.tables e below (T109.setTop (mkF m 80 _ [(.int (3 : Int32)), (.int p2), (.int p1), (.int p0)])) _
      refine XS.iload X109.here hx rfl (hb hby at_80) rfl ?_
      exact ht
    obtain ⟨_, _, ⟨T113, L113, k113, n113⟩, -, X113, ⟨Lc113, hQ113, l113, y113, z113⟩, st113⟩ := Jvm.LawKit.callS X109 hx (y := (⟨"com/example/kindred_mesh/kindredmesh/simulation/FloodResultSentAtPinLaw", "expect", "(IIIII)I"⟩ : MethodName)) hown (mvT hZ (hw _ (List.mem_of_getElem? (i := 6) rfl))) (mvT hZ (hw _ (List.mem_of_getElem? (i := 7) rfl))) (mvT hZ (hw _ (List.mem_of_getElem? (i := 8) rfl))) (mvT hZ (hw _ (List.mem_of_getElem? (i := 9) rfl))) (by decide) (backOf (W := 0) (rmEx l Z _ hw [] p0 p1 p2 (3 : Int32) ((1 : Int32) + ((p5 &&& (2147483647 : Int32)) % (own_max (1 : Int32) ((3 : Int32) + ((p4 &&& (2147483647 : Int32)) % (3 : Int32)))))) h109 n0 Z110 ) hZ (hw _ (List.mem_of_getElem? (i := 9) rfl)) (hw _ (List.mem_of_getElem? (i := 8) rfl)) (by decide) (by decide)) (g := (mkF m 82 #[.val (.int p0), .val (.int p1), .val (.int p2), .val (.int p3), .val (.int p4), .val (.int p5), .val (.int (3 : Int32)), .val (.int (own_max (1 : Int32) ((3 : Int32) + ((p4 &&& (2147483647 : Int32)) % (3 : Int32))))), .val (.int ((1 : Int32) + ((p5 &&& (2147483647 : Int32)) % (own_max (1 : Int32) ((3 : Int32) + ((p4 &&& (2147483647 : Int32)) % (3 : Int32))))))), .val (.ref b97), .unset, .unset, .unset] [(.int ((1 : Int32) + ((p5 &&& (2147483647 : Int32)) % (own_max (1 : Int32) ((3 : Int32) + ((p4 &&& (2147483647 : Int32)) % (3 : Int32))))))), (.int (3 : Int32)), (.int p2), (.int p1), (.int p0)])) rfl (by rw [hml]; rfl) (argsL := [(.int p0), (.int p1), (.int p2), (.int (3 : Int32)), (.int ((1 : Int32) + ((p5 &&& (2147483647 : Int32)) % (own_max (1 : Int32) ((3 : Int32) + ((p4 &&& (2147483647 : Int32)) % (3 : Int32)))))))]) (rest := []) (lenOf pd_1 rfl) rfl (by show 2 * 0 + _ ≤ _; exact Nat.le_of_eq rfl) (hb hby at_82) (fun _ _ => ⟨rfl, e109, (by decide : 1 + 0 ≤ _), (by decide : 3 + 0 ≤ _)⟩)
    dsimp only [Pt.U, Pt.locs, Pt.cells, Pt.slots] at X113 l113 y113 z113 st113 hQ113
    subst l113 y113 z113
    obtain ⟨rfl, Nq113, hs113⟩ := hQ113
    have N114 := Fr.app N111 Nq113
    refine OFin.of (S' := T113.setTop (mkF m 85 #[.val (.int p0), .val (.int p1), .val (.int p2), .val (.int p3), .val (.int p4), .val (.int p5), .val (.int (3 : Int32)), .val (.int (own_max (1 : Int32) ((3 : Int32) + ((p4 &&& (2147483647 : Int32)) % (3 : Int32))))), .val (.int ((1 : Int32) + ((p5 &&& (2147483647 : Int32)) % (own_max (1 : Int32) ((3 : Int32) + ((p4 &&& (2147483647 : Int32)) % (3 : Int32))))))), .val (.ref b97), .unset, .unset, .unset] [(.int (own_exp p0 p1 p2 (3 : Int32) ((1 : Int32) + ((p5 &&& (2147483647 : Int32)) % (own_max (1 : Int32) ((3 : Int32) + ((p4 &&& (2147483647 : Int32)) % (3 : Int32))))))))])) (fun t ht => st113 t ht) ?_
    refine OFin.of (S' := T113.setTop (mkF m 87 #[.val (.int p0), .val (.int p1), .val (.int p2), .val (.int p3), .val (.int p4), .val (.int p5), .val (.int (3 : Int32)), .val (.int (own_max (1 : Int32) ((3 : Int32) + ((p4 &&& (2147483647 : Int32)) % (3 : Int32))))), .val (.int ((1 : Int32) + ((p5 &&& (2147483647 : Int32)) % (own_max (1 : Int32) ((3 : Int32) + ((p4 &&& (2147483647 : Int32)) % (3 : Int32))))))), .val (.ref b97), .val (.int (own_exp p0 p1 p2 (3 : Int32) ((1 : Int32) + ((p5 &&& (2147483647 : Int32)) % (own_max (1 : Int32) ((3 : Int32) + ((p4 &&& (2147483647 : Int32)) % (3 : Int32)))))))), .unset, .unset] [])) (fun t ht => ?_) ?_
    · refine XS.istore X113.here hx rfl (hb hby at_85) rfl (l' := #[.val (.int p0), .val (.int p1), .val (.int p2), .val (.int p3), .val (.int p4), .val (.int p5), .val (.int (3 : Int32)), .val (.int (own_max (1 : Int32) ((3 : Int32) + ((p4 &&& (2147483647 : Int32)) % (3 : Int32))))), .val (.int ((1 : Int32) + ((p5 &&& (2147483647 : Int32)) % (own_max (1 : Int32) ((3 : Int32) + ((p4 &&& (2147483647 : Int32)) % (3 : Int32))))))), .val (.ref b97), .val (.int (own_exp p0 p1 p2 (3 : Int32) ((1 : Int32) + ((p5 &&& (2147483647 : Int32)) % (own_max (1 : Int32) ((3 : Int32) + ((p4 &&& (2147483647 : Int32)) % (3 : Int32)))))))), .unset, .unset]) rfl ?_
      exact ht
    obtain ⟨T115, h115, X115, e115, E115, A115, D115, -, st115⟩ := newO X113 hx hZ hown (hw _ (List.mem_of_getElem? (i := 10) rfl)) (hw _ (List.mem_of_getElem? (i := 11) rfl)) (hw _ (List.mem_of_getElem? (i := 12) rfl)) hs113 (g := (mkF m 87 #[.val (.int p0), .val (.int p1), .val (.int p2), .val (.int p3), .val (.int p4), .val (.int p5), .val (.int (3 : Int32)), .val (.int (own_max (1 : Int32) ((3 : Int32) + ((p4 &&& (2147483647 : Int32)) % (3 : Int32))))), .val (.int ((1 : Int32) + ((p5 &&& (2147483647 : Int32)) % (own_max (1 : Int32) ((3 : Int32) + ((p4 &&& (2147483647 : Int32)) % (3 : Int32))))))), .val (.ref b97), .val (.int (own_exp p0 p1 p2 (3 : Int32) ((1 : Int32) + ((p5 &&& (2147483647 : Int32)) % (own_max (1 : Int32) ((3 : Int32) + ((p4 &&& (2147483647 : Int32)) % (3 : Int32)))))))), .unset, .unset] [])) rfl (hb hby at_87) (by decide) (by decide)
    obtain ⟨b115, gq115⟩ : ∃ z, z = h109.size := ⟨_, rfl⟩
    rw [← gq115] at A115 D115 st115
    have g116 : n0 ≤ b115 := (Nat.le_trans Z110 (Nat.le_of_eq gq115.symm))
    have ne117 : b97 ≠ b115 := (Nat.ne_of_lt (Nat.lt_of_lt_of_le f112.lt (Nat.le_of_eq gq115.symm)))
    have f118 := f112.ext E115
    have Z119 : n0 ≤ h115.size := (Nat.le_trans Z110 E115.1)
    have f120 : Fld Z h115 b115 "com/example/kindred_mesh/kindredmesh/simulation/FloodResult" "ttl" "I" (.int (0 : Int32)) := D115 (Or.inr (hw _ (List.mem_of_getElem? (i := 20) rfl))) (ty := .int) (by decide)
    have f121 : Fld Z h115 b115 "com/example/kindred_mesh/kindredmesh/simulation/FloodResult" "sent" "[I" .null := D115 (Or.inr (hw _ (List.mem_of_getElem? (i := 22) rfl))) (ty := (.array .int)) (by decide)
    have f122 : Fld Z h115 b115 "com/example/kindred_mesh/kindredmesh/simulation/FloodResult" "reached" "I" (.int (0 : Int32)) := D115 (Or.inr (hw _ (List.mem_of_getElem? (i := 24) rfl))) (ty := .int) (by decide)
    refine OFin.of (S' := T115.setTop (mkF m 90 #[.val (.int p0), .val (.int p1), .val (.int p2), .val (.int p3), .val (.int p4), .val (.int p5), .val (.int (3 : Int32)), .val (.int (own_max (1 : Int32) ((3 : Int32) + ((p4 &&& (2147483647 : Int32)) % (3 : Int32))))), .val (.int ((1 : Int32) + ((p5 &&& (2147483647 : Int32)) % (own_max (1 : Int32) ((3 : Int32) + ((p4 &&& (2147483647 : Int32)) % (3 : Int32))))))), .val (.ref b97), .val (.int (own_exp p0 p1 p2 (3 : Int32) ((1 : Int32) + ((p5 &&& (2147483647 : Int32)) % (own_max (1 : Int32) ((3 : Int32) + ((p4 &&& (2147483647 : Int32)) % (3 : Int32)))))))), .unset, .unset] [(.ref b115)])) (fun t ht => st115 t ht) ?_
    refine OFin.of (S' := T115.setTop (mkF m 96 #[.val (.int p0), .val (.int p1), .val (.int p2), .val (.int p3), .val (.int p4), .val (.int p5), .val (.int (3 : Int32)), .val (.int (own_max (1 : Int32) ((3 : Int32) + ((p4 &&& (2147483647 : Int32)) % (3 : Int32))))), .val (.int ((1 : Int32) + ((p5 &&& (2147483647 : Int32)) % (own_max (1 : Int32) ((3 : Int32) + ((p4 &&& (2147483647 : Int32)) % (3 : Int32))))))), .val (.ref b97), .val (.int (own_exp p0 p1 p2 (3 : Int32) ((1 : Int32) + ((p5 &&& (2147483647 : Int32)) % (own_max (1 : Int32) ((3 : Int32) + ((p4 &&& (2147483647 : Int32)) % (3 : Int32)))))))), .unset, .unset] [(.int (0 : Int32)), (.ref b97), (.int (own_max (1 : Int32) ((3 : Int32) + ((p4 &&& (2147483647 : Int32)) % (3 : Int32))))), (.ref b115), (.ref b115)])) (fun t ht => ?_) ?_
    · refine XS.dup X115.here hx rfl (hb hby at_90) rfl rfl ?_
      show Steps p.tables e below (T115.setTop (mkF m 91 _ [(.ref b115), (.ref b115)])) _
      refine XS.iload X115.here hx rfl (hb hby at_91) rfl ?_
      show Steps p.tables e below (T115.setTop (mkF m 93 _ [(.int (own_max (1 : Int32) ((3 : Int32) + ((p4 &&& (2147483647 : Int32)) % (3 : Int32))))), (.ref b115), (.ref b115)])) _
      refine XS.aload X115.here hx rfl (hb hby at_93) rfl rfl ?_
      show Steps p.tables e below (T115.setTop (mkF m 95 _ [(.ref b97), (.int (own_max (1 : Int32) ((3 : Int32) + ((p4 &&& (2147483647 : Int32)) % (3 : Int32))))), (.ref b115), (.ref b115)])) _
      refine XS.iconst X115.here hx rfl (hb hby at_95) ?_
      exact ht
    obtain ⟨_, _, ⟨T123, L123, k123, n123⟩, -, X123, ⟨Lc123, hQ123, l123, y123, z123⟩, st123⟩ := X115.specialBack hx (y := (⟨"com/example/kindred_mesh/kindredmesh/simulation/FloodResult", "<init>", "(I[II)V"⟩ : MethodName)) rfl hown (mvT hZ (hw _ (List.mem_of_getElem? (i := 13) rfl))) (mvT hZ (hw _ (List.mem_of_getElem? (i := 14) rfl))) (mvT hZ (hw _ (List.mem_of_getElem? (i := 15) rfl))) (by decide) (backOf (W := 1) (rmIni l Z _ hw [] b115 (own_max (1 : Int32) ((3 : Int32) + ((p4 &&& (2147483647 : Int32)) % (3 : Int32)))) b97 (0 : Int32) h115 n0 Z119 A115 f120 f121 f122 g116) hZ (hw _ (List.mem_of_getElem? (i := 15) rfl)) (hw _ (List.mem_of_getElem? (i := 12) rfl)) (by decide) (by decide)) (g := (mkF m 96 #[.val (.int p0), .val (.int p1), .val (.int p2), .val (.int p3), .val (.int p4), .val (.int p5), .val (.int (3 : Int32)), .val (.int (own_max (1 : Int32) ((3 : Int32) + ((p4 &&& (2147483647 : Int32)) % (3 : Int32))))), .val (.int ((1 : Int32) + ((p5 &&& (2147483647 : Int32)) % (own_max (1 : Int32) ((3 : Int32) + ((p4 &&& (2147483647 : Int32)) % (3 : Int32))))))), .val (.ref b97), .val (.int (own_exp p0 p1 p2 (3 : Int32) ((1 : Int32) + ((p5 &&& (2147483647 : Int32)) % (own_max (1 : Int32) ((3 : Int32) + ((p4 &&& (2147483647 : Int32)) % (3 : Int32)))))))), .unset, .unset] [(.int (0 : Int32)), (.ref b97), (.int (own_max (1 : Int32) ((3 : Int32) + ((p4 &&& (2147483647 : Int32)) % (3 : Int32))))), (.ref b115), (.ref b115)])) rfl (by rw [hml]; rfl) (Steps.refl _) (a := b115) (argsL := [(.int (own_max (1 : Int32) ((3 : Int32) + ((p4 &&& (2147483647 : Int32)) % (3 : Int32))))), (.ref b97), (.int (0 : Int32))]) (rest := [(.ref b115)]) (lenOf pd_2 rfl) rfl (by show 2 * 0 + _ ≤ _; exact Nat.le_of_eq rfl) (hb hby at_96) (fun _ _ => ⟨rfl, e115, (by decide : 2 + 0 ≤ _), (by decide : 6 + 0 ≤ _)⟩)
    dsimp only [Pt.U, Pt.locs, Pt.cells, Pt.slots] at X123 l123 y123 z123 st123 hQ123
    subst l123 y123 z123
    obtain ⟨rfl, Nq123, Kq123, f124, f125, f126⟩ := hQ123
    have N127 := Fr.app N114 Nq123
    have f128 := (f118.keep Kq123 (ninS ne117 nin0))
    have f129 := (A115.keep Kq123)
    have Z130 : n0 ≤ T123.heap.size := (Nat.le_trans Z119 Kq123.1)
    refine OFin.to (S' := T123.setTop (mkF m 99 #[.val (.int p0), .val (.int p1), .val (.int p2), .val (.int p3), .val (.int p4), .val (.int p5), .val (.int (3 : Int32)), .val (.int (own_max (1 : Int32) ((3 : Int32) + ((p4 &&& (2147483647 : Int32)) % (3 : Int32))))), .val (.int ((1 : Int32) + ((p5 &&& (2147483647 : Int32)) % (own_max (1 : Int32) ((3 : Int32) + ((p4 &&& (2147483647 : Int32)) % (3 : Int32))))))), .val (.ref b97), .val (.int (own_exp p0 p1 p2 (3 : Int32) ((1 : Int32) + ((p5 &&& (2147483647 : Int32)) % (own_max (1 : Int32) ((3 : Int32) + ((p4 &&& (2147483647 : Int32)) % (3 : Int32)))))))), .unset, .unset] [(.ref b115)])) st123 ?_
    refine OFin.of (S' := T123.setTop (mkF m 105 #[.val (.int p0), .val (.int p1), .val (.int p2), .val (.int p3), .val (.int p4), .val (.int p5), .val (.int (3 : Int32)), .val (.int (own_max (1 : Int32) ((3 : Int32) + ((p4 &&& (2147483647 : Int32)) % (3 : Int32))))), .val (.int ((1 : Int32) + ((p5 &&& (2147483647 : Int32)) % (own_max (1 : Int32) ((3 : Int32) + ((p4 &&& (2147483647 : Int32)) % (3 : Int32))))))), .val (.ref b97), .val (.int (own_exp p0 p1 p2 (3 : Int32) ((1 : Int32) + ((p5 &&& (2147483647 : Int32)) % (own_max (1 : Int32) ((3 : Int32) + ((p4 &&& (2147483647 : Int32)) % (3 : Int32)))))))), .val (.ref b115), .unset] [(.int ((1 : Int32) + ((p5 &&& (2147483647 : Int32)) % (own_max (1 : Int32) ((3 : Int32) + ((p4 &&& (2147483647 : Int32)) % (3 : Int32))))))), (.ref b115)])) (fun t ht => ?_) ?_
    · refine XS.astore X123.here hx rfl (hb hby at_99) rfl rfl (l' := #[.val (.int p0), .val (.int p1), .val (.int p2), .val (.int p3), .val (.int p4), .val (.int p5), .val (.int (3 : Int32)), .val (.int (own_max (1 : Int32) ((3 : Int32) + ((p4 &&& (2147483647 : Int32)) % (3 : Int32))))), .val (.int ((1 : Int32) + ((p5 &&& (2147483647 : Int32)) % (own_max (1 : Int32) ((3 : Int32) + ((p4 &&& (2147483647 : Int32)) % (3 : Int32))))))), .val (.ref b97), .val (.int (own_exp p0 p1 p2 (3 : Int32) ((1 : Int32) + ((p5 &&& (2147483647 : Int32)) % (own_max (1 : Int32) ((3 : Int32) + ((p4 &&& (2147483647 : Int32)) % (3 : Int32)))))))), .val (.ref b115), .unset]) rfl ?_
      show Steps p.tables e below (T123.setTop (mkF m 101 #[.val (.int p0), .val (.int p1), .val (.int p2), .val (.int p3), .val (.int p4), .val (.int p5), .val (.int (3 : Int32)), .val (.int (own_max (1 : Int32) ((3 : Int32) + ((p4 &&& (2147483647 : Int32)) % (3 : Int32))))), .val (.int ((1 : Int32) + ((p5 &&& (2147483647 : Int32)) % (own_max (1 : Int32) ((3 : Int32) + ((p4 &&& (2147483647 : Int32)) % (3 : Int32))))))), .val (.ref b97), .val (.int (own_exp p0 p1 p2 (3 : Int32) ((1 : Int32) + ((p5 &&& (2147483647 : Int32)) % (own_max (1 : Int32) ((3 : Int32) + ((p4 &&& (2147483647 : Int32)) % (3 : Int32)))))))), .val (.ref b115), .unset] [])) _
      refine XS.aload X123.here hx rfl (hb hby at_101) rfl rfl ?_
      show Steps p.tables e below (T123.setTop (mkF m 103 _ [(.ref b115)])) _
      refine XS.iload X123.here hx rfl (hb hby at_103) rfl ?_
      exact ht
    obtain ⟨cq132, kq132, q132a, q132b, q132c⟩ := isOf hZ (rfl : T123.heap = T123.heap) f129
    obtain ⟨_, _, ⟨T131, L131, k131, n131⟩, -, X131, ⟨Lc131, hQ131, l131, y131, z131⟩, st131⟩ := X123.virtualBack hx (y := (⟨"com/example/kindred_mesh/kindredmesh/simulation/FloodResult", "sentAt", "(I)I"⟩ : MethodName)) (z := (⟨"com/example/kindred_mesh/kindredmesh/simulation/FloodResult", "sentAt", "(I)I"⟩ : MethodName)) hown (mvT hZ (hw _ (List.mem_of_getElem? (i := 25) rfl))) (mvT hZ (hw _ (List.mem_of_getElem? (i := 26) rfl))) (notFace_of_selects (args := #[]) (mvT hZ (hw _ (List.mem_of_getElem? (i := 28) rfl)))) (mvT hZ (hw _ (List.mem_of_getElem? (i := 28) rfl))) (mvT hZ (hw _ (List.mem_of_getElem? (i := 27) rfl))) (by decide) (backOf (W := 0) (rmSa l Z _ hw [] b115 ((1 : Int32) + ((p5 &&& (2147483647 : Int32)) % (own_max (1 : Int32) ((3 : Int32) + ((p4 &&& (2147483647 : Int32)) % (3 : Int32)))))) b97 k97 (3 : Int32) [(.int p0), (.int p1), (.int p2)] (own_exp p0 p1 p2 (3 : Int32) ((1 : Int32) + ((p5 &&& (2147483647 : Int32)) % (own_max (1 : Int32) ((3 : Int32) + ((p4 &&& (2147483647 : Int32)) % (3 : Int32))))))) T123.heap n0 Z130 f125 f128 (own_pos (own_hop _ _ hT.1 hT.2).1) (own_g3 (own_hop _ _ hT.1 hT.2).1)) hZ (hw _ (List.mem_of_getElem? (i := 29) rfl)) (hw _ (List.mem_of_getElem? (i := 12) rfl)) (by decide) (by decide)) q132a q132c (g := (mkF m 105 #[.val (.int p0), .val (.int p1), .val (.int p2), .val (.int p3), .val (.int p4), .val (.int p5), .val (.int (3 : Int32)), .val (.int (own_max (1 : Int32) ((3 : Int32) + ((p4 &&& (2147483647 : Int32)) % (3 : Int32))))), .val (.int ((1 : Int32) + ((p5 &&& (2147483647 : Int32)) % (own_max (1 : Int32) ((3 : Int32) + ((p4 &&& (2147483647 : Int32)) % (3 : Int32))))))), .val (.ref b97), .val (.int (own_exp p0 p1 p2 (3 : Int32) ((1 : Int32) + ((p5 &&& (2147483647 : Int32)) % (own_max (1 : Int32) ((3 : Int32) + ((p4 &&& (2147483647 : Int32)) % (3 : Int32)))))))), .val (.ref b115), .unset] [(.int ((1 : Int32) + ((p5 &&& (2147483647 : Int32)) % (own_max (1 : Int32) ((3 : Int32) + ((p4 &&& (2147483647 : Int32)) % (3 : Int32))))))), (.ref b115)])) rfl (by rw [hml]; rfl) (Steps.refl _) (argsL := [(.int ((1 : Int32) + ((p5 &&& (2147483647 : Int32)) % (own_max (1 : Int32) ((3 : Int32) + ((p4 &&& (2147483647 : Int32)) % (3 : Int32)))))))]) (rest := []) (lenOf pd_3 rfl) rfl (by show 2 * 0 + _ ≤ _; exact Nat.le_of_eq rfl) (hb hby at_105) (fun _ _ => ⟨rfl, (rfl : T123.heap = T123.heap), (by decide : 2 + 0 ≤ _), (by decide : 6 + 0 ≤ _)⟩)
    dsimp only [Pt.U, Pt.locs, Pt.cells, Pt.slots] at X131 l131 y131 z131 st131 hQ131
    subst l131 y131 z131
    obtain ⟨rfl, Nq131, hs131⟩ := hQ131
    have N133 := Fr.app N127 Nq131
    refine OFin.to (S' := T131.setTop (mkF m 108 #[.val (.int p0), .val (.int p1), .val (.int p2), .val (.int p3), .val (.int p4), .val (.int p5), .val (.int (3 : Int32)), .val (.int (own_max (1 : Int32) ((3 : Int32) + ((p4 &&& (2147483647 : Int32)) % (3 : Int32))))), .val (.int ((1 : Int32) + ((p5 &&& (2147483647 : Int32)) % (own_max (1 : Int32) ((3 : Int32) + ((p4 &&& (2147483647 : Int32)) % (3 : Int32))))))), .val (.ref b97), .val (.int (own_exp p0 p1 p2 (3 : Int32) ((1 : Int32) + ((p5 &&& (2147483647 : Int32)) % (own_max (1 : Int32) ((3 : Int32) + ((p4 &&& (2147483647 : Int32)) % (3 : Int32)))))))), .val (.ref b115), .unset] [(.int (own_sent (3 : Int32) ((1 : Int32) + ((p5 &&& (2147483647 : Int32)) % (own_max (1 : Int32) ((3 : Int32) + ((p4 &&& (2147483647 : Int32)) % (3 : Int32)))))) (own_exp p0 p1 p2 (3 : Int32) ((1 : Int32) + ((p5 &&& (2147483647 : Int32)) % (own_max (1 : Int32) ((3 : Int32) + ((p4 &&& (2147483647 : Int32)) % (3 : Int32)))))))))])) st131 ?_
    refine OFin.of (S' := T131.setTop (mkF m 122 #[.val (.int p0), .val (.int p1), .val (.int p2), .val (.int p3), .val (.int p4), .val (.int p5), .val (.int (3 : Int32)), .val (.int (own_max (1 : Int32) ((3 : Int32) + ((p4 &&& (2147483647 : Int32)) % (3 : Int32))))), .val (.int ((1 : Int32) + ((p5 &&& (2147483647 : Int32)) % (own_max (1 : Int32) ((3 : Int32) + ((p4 &&& (2147483647 : Int32)) % (3 : Int32))))))), .val (.ref b97), .val (.int (own_exp p0 p1 p2 (3 : Int32) ((1 : Int32) + ((p5 &&& (2147483647 : Int32)) % (own_max (1 : Int32) ((3 : Int32) + ((p4 &&& (2147483647 : Int32)) % (3 : Int32)))))))), .val (.ref b115), .val (.int (own_sent (3 : Int32) ((1 : Int32) + ((p5 &&& (2147483647 : Int32)) % (own_max (1 : Int32) ((3 : Int32) + ((p4 &&& (2147483647 : Int32)) % (3 : Int32)))))) (own_exp p0 p1 p2 (3 : Int32) ((1 : Int32) + ((p5 &&& (2147483647 : Int32)) % (own_max (1 : Int32) ((3 : Int32) + ((p4 &&& (2147483647 : Int32)) % (3 : Int32)))))))))] [(.int (1 : Int32))])) (fun t ht => ?_) ?_
    · refine XS.istore X131.here hx rfl (hb hby at_108) rfl (l' := #[.val (.int p0), .val (.int p1), .val (.int p2), .val (.int p3), .val (.int p4), .val (.int p5), .val (.int (3 : Int32)), .val (.int (own_max (1 : Int32) ((3 : Int32) + ((p4 &&& (2147483647 : Int32)) % (3 : Int32))))), .val (.int ((1 : Int32) + ((p5 &&& (2147483647 : Int32)) % (own_max (1 : Int32) ((3 : Int32) + ((p4 &&& (2147483647 : Int32)) % (3 : Int32))))))), .val (.ref b97), .val (.int (own_exp p0 p1 p2 (3 : Int32) ((1 : Int32) + ((p5 &&& (2147483647 : Int32)) % (own_max (1 : Int32) ((3 : Int32) + ((p4 &&& (2147483647 : Int32)) % (3 : Int32)))))))), .val (.ref b115), .val (.int (own_sent (3 : Int32) ((1 : Int32) + ((p5 &&& (2147483647 : Int32)) % (own_max (1 : Int32) ((3 : Int32) + ((p4 &&& (2147483647 : Int32)) % (3 : Int32)))))) (own_exp p0 p1 p2 (3 : Int32) ((1 : Int32) + ((p5 &&& (2147483647 : Int32)) % (own_max (1 : Int32) ((3 : Int32) + ((p4 &&& (2147483647 : Int32)) % (3 : Int32)))))))))]) rfl ?_
      show Steps p.tables e below (T131.setTop (mkF m 110 #[.val (.int p0), .val (.int p1), .val (.int p2), .val (.int p3), .val (.int p4), .val (.int p5), .val (.int (3 : Int32)), .val (.int (own_max (1 : Int32) ((3 : Int32) + ((p4 &&& (2147483647 : Int32)) % (3 : Int32))))), .val (.int ((1 : Int32) + ((p5 &&& (2147483647 : Int32)) % (own_max (1 : Int32) ((3 : Int32) + ((p4 &&& (2147483647 : Int32)) % (3 : Int32))))))), .val (.ref b97), .val (.int (own_exp p0 p1 p2 (3 : Int32) ((1 : Int32) + ((p5 &&& (2147483647 : Int32)) % (own_max (1 : Int32) ((3 : Int32) + ((p4 &&& (2147483647 : Int32)) % (3 : Int32)))))))), .val (.ref b115), .val (.int (own_sent (3 : Int32) ((1 : Int32) + ((p5 &&& (2147483647 : Int32)) % (own_max (1 : Int32) ((3 : Int32) + ((p4 &&& (2147483647 : Int32)) % (3 : Int32)))))) (own_exp p0 p1 p2 (3 : Int32) ((1 : Int32) + ((p5 &&& (2147483647 : Int32)) % (own_max (1 : Int32) ((3 : Int32) + ((p4 &&& (2147483647 : Int32)) % (3 : Int32)))))))))] [])) _
      refine XS.iload X131.here hx rfl (hb hby at_110) rfl ?_
      show Steps p.tables e below (T131.setTop (mkF m 112 _ [(.int (own_sent (3 : Int32) ((1 : Int32) + ((p5 &&& (2147483647 : Int32)) % (own_max (1 : Int32) ((3 : Int32) + ((p4 &&& (2147483647 : Int32)) % (3 : Int32)))))) (own_exp p0 p1 p2 (3 : Int32) ((1 : Int32) + ((p5 &&& (2147483647 : Int32)) % (own_max (1 : Int32) ((3 : Int32) + ((p4 &&& (2147483647 : Int32)) % (3 : Int32)))))))))])) _
      refine XS.iload X131.here hx rfl (hb hby at_112) rfl ?_
      show Steps p.tables e below (T131.setTop (mkF m 114 _ [(.int (own_exp p0 p1 p2 (3 : Int32) ((1 : Int32) + ((p5 &&& (2147483647 : Int32)) % (own_max (1 : Int32) ((3 : Int32) + ((p4 &&& (2147483647 : Int32)) % (3 : Int32)))))))), (.int (own_sent (3 : Int32) ((1 : Int32) + ((p5 &&& (2147483647 : Int32)) % (own_max (1 : Int32) ((3 : Int32) + ((p4 &&& (2147483647 : Int32)) % (3 : Int32)))))) (own_exp p0 p1 p2 (3 : Int32) ((1 : Int32) + ((p5 &&& (2147483647 : Int32)) % (own_max (1 : Int32) ((3 : Int32) + ((p4 &&& (2147483647 : Int32)) % (3 : Int32)))))))))])) _
      refine XS.icmpNo X131.here hx rfl (hb hby at_114) rfl (teq (own_law (by decide) : (own_sent (3 : Int32) ((1 : Int32) + ((p5 &&& (2147483647 : Int32)) % (own_max (1 : Int32) ((3 : Int32) + ((p4 &&& (2147483647 : Int32)) % (3 : Int32)))))) (own_exp p0 p1 p2 (3 : Int32) ((1 : Int32) + ((p5 &&& (2147483647 : Int32)) % (own_max (1 : Int32) ((3 : Int32) + ((p4 &&& (2147483647 : Int32)) % (3 : Int32)))))))) = (own_exp p0 p1 p2 (3 : Int32) ((1 : Int32) + ((p5 &&& (2147483647 : Int32)) % (own_max (1 : Int32) ((3 : Int32) + ((p4 &&& (2147483647 : Int32)) % (3 : Int32))))))))).2 ?_
      show Steps p.tables e below (T131.setTop (mkF m 117 _ [])) _
      refine XS.iconst X131.here hx rfl (hb hby at_117) ?_
      show Steps p.tables e below (T131.setTop (mkF m 118 _ [(.int (1 : Int32))])) _
      refine XS.goto X131.here hx rfl (pc0 := 118) (pc' := 122) rfl (hb hby at_118) (by decide) (by decide) ?_
      exact ht
    exact OFin.retB X131 hx hlk (t := .boolean) (by simp) hret (hb hby at_122) (by decide) (by decide) (by rw [hs131]; exact ⟨rfl, N133⟩)
set_option maxRecDepth 65536 in
set_option maxHeartbeats 40000000 in
theorem comes_1 {Post : Tables → Env → Array Value → State → Outcome → State → Prop} (hpost : ∀ tb e args s v u, (limb_1_1.after args s (.returned v) u = true ∧ limb_1_2.after args s (.returned v) u = true ∧ True) → FrameEnd s (.returned v) u (Jvm.fieldLocs frame_1_writes args s ++ Jvm.arrayLocs frame_1_arrays args s ++ Jvm.staticLocs frame_1_statics s) 16 128 → Post tb e args s (.returned v) u) :
    ArmFor flags0 classFile x code maxLocals ret World_1 tables_1 room_1 Calls_1 rest_1 Pre_1 Post := by
  intro l hfl _ _ p e ha hc hk s m args below hf hA hF happ hP
  obtain ⟨hcalls, hrest, hpre⟩ := hP
  obtain ⟨-, -, -, hnamed, -, -, -, hat⟩ := (Spec.applies_iff hf).mp happ
  obtain ⟨hg, hn⟩ := and_e (Cond.before_iff.mp (show (Jvm.Cond.and given_1 narrow_1).before args s = true from hpre))
  obtain ⟨gg0, hg0⟩ := and_e hg
  obtain ⟨gg1, hg1⟩ := and_e hg0
  obtain ⟨gg2, hg2⟩ := and_e hg1
  obtain ⟨gg3, hg3⟩ := and_e hg2
  obtain ⟨gg4, hg4⟩ := and_e hg3
  obtain ⟨gg5, hg5⟩ := and_e hg4
  obtain ⟨w0, w1, w2, w3, w4, w5, rfl⟩ : ∃ w0 w1 w2 w3 w4 w5 : Value, args = #[w0, w1, w2, w3, w4, w5] := by
    have hs : args.size = 6 := by simpa [Cond.value, given_1] using gg0
    obtain ⟨L⟩ := args
    match L, hs with
    | [w0, w1, w2, w3, w4, w5], _ => exact ⟨w0, w1, w2, w3, w4, w5, rfl⟩
  have hw := fun d (hd : d ∈ tables_1) => atoms_spec (ws := Jvm.Cond.code x code maxLocals ret :: tables_1) hat d (List.mem_cons_of_mem _ hd)
  have hfit : Fit s := fun {y c} hc i hi => by
    obtain ⟨ha, rfl⟩ := Array.getElem?_eq_some_iff.mp hc
    have q := List.all_eq_true.mp ((Array.all_eq_true_iff_forall_mem.mp hF) _ (Array.getElem_mem ha)) i (List.mem_range.mpr hi)
    simpa [Array.getElem?_eq_getElem hi] using q
  obtain ⟨i0, ei0⟩ := is_v gg1
  obtain rfl : w0 = (.int i0) := Option.some.inj ei0
  obtain ⟨i1, ei1⟩ := is_v gg2
  obtain rfl : w1 = (.int i1) := Option.some.inj ei1
  obtain ⟨i2, ei2⟩ := is_v gg3
  obtain rfl : w2 = (.int i2) := Option.some.inj ei2
  obtain ⟨i3, ei3⟩ := is_v gg4
  obtain rfl : w3 = (.int i3) := Option.some.inj ei3
  obtain ⟨i4, ei4⟩ := is_v gg5
  obtain rfl : w4 = (.int i4) := Option.some.inj ei4
  obtain ⟨i5, ei5⟩ := is_v hg5
  obtain rfl : w5 = (.int i5) := Option.some.inj ei5

  obtain ⟨n, o, h1, h2, h3, _, L, rfl, ⟨rfl, N⟩, hq⟩ := rm0 l s _ hw tables_1 i0 i1 i2 i3 i4 i5  s.heap s.heap.size (Nat.le_refl _)  p e ha hc hk s m _ below hf ((Spec.applies_iff_loose hf).mp happ).1 ⟨rfl, State.Warmed39.refl s, rfl⟩ trivial
  refine ⟨n, _, h1, h2, h3, hpost _ _ _ _ _ _ ⟨Cond.after_iff.mpr rfl, Cond.after_iff.mpr (eq_i res_at (Term.int_eval (1)) rfl), trivial⟩ ⟨hq.1, hq.2.1, (hq.2.2.sift fun y hy => Or.inr (N y hy)).mono (by decide) (by decide)⟩⟩
theorem main_1_1 : Claimed_1_1 := comes_1 fun _ _ _ _ _ _ h hF => ⟨h.1, hF⟩
theorem main_1_2 : Claimed_1_2 := comes_1 fun _ _ _ _ _ _ h hF => ⟨h.2.1, hF⟩
end Jvm.Pilot.@@N@@
namespace Jvm.Pilot.@@N@@
open Jvm Jvm.ClassFile Sem Op Lib Jvm.Free Jvm.Stand Jvm.Pilot.@@N@@.Jvm.D
/-! MADE BY PROGRAM (witnessworld.py) out of the Statement's table words and the real class files: 10 classes; the members and pool entries that the words name. The judged class is class 1, her method 1. -/
namespace start1
open Jvm.ClassFile
def u (s : String) : CpInfo := .utf8 (stringToUtf16 s)
/-- a pool by its gaps: so many unusable entries, then the entry; so many at the end -/
def gap : Nat → List CpInfo → List CpInfo
  | 0, r => r
  | n + 1, r => .unusable :: gap n r
def poolList (es : List (Nat × CpInfo)) (last : Nat) : List CpInfo := es.foldr (fun e r => gap e.1 (e.2 :: r)) (gap last [])
def pool (es : List (Nat × CpInfo)) (last : Nat) : Array CpInfo := ⟨poolList es last⟩
def fileOf (pool : Array CpInfo) (this : Nat) (attrs : Array Attribute := #[]) (ms : Array MethodInfo := #[]) (fl : Nat := 33) (sup : Nat := 0) (ifs : Array Nat := #[]) (fds : Array FieldInfo := #[]) : ClassFile where
  minorVersion := 0
  majorVersion := 65
  constantPool := pool
  accessFlags := fl
  thisClass := this
  superClass := sup
  interfaces := ifs
  fields := fds
  methods := ms
  attributes := attrs
def plain (name : String) (sup : Option ClassId) : Class where
  name := name
  kind := .ordinary
  loader := none
  accessFlags := 33
  super := sup
  interfaces := #[]
  cf := none
  fields := #[]
  methods := #[]
  instanceTypes := #[]
  staticTypes := #[]
  resolved := #[]
  callSites := []
  init := .initialized
  statics := none
  mirror := none

def pool0 : Array CpInfo := pool [(5, u "<init>"), (0, u "()V"), (1, .class_ 10), (1, u "java/lang/Object")] 113

def k0c0 : Code := { maxStack := 0, maxLocals := 1, code := object_method_1_code, exceptionTable := #[], attributes := #[] }
def k0m0 : Method := { name := "<init>", desc := "()V", sig := { parameters := [], returnType := none }, accessFlags := 1, code := some k0c0 }
/-- java/lang/Object -/
def k0 : Class := { plain "java/lang/Object" none with
  accessFlags := 33
  interfaces := #[]
  cf := some (fileOf pool0 8 #[] #[{ accessFlags := 1, nameIndex := 5, descriptorIndex := 6, attributes := #[] }] 33 0 #[] #[])
  fields := #[]
  methods := #[k0m0]
  instanceTypes := #[]
  staticTypes := #[]
  resolved := Array.replicate 124 none
  statics := none }

def pool1 : Array CpInfo := pool [(2, .class_ 4), (1, u "java/lang/Object"), (0, u "<init>"), (0, u "()V"), (0, .integer 2147483647), (0, .methodref 9 10), (0, .class_ 11), (0, .nameAndType 12 13), (0, u "java/lang/Math"), (0, u "max"), (0, u "(II)I"), (0, .methodref 15 16), (0, .class_ 17), (0, .nameAndType 18 19), (0, u "com/example/kindred_mesh/kindredmesh/simulation/FloodResultSentAtPinLaw"), (0, u "expect"), (0, u "(IIIII)I"), (0, .class_ 21), (0, u "com/example/kindred_mesh/kindredmesh/simulation/FloodResult"), (0, .methodref 20 23), (0, .nameAndType 5 24), (0, u "(I[II)V"), (0, .methodref 20 26), (0, .nameAndType 27 28), (0, u "sentAt"), (0, u "(I)I"), (2, u "law"), (0, u "(IIIIII)Z")] 5

def k1m0 : Method := { name := "<init>", desc := "()V", sig := { parameters := [], returnType := none }, accessFlags := 1, code := none }
def k1c1 : Code := { maxStack := 5, maxLocals := 13, code := code, exceptionTable := #[], attributes := #[] }
def k1m1 : Method := { name := "law", desc := "(IIIIII)Z", sig := { parameters := [.int, .int, .int, .int, .int, .int], returnType := some .boolean }, accessFlags := 9, code := some k1c1 }
def k1c2 : Code := { maxStack := 2, maxLocals := 5, code := method_3_code, exceptionTable := #[], attributes := #[] }
def k1m2 : Method := { name := "expect", desc := "(IIIII)I", sig := { parameters := [.int, .int, .int, .int, .int], returnType := some .int }, accessFlags := 10, code := some k1c2 }
/-- com/example/kindred_mesh/kindredmesh/simulation/FloodResultSentAtPinLaw -/
def k1 : Class := { plain "com/example/kindred_mesh/kindredmesh/simulation/FloodResultSentAtPinLaw" (some 0) with
  accessFlags := 49
  interfaces := #[]
  cf := some (fileOf pool1 15 #[] #[{ accessFlags := 1, nameIndex := 5, descriptorIndex := 6, attributes := #[] }, { accessFlags := 9, nameIndex := 31, descriptorIndex := 32, attributes := #[] }, { accessFlags := 10, nameIndex := 18, descriptorIndex := 19, attributes := #[] }] 49 2 #[] #[])
  fields := #[]
  methods := #[k1m0, k1m1, k1m2]
  instanceTypes := #[]
  staticTypes := #[]
  resolved := Array.replicate 38 none
  statics := none }

def pool2 : Array CpInfo := pool [(1, .class_ 2), (0, u "java/lang/Math"), (1, .class_ 6), (1, u "java/lang/Object"), (0, u "<init>"), (0, u "()V"), (89, .class_ 100), (1, u "java/lang/Math$RandomNumberGeneratorHolder"), (71, u "negativeZeroFloatBits"), (0, u "J"), (2, u "negativeZeroDoubleBits"), (21, u "max"), (46, u "$assertionsDisabled"), (0, u "Z"), (88, u "(II)I"), (2, u "twoToTheDoubleScaleDown"), (0, u "D"), (4, u "twoToTheDoubleScaleUp"), (9, u "E"), (3, u "PI"), (2, u "TAU"), (2, u "DEGREES_TO_RADIANS"), (0, u "RADIANS_TO_DEGREES")] 94

def k2m0 : Method := { name := "<init>", desc := "()V", sig := { parameters := [], returnType := none }, accessFlags := 2, code := none }
def k2c1 : Code := { maxStack := 2, maxLocals := 2, code := jdk_29_method_65_code, exceptionTable := #[], attributes := #[] }
def k2m1 : Method := { name := "max", desc := "(II)I", sig := { parameters := [.int, .int], returnType := some .int }, accessFlags := 9, code := some k2c1 }
/-- java/lang/Math -/
def k2 : Class := { plain "java/lang/Math" (some 0) with
  accessFlags := 49
  interfaces := #[]
  cf := some (fileOf pool2 1 #[.nestMembers #[98]] #[{ accessFlags := 2, nameIndex := 7, descriptorIndex := 8, attributes := #[] }, { accessFlags := 9, nameIndex := 198, descriptorIndex := 335, attributes := #[] }] 49 4 #[] #[{ accessFlags := 25, nameIndex := 354, descriptorIndex := 339, attributes := #[] }, { accessFlags := 25, nameIndex := 358, descriptorIndex := 339, attributes := #[] }, { accessFlags := 25, nameIndex := 361, descriptorIndex := 339, attributes := #[] }, { accessFlags := 26, nameIndex := 364, descriptorIndex := 339, attributes := #[] }, { accessFlags := 26, nameIndex := 365, descriptorIndex := 339, attributes := #[] }, { accessFlags := 26, nameIndex := 172, descriptorIndex := 173, attributes := #[] }, { accessFlags := 26, nameIndex := 176, descriptorIndex := 173, attributes := #[] }, { accessFlags := 8, nameIndex := 344, descriptorIndex := 339, attributes := #[] }, { accessFlags := 8, nameIndex := 338, descriptorIndex := 339, attributes := #[] }, { accessFlags := 4120, nameIndex := 245, descriptorIndex := 246, attributes := #[] }])
  fields := #[{ name := "E", type := .double, accessFlags := 25, slot := 0, constantValue := 0 }, { name := "PI", type := .double, accessFlags := 25, slot := 1, constantValue := 0 }, { name := "TAU", type := .double, accessFlags := 25, slot := 2, constantValue := 0 }, { name := "DEGREES_TO_RADIANS", type := .double, accessFlags := 26, slot := 3, constantValue := 0 }, { name := "RADIANS_TO_DEGREES", type := .double, accessFlags := 26, slot := 4, constantValue := 0 }, { name := "negativeZeroFloatBits", type := .long, accessFlags := 26, slot := 5, constantValue := 0 }, { name := "negativeZeroDoubleBits", type := .long, accessFlags := 26, slot := 6, constantValue := 0 }, { name := "twoToTheDoubleScaleUp", type := .double, accessFlags := 8, slot := 7, constantValue := 0 }, { name := "twoToTheDoubleScaleDown", type := .double, accessFlags := 8, slot := 8, constantValue := 0 }, { name := "$assertionsDisabled", type := .boolean, accessFlags := 4120, slot := 9, constantValue := 0 }]
  methods := #[k2m0, k2m1]
  instanceTypes := #[]
  staticTypes := #[.double, .double, .double, .double, .double, .long, .long, .double, .double, .boolean]
  resolved := Array.replicate 460 none
  statics := none }

def pool3 : Array CpInfo := pool [(1, .methodref 2 3), (0, .class_ 4), (0, .nameAndType 5 6), (0, u "java/lang/Object"), (0, u "<init>"), (0, u "()V"), (0, .fieldref 8 9), (0, .class_ 10), (0, .nameAndType 11 12), (0, u "com/example/kindred_mesh/kindredmesh/simulation/FloodResult"), (0, u "ttl"), (0, u "I"), (0, .fieldref 8 14), (0, .nameAndType 15 16), (0, u "sent"), (0, u "[I"), (0, .fieldref 8 18), (0, .nameAndType 19 12), (0, u "reached"), (18, u "(I[II)V"), (3, u "sentAt"), (0, u "(I)I")] 4

def k3c0 : Code := { maxStack := 2, maxLocals := 4, code := prog_81_method_1_code, exceptionTable := #[], attributes := #[] }
def k3m0 : Method := { name := "<init>", desc := "(I[II)V", sig := { parameters := [.int, (.array .int), .int], returnType := none }, accessFlags := 0, code := some k3c0 }
def k3c1 : Code := { maxStack := 3, maxLocals := 2, code := prog_81_method_3_code, exceptionTable := #[], attributes := #[] }
def k3m1 : Method := { name := "sentAt", desc := "(I)I", sig := { parameters := [.int], returnType := some .int }, accessFlags := 0, code := some k3c1 }
/-- com/example/kindred_mesh/kindredmesh/simulation/FloodResult -/
def k3 : Class := { plain "com/example/kindred_mesh/kindredmesh/simulation/FloodResult" (some 0) with
  accessFlags := 32
  interfaces := #[]
  cf := some (fileOf pool3 8 #[] #[{ accessFlags := 0, nameIndex := 5, descriptorIndex := 38, attributes := #[] }, { accessFlags := 0, nameIndex := 42, descriptorIndex := 43, attributes := #[] }] 32 2 #[] #[{ accessFlags := 18, nameIndex := 11, descriptorIndex := 12, attributes := #[] }, { accessFlags := 18, nameIndex := 15, descriptorIndex := 16, attributes := #[] }, { accessFlags := 18, nameIndex := 19, descriptorIndex := 12, attributes := #[] }])
  fields := #[{ name := "ttl", type := .int, accessFlags := 18, slot := 0, constantValue := 0 }, { name := "sent", type := (.array .int), accessFlags := 18, slot := 1, constantValue := 0 }, { name := "reached", type := .int, accessFlags := 18, slot := 2, constantValue := 0 }]
  methods := #[k3m0, k3m1]
  instanceTypes := #[.int, (.array .int), .int]
  staticTypes := #[]
  resolved := Array.replicate 48 none
  statics := none }

def pool4 : Array CpInfo := pool [(1, u "java/lang/Cloneable"), (0, .class_ 1), (0, u "java/lang/Object"), (0, .class_ 3)] 3

/-- java/lang/Cloneable -/
def k4 : Class := { plain "java/lang/Cloneable" (some 0) with
  accessFlags := 1537
  interfaces := #[]
  cf := some (fileOf pool4 2 #[] #[] 1537 4 #[] #[])
  fields := #[]
  methods := #[]
  instanceTypes := #[]
  staticTypes := #[]
  resolved := Array.replicate 8 none
  statics := none }

def pool5 : Array CpInfo := pool [(1, u "java/io/Serializable"), (0, .class_ 1), (0, u "java/lang/Object"), (0, .class_ 3)] 3

/-- java/io/Serializable -/
def k5 : Class := { plain "java/io/Serializable" (some 0) with
  accessFlags := 1537
  interfaces := #[]
  cf := some (fileOf pool5 2 #[] #[] 1537 4 #[] #[])
  fields := #[]
  methods := #[]
  instanceTypes := #[]
  staticTypes := #[]
  resolved := Array.replicate 8 none
  statics := none }

/-- the primitive byte -/
def k6 : Class := { plain "byte" none with kind := .primitive 'B', accessFlags := 0x411 }
/-- [B -/
def k7 : Class := { plain "[B" (some 0) with kind := .array 6 .byte, interfaces := #[4, 5], accessFlags := 1041 }

/-- the primitive int -/
def k8 : Class := { plain "int" none with kind := .primitive 'I', accessFlags := 0x411 }
/-- [I -/
def k9 : Class := { plain "[I" (some 0) with kind := .array 8 .int, interfaces := #[4, 5], accessFlags := 1041 }

def heap : Heap := #[]
def classes : Array Class := #[k0, k1, k2, k3, k4, k5, k6, k7, k8, k9]
def interned : List (Array UInt16 × Addr) := []
def slotsUsed : Nat := 0
def theMethod : MethodId := ⟨1, 1⟩
def args0 : Array Value := #[.int 5, .int 5, .int 5, .int 5, .int 5, .int 5]
def aboutOver (below : List Frame) : State where
  vm := { classes := classes, interned := interned.toArray }
  heap := heap
  slotsUsed := slotsUsed
  threads := #[{ frames := .invoking theMethod args0 :: below }]
def below0 : List Frame := [.native { method := ⟨0, 0⟩, args := #[] }]
def about1 : State := aboutOver below0
def p0 : Program := .bare "" "" ""
def e0 : Env := launch0.env 0 0 0
theorem w_frames : about1.frames = Frame.invoking theMethod args0 :: below0 := rfl
set_option maxRecDepth 65536 in
theorem w_args : argsFit about1.vm theMethod args0 = true := by decide +kernel
set_option maxRecDepth 65536 in
theorem w_heap : heapFits about1 = true := by decide +kernel
set_option maxRecDepth 65536 in
theorem w_runnable : about1.curStatus? = some .runnable := by decide +kernel
set_option maxRecDepth 65536 in
theorem w_alone : about1.alone = true := by decide +kernel
set_option maxRecDepth 65536 in
theorem w_named : about1.methodNamed? x = some theMethod := by decide +kernel
set_option maxRecDepth 65536 in
theorem w_hears : about1.hears theMethod below0 = true := by decide +kernel
set_option maxRecDepth 65536 in
theorem w_ripe : about1.ripe theMethod args0 below0 = true := by decide +kernel
theorem w_running : about1.status = .running := rfl
set_option maxRecDepth 65536 in
theorem w_room : about1.hasRoom e0.platform room_1 = true :=
  launch0.hasRoom_least _ room_1 (by decide +kernel) (by decide +kernel) (by decide +kernel) (by decide +kernel) (by decide +kernel) (by decide +kernel)
theorem allAtoms_all (ts : List Jvm.Cond) (a : Array Jvm.Value) (st : Jvm.State) : (allAtoms ts).before a st = ts.all (fun c => c.before a st) := by
  induction ts with
  | nil => rfl
  | cons c t ih =>
    show (Jvm.Cond.and c (allAtoms t)).before a st = _
    rw [Jvm.Cond.before_and, ih, List.all_cons]
def words1 : List Jvm.Cond := Jvm.Cond.code x code maxLocals ret :: tables_1
/-- a 'code' word, met by the world's own term for the bytes: nothing is compared byte by byte -/
theorem code_word {y : MethodName} {bytes : ByteArray} {mx : Nat} {rt : Option FieldType} {a : Array Value} {s : State} {m : MethodId} {meth : Method} {c : Code} (h1 : s.methodNamed? y = some m) (h2 : s.vm.method? m = some meth) (h3 : meth.code = some c) (h4 : c.code = bytes)
    (h5 : (c.maxLocals == mx && c.exceptionTable.isEmpty && decide (c.maxStack ≤ mostOperands) && decide (meth.sig.returnType = rt) && !meth.locks && decide (parseMethodDescriptor y.desc = some meth.sig)) = true) : (Jvm.Cond.code y bytes mx rt).before a s = true := by
  simp only [Bool.and_eq_true, beq_iff_eq, Bool.not_eq_true', decide_eq_true_eq] at h5
  obtain ⟨⟨⟨⟨⟨g1, g2⟩, g3⟩, g4⟩, g5⟩, g6⟩ := h5
  simp [Cond.before, Cond.holds, Cond.value, h1, h2, h3, h4, g1, g2, g3, g4, g5, g6]
def isCode : Jvm.Cond → Bool
  | .code _ _ _ _ => true
  | _ => false
theorem all_split {L : List Jvm.Cond} {P : Jvm.Cond → Bool} (h1 : L.all (fun c => isCode c || P c) = true) (h2 : ∀ c ∈ L.filter isCode, P c = true) : L.all P = true := by
  refine List.all_eq_true.mpr fun c hc => ?_
  have h := List.all_eq_true.mp h1 c hc
  rcases Bool.eq_false_or_eq_true (isCode c) with hi | hi
  · exact h2 c (List.mem_filter.mpr ⟨hc, hi⟩)
  · simpa [hi] using h
set_option maxRecDepth 65536 in
theorem w_c0 : (Jvm.Cond.code x code maxLocals ret).before args0 about1 = true := code_word (m := ⟨1, 1⟩) (meth := k1m1) (c := k1c1) (by decide +kernel) rfl rfl rfl (by decide +kernel)
set_option maxRecDepth 65536 in
theorem w_c1 : (Jvm.Cond.code ({ cls := "java/lang/Math", name := "max", desc := "(II)I" } : Jvm.MethodName) jdk_29_method_65_code (2 : Nat) (Option.some Jvm.ClassFile.FieldType.int)).before args0 about1 = true := code_word (m := ⟨2, 1⟩) (meth := k2m1) (c := k2c1) (by decide +kernel) rfl rfl rfl (by decide +kernel)
set_option maxRecDepth 65536 in
theorem w_c2 : (Jvm.Cond.code ({ cls := "com/example/kindred_mesh/kindredmesh/simulation/FloodResultSentAtPinLaw", name := "expect", desc := "(IIIII)I" } : Jvm.MethodName) method_3_code (5 : Nat) (Option.some Jvm.ClassFile.FieldType.int)).before args0 about1 = true := code_word (m := ⟨1, 2⟩) (meth := k1m2) (c := k1c2) (by decide +kernel) rfl rfl rfl (by decide +kernel)
set_option maxRecDepth 65536 in
theorem w_c3 : (Jvm.Cond.code ({ cls := "com/example/kindred_mesh/kindredmesh/simulation/FloodResult", name := "<init>", desc := "(I[II)V" } : Jvm.MethodName) prog_81_method_1_code (4 : Nat) (Option.none : Option Jvm.ClassFile.FieldType)).before args0 about1 = true := code_word (m := ⟨3, 0⟩) (meth := k3m0) (c := k3c0) (by decide +kernel) rfl rfl rfl (by decide +kernel)
set_option maxRecDepth 65536 in
theorem w_c4 : (Jvm.Cond.code ({ cls := "java/lang/Object", name := "<init>", desc := "()V" } : Jvm.MethodName) object_method_1_code (1 : Nat) (Option.none : Option Jvm.ClassFile.FieldType)).before args0 about1 = true := code_word (m := ⟨0, 0⟩) (meth := k0m0) (c := k0c0) (by decide +kernel) rfl rfl rfl (by decide +kernel)
set_option maxRecDepth 65536 in
theorem w_c5 : (Jvm.Cond.code ({ cls := "com/example/kindred_mesh/kindredmesh/simulation/FloodResult", name := "sentAt", desc := "(I)I" } : Jvm.MethodName) prog_81_method_3_code (2 : Nat) (Option.some Jvm.ClassFile.FieldType.int)).before args0 about1 = true := code_word (m := ⟨3, 1⟩) (meth := k3m1) (c := k3c1) (by decide +kernel) rfl rfl rfl (by decide +kernel)
def codes1 : List Jvm.Cond := [Jvm.Cond.code x code maxLocals ret, Jvm.Cond.code ({ cls := "java/lang/Math", name := "max", desc := "(II)I" } : Jvm.MethodName) jdk_29_method_65_code (2 : Nat) (Option.some Jvm.ClassFile.FieldType.int), Jvm.Cond.code ({ cls := "com/example/kindred_mesh/kindredmesh/simulation/FloodResultSentAtPinLaw", name := "expect", desc := "(IIIII)I" } : Jvm.MethodName) method_3_code (5 : Nat) (Option.some Jvm.ClassFile.FieldType.int), Jvm.Cond.code ({ cls := "com/example/kindred_mesh/kindredmesh/simulation/FloodResult", name := "<init>", desc := "(I[II)V" } : Jvm.MethodName) prog_81_method_1_code (4 : Nat) (Option.none : Option Jvm.ClassFile.FieldType), Jvm.Cond.code ({ cls := "java/lang/Object", name := "<init>", desc := "()V" } : Jvm.MethodName) object_method_1_code (1 : Nat) (Option.none : Option Jvm.ClassFile.FieldType), Jvm.Cond.code ({ cls := "com/example/kindred_mesh/kindredmesh/simulation/FloodResult", name := "sentAt", desc := "(I)I" } : Jvm.MethodName) prog_81_method_3_code (2 : Nat) (Option.some Jvm.ClassFile.FieldType.int)]
set_option maxRecDepth 65536 in
theorem codes_eq : words1.filter isCode = codes1 := rfl
theorem w_codes : ∀ c ∈ words1.filter isCode, c.before args0 about1 = true := by
  rw [codes_eq]
  intro c hc
  simp only [codes1, List.mem_cons, List.not_mem_nil, or_false] at hc
  rcases hc with rfl | rfl | rfl | rfl | rfl | rfl
  · exact w_c0
  · exact w_c1
  · exact w_c2
  · exact w_c3
  · exact w_c4
  · exact w_c5
set_option maxRecDepth 65536 in
theorem w_t1 : (words1.take 24).all (fun c => isCode c || c.before args0 about1) = true := by decide +kernel
set_option maxRecDepth 65536 in
theorem w_t2 : (words1.drop 24).all (fun c => isCode c || c.before args0 about1) = true := by decide +kernel
theorem w_tables : (allAtoms (Jvm.Cond.code x code maxLocals ret :: tables_1)).before args0 about1 = true := by
  rw [allAtoms_all]
  show words1.all (fun c => c.before args0 about1) = true
  refine all_split ?_ w_codes
  rw [← List.take_append_drop 24 words1, List.all_append, w_t1, w_t2]
  rfl
set_option maxRecDepth 65536 in
theorem w_case : (Jvm.Cond.and given_1 narrow_1).before args0 about1 = true := by decide +kernel
theorem w_applies : (headSpec (Jvm.Cond.code x code maxLocals ret :: tables_1) room_1).applies x e0.platform about1 = true :=
  (Spec.applies_iff w_frames).mpr ⟨w_running, w_runnable, w_alone, w_named, w_hears, w_ripe, w_room, w_tables⟩
theorem atStart : AtStart classFile x code maxLocals ret World_1 tables_1 room_1 Calls_1 rest_1 Pre_1 launch0 p0 e0 about1 theMethod args0 below0 :=
  ⟨lists_1, trivial, launch0.admits_env _ _ _, launch0.least_env, fairChoices_fair.cas, fairChoices_fair.clock, w_frames, w_args, w_heap, w_applies, trivial, trivial, w_case⟩
end start1
theorem witness_1 : WitnessClaimed_1 := ⟨start1.p0, start1.e0, start1.about1, start1.theMethod, start1.args0, start1.below0, start1.atStart⟩
end Jvm.Pilot.@@N@@
