import JvmDerived
import JvmDerived.Pilot.@@N@@Statement
import JvmDerived.Pilot.@@N@@Code
set_option linter.unusedVariables false
set_option linter.unusedSimpArgs false
namespace Jvm.RoadKit
open Sem ClassFile Op Lib Jvm.Stand Jvm.Free Jvm.LawKit
section New
variable {p : Program} {l : Launch} {e : Env} {R : Room} {s : State} {m : MethodId} {args : Array Value} {below : List Frame} {meth : Method} {c : Code} {T : State} {locs : List Loc} {cells slots : Nat}
theorem retI (X : Stand p l e R s m args below meth c T locs cells slots) (hx : p.tables.exec = Jvm.exec) {pc : Nat} {Ls : Array Slot} {z : Int32} {rest : List Value} (hret : meth.sig.returnType = some .int) (hd : decode c.code pc = .ok (.ireturn, 1)) {fs : List Frame}
    (hl : ∀ (f : JFrame) (acts : List Action), f.method = m → f.locked = none → f.entered = [] → (doReturn e (T.setTop f) acts (some (.int z))).1 = T.setFrames fs) : Steps p.tables e below (T.setTop (mkF m pc Ls (.int z :: rest))) (T.setFrames fs) := by
  have hm' : T.vm.method? m = some meth := X.method'
  have hn : narrow .int (.int z) = .int z := rfl
  show Steps p.tables e below (T.setTop { method := m, pc := pc, locals := Ls, stack := _ :: rest, locked := none }) _
  jvm_step X.here [X.here.top, hx, hd, hm', hret, hn]
  first | (intro acts; rw [hl _ acts rfl rfl rfl]) | rw [hl _ _ rfl rfl rfl]
  exact Steps.refl _
end New
end Jvm.RoadKit
namespace Jvm.Pilot.@@N@@
open Jvm Jvm.ClassFile Sem Op Lib Jvm.Free Jvm.Stand Jvm.LawKit Jvm.RoadKit Bundle Jvm.Pilot.@@N@@.Jvm.D
section OwnGo
variable {p : Program} {l : Launch} {e : Env} {R : Room} {s : State} {m : MethodId} {args : Array Value} {below : List Frame} {meth : Method} {c : Code} {T : State} {locs : List Loc} {cells slots : Nat} {Q : Option Value → Heap → List Loc → Prop} {ck sk : Nat}
/-- from the state S the body comes to its end, and what it returns and leaves meets Q -/
def own_Go (p : Program) (e : Env) (below : List Frame) (s : State) (Q : Option Value → Heap → List Loc → Prop) (ck sk : Nat) (S : State) : Prop :=
  ∃ s₂ o, Steps p.tables e below S s₂ ∧ s₂.status = .running ∧ Ended s₂ below o ∧ ∃ v L, o = .returned v ∧ Q v s₂.heap L ∧ FrameEnd s o s₂ L ck sk
theorem own_go {S S' : State} (st : ∀ t, Steps p.tables e below S' t → Steps p.tables e below S t) (k : own_Go p e below s Q ck sk S') : own_Go p e below s Q ck sk S := by
  obtain ⟨a, b, h, r⟩ := k; exact ⟨a, b, st _ h, r⟩
theorem own_goT {S S' : State} (st : Steps p.tables e below S S') (k : own_Go p e below s Q ck sk S') : own_Go p e below s Q ck sk S := own_go (fun _ h => st.trans h) k
theorem own_retI (X : Stand p l e R s m args below meth c T locs cells slots) (hx : p.tables.exec = Jvm.exec) (hlk : meth.locks = false) {pc : Nat} {Ls : Array Slot} {z : Int32} {rest : List Value} (hret : meth.sig.returnType = some .int) (hd : decode c.code pc = .ok (.ireturn, 1)) (hc : cells ≤ ck) (hs : slots ≤ sk)
    (q : Q (some (.int z)) T.heap locs) : own_Go p e below s Q ck sk (T.setTop (mkF m pc Ls (.int z :: rest))) := by
  obtain ⟨fs, hr, hrun, hended, hW, hsame⟩ := X.leave (v := some (.int z)) (fun h => by rw [hret] at h; cases h) hlk
  exact ⟨_, _, retI X hx hret hd hr, hrun, hended, _, _, rfl, q, ⟨_, rfl⟩, hW, hsame.mono hc hs⟩
theorem own_retN (X : Stand p l e R s m args below meth c T locs cells slots) (hx : p.tables.exec = Jvm.exec) (hlk : meth.locks = false) {t : FieldType} {pc : Nat} {Ls : Array Slot} {z : Int32} {rest : List Value} (ht : t = .boolean ∨ t = .byte ∨ t = .char ∨ t = .short) (hret : meth.sig.returnType = some t) (hd : decode c.code pc = .ok (.ireturn, 1)) (hc : cells ≤ ck) (hs : slots ≤ sk)
    (q : Q (some (.int (nar t z))) T.heap locs) : own_Go p e below s Q ck sk (T.setTop (mkF m pc Ls (.int z :: rest))) := by
  obtain ⟨fs, hr, hrun, hended, hW, hsame⟩ := X.leave (v := some (.int (nar t z))) (fun h => by rw [hret] at h; cases h) hlk
  exact ⟨_, _, retN X hx hret ht hd hr, hrun, hended, _, _, rfl, q, ⟨_, rfl⟩, hW, hsame.mono hc hs⟩
theorem own_ret0 (X : Stand p l e R s m args below meth c T locs cells slots) (hx : p.tables.exec = Jvm.exec) (hlk : meth.locks = false) {pc : Nat} {Ls : Array Slot} (hret : meth.sig.returnType = none) (hd : decode c.code pc = .ok (.return_, 1)) (hc : cells ≤ ck) (hs : slots ≤ sk)
    (q : Q none T.heap locs) : own_Go p e below s Q ck sk (T.setTop (mkF m pc Ls [])) := by
  obtain ⟨fs, hr, hrun, hended, hW, hsame⟩ := X.leave (v := none) (fun _ => rfl) hlk
  exact ⟨_, _, X.returnOut hx hret hd hr, hrun, hended, _, _, rfl, q, ⟨_, rfl⟩, hW, hsame.mono hc hs⟩
theorem own_retA (X : Stand p l e R s m args below meth c T locs cells slots) (hx : p.tables.exec = Jvm.exec) (hlk : meth.locks = false) {t : FieldType} {pc : Nat} {Ls : Array Slot} {w : Value} (hw : w.isRef = true) (ht : t.isReference = true) (hret : meth.sig.returnType = some t) (hd : decode c.code pc = .ok (.areturn, 1)) (hc : cells ≤ ck) (hs : slots ≤ sk)
    (q : Q (some w) T.heap locs) : own_Go p e below s Q ck sk (T.setTop (mkF m pc Ls [w])) := by
  obtain ⟨fs, hr, hrun, hended, hW, hsame⟩ := X.leave (v := some w) (fun h => by rw [hret] at h; cases h) hlk
  exact ⟨_, _, X.areturnOut hx hw hret ht hd hr, hrun, hended, _, _, rfl, q, ⟨_, rfl⟩, hW, hsame.mono hc hs⟩
theorem own_retJ (X : Stand p l e R s m args below meth c T locs cells slots) (hx : p.tables.exec = Jvm.exec) (hlk : meth.locks = false) {pc : Nat} {Ls : Array Slot} {w : Int64} (hret : meth.sig.returnType = some .long) (hd : decode c.code pc = .ok (.lreturn, 1)) (hc : cells ≤ ck) (hs : slots ≤ sk)
    (q : Q (some (.long w)) T.heap locs) : own_Go p e below s Q ck sk (T.setTop (mkF m pc Ls [.long w])) := by
  obtain ⟨fs, hr, hrun, hended, hW, hsame⟩ := X.leave (v := some (.long w)) (fun h => by rw [hret] at h; cases h) hlk
  exact ⟨_, _, X.lreturnOut hx hret hd hr, hrun, hended, _, _, rfl, q, ⟨_, rfl⟩, hW, hsame.mono hc hs⟩
end OwnGo
theorem own_retD {p : Program} {l : Launch} {e : Env} {R : Room} {s : State} {m : MethodId} {args : Array Value} {below : List Frame} {meth : Method} {c : Code} {T : State} {locs : List Loc} {cells slots : Nat} {Q : Option Value → Heap → List Loc → Prop} {ck sk : Nat} (X : Stand p l e R s m args below meth c T locs cells slots) (hx : p.tables.exec = Jvm.exec) (hlk : meth.locks = false) {pc : Nat} {Ls : Array Slot} {w : UInt64} (hret : meth.sig.returnType = some .double) (hd : decode c.code pc = .ok (.dreturn, 1)) (hc : cells ≤ ck) (hs : slots ≤ sk)
    (q : Q (some (.double w)) T.heap locs) : own_Go p e below s Q ck sk (T.setTop (mkF m pc Ls [.double w])) := by
  obtain ⟨fs, hr, hrun, hended, hW, hsame⟩ := X.leave (v := some (.double w)) (fun h => by rw [hret] at h; cases h) hlk
  exact ⟨_, _, retOut X hx hret rfl (Or.inr (Or.inr (Or.inl ⟨rfl, rfl, _, rfl⟩))) hd hr, hrun, hended, _, _, rfl, q, ⟨_, rfl⟩, hW, hsame.mono hc hs⟩
theorem own_leq {x y : Int64} (h : x = y) : lcmpW x y = 0 := (lw_eq x y).mpr h
theorem own_lne {x y : Int64} (h : ¬ x = y) : ¬ lcmpW x y = 0 := fun q => h ((lw_eq x y).mp q)
theorem own_llt {x y : Int64} (h : x < y) : lcmpW x y < 0 := (lw_lt x y).mpr h
theorem own_lnlt {x y : Int64} (h : ¬ x < y) : ¬ lcmpW x y < 0 := fun q => h ((lw_lt x y).mp q)
theorem own_lgt {x y : Int64} (h : y < x) : 0 < lcmpW x y := (lw_gt x y).mpr h
theorem own_lngt {x y : Int64} (h : ¬ y < x) : ¬ 0 < lcmpW x y := fun q => h ((lw_gt x y).mp q)
theorem own_ltr {x y : Int32} {k : Int} (h : x < y) (e : y.toInt = k) : x.toInt < k := by rw [← e]; exact Int32.lt_iff_toInt_lt.mp h
theorem own_ltl {x y : Int32} {k : Int} (h : x < y) (e : x.toInt = k) : k < y.toInt := by rw [← e]; exact Int32.lt_iff_toInt_lt.mp h
theorem own_nltr {x y : Int32} {k : Int} (h : ¬ x < y) (e : y.toInt = k) : k ≤ x.toInt := by rw [← e]; exact Int.not_lt.mp fun q => h (Int32.lt_iff_toInt_lt.mpr q)
theorem own_nltl {x y : Int32} {k : Int} (h : ¬ x < y) (e : x.toInt = k) : y.toInt ≤ k := by rw [← e]; exact Int.not_lt.mp fun q => h (Int32.lt_iff_toInt_lt.mpr q)
theorem own_eqr {x y : Int32} {k : Int} (h : x = y) (e : y.toInt = k) : x.toInt = k := by rw [← e, h]
theorem own_neqr {x y : Int32} {k : Int} (h : ¬ x = y) (e : y.toInt = k) : ¬ x.toInt = k := by rw [← e]; exact fun q => h (Int32.toInt_inj.mp q)
theorem own_selP {s : State} {args : Array Value} {y : MethodName} {n : Nat} (wi : (Jvm.Cond.instantiable y.cls n).before args s = true) (wp : (Jvm.Cond.privateMethod y).before args s = true) (wn : (Jvm.Cond.instanceMethod y).before args s = true) (hy : y.cls ≠ "java/lang/invoke/MethodHandle" ∧ y.cls ≠ "java/lang/invoke/VarHandle") : (Jvm.Cond.selects y.cls y y).before args s = true := by
  obtain ⟨c, k, h1, h2, -, h4, -⟩ := Cond.instantiable_spec wi
  exact Jvm.Stand.selects_self_of_private h1 h2 (Bool.or_eq_false_iff.mp h4).1 (Cond.privateMethod_at wp) wn hy
theorem own_eqInt {t : Term} {k : Int32} {args : Array Value} {s : State} (h : (Jvm.Cond.eq t (Term.int k)).value args s none s [] = some true) : t.eval args s none [] s = some (.int k) := by
  have hk : (Term.int k).eval args s none [] s = some (.int k) := rfl
  cases ht : t.eval args s none [] s with
  | none => simp [Jvm.Cond.value, ht] at h
  | some v => cases v <;> simp [Jvm.Cond.value, ht, hk] at h; rw [h]
def own_GoW (p : Program) (e : Env) (below : List Frame) (s : State) (Q : Option Value → Heap → List Loc → Prop) (ck sk : Nat) (S : State) : Prop :=
  ∃ s₂ o, Steps p.tables e below S s₂ ∧ s₂.status = .running ∧ Ended s₂ below o ∧ ∃ v L, o = .returned v ∧ Q v s₂.heap L ∧ ReturnedEndW s o s₂ L ck sk
section OwnGoW
variable {p : Program} {l : Launch} {e : Env} {R : Room} {s : State} {m : MethodId} {args : Array Value} {below : List Frame} {meth : Method} {c : Code} {T : State} {locs : List Loc} {cells slots : Nat} {Q : Option Value → Heap → List Loc → Prop} {ck sk : Nat}
theorem own_goW {S S' : State} (st : ∀ t, Steps p.tables e below S' t → Steps p.tables e below S t) (k : own_GoW p e below s Q ck sk S') : own_GoW p e below s Q ck sk S := by
  obtain ⟨a, b, h, r⟩ := k; exact ⟨a, b, st _ h, r⟩
theorem own_goTW {S S' : State} (st : Steps p.tables e below S S') (k : own_GoW p e below s Q ck sk S') : own_GoW p e below s Q ck sk S := own_goW (fun _ h => st.trans h) k
theorem own_retNW {vm1 : Vm} {n : Nat} (X : Stand p l e R (s.setVm vm1) m args below meth c T locs cells slots) (hS : s.Since vm1 n) (hn : n ≤ T.heap.size) (hx : p.tables.exec = Jvm.exec) (hlk : meth.locks = false) {t : FieldType} {pc : Nat} {Ls : Array Slot} {z : Int32} {rest : List Value} (ht : t = .boolean ∨ t = .byte ∨ t = .char ∨ t = .short) (hret : meth.sig.returnType = some t) (hd : decode c.code pc = .ok (.ireturn, 1)) (hc : cells ≤ ck) (hs : slots ≤ sk)
    (q : Q (some (.int (nar t z))) T.heap locs) : own_GoW p e below s Q ck sk (T.setTop (mkF m pc Ls (.int z :: rest))) := by
  obtain ⟨fs, hr, hrun, hended, hW⟩ := X.leaveW hS hn (v := some (.int (nar t z))) (fun h => by rw [hret] at h; cases h) hlk
  exact ⟨_, _, retN X hx hret ht hd hr, hrun, hended, _, _, rfl, q, hW.1, hW.2.1, hW.2.2.1, hW.2.2.2.mono hc hs⟩
theorem own_ret0W {vm1 : Vm} {n : Nat} (X : Stand p l e R (s.setVm vm1) m args below meth c T locs cells slots) (hS : s.Since vm1 n) (hn : n ≤ T.heap.size) (hx : p.tables.exec = Jvm.exec) (hlk : meth.locks = false) {pc : Nat} {Ls : Array Slot} (hret : meth.sig.returnType = none) (hd : decode c.code pc = .ok (.return_, 1)) (hc : cells ≤ ck) (hs : slots ≤ sk)
    (q : Q none T.heap locs) : own_GoW p e below s Q ck sk (T.setTop (mkF m pc Ls [])) := by
  obtain ⟨fs, hr, hrun, hended, hW⟩ := X.leaveW hS hn (v := none) (fun _ => rfl) hlk
  exact ⟨_, _, X.returnOut hx hret hd hr, hrun, hended, _, _, rfl, q, hW.1, hW.2.1, hW.2.2.1, hW.2.2.2.mono hc hs⟩
/-- a callee that may load a literal, whose contract asks that nothing was interned since the law's start -/
theorem own_backS {Z : State} {a0 : Array Value} {h : Heap} {y : MethodName} {bytes : ByteArray} {maxL : Nat} {ret : Option FieldType} {rm : Room} {len W : Nat} {as' : Array Value}
    (hM : MetFree l y (head1 [Cond.code y bytes maxL ret] rm) (fun a U => a = as' ∧ Z.Warmed39 U.vm ∧ U.heap = h ∧ U.vm.interned = Z.vm.interned) (fun _ _ _ _ _ => True) (fun _ U o U' => ∃ v L, o = .returned v ∧ Q v U'.heap L ∧ ReturnedEndW U o U' L rm.cells rm.slots))
    (hZ : Z.Warmed39 s.vm) (hI : s.vm.interned = Z.vm.interned) (wc : (Cond.code y bytes maxL ret).before a0 Z = true) (wz : (Cond.initialized y.cls).before a0 Z = true) (hf : rm.frames + 1 ≤ R.frames) (hl : W + (maxL + 11) + rm.locals ≤ R.locals) :
    BackS l R p e below s args y len W (fun A a => a = as' ∧ A.U.heap = h ∧ A.cells + rm.cells ≤ R.cells ∧ A.slots + rm.slots ≤ R.slots)
      (fun A _ v B => ∃ L, Q v B.U.heap L ∧ B.locs = A.locs ++ L ∧ B.cells = A.cells + rm.cells ∧ B.slots = A.slots + rm.slots) := by
  refine BackS.of_freeW (bytes := bytes) (maxL := maxL) (ret := ret) (E := fun _ _ o t L k n => (k = rm.cells ∧ n = rm.slots) ∧ ∃ v, o = .returned v ∧ Q v t.heap L) hM hf hl ?_ ?_ (fun _ _ _ _ _ _ _ _ _ => trivial) ?_ ?_
  · intro m meth c A a Y hp
    have hU : Z.Warmed39 A.U.vm := wtrans hZ Y.warmed
    refine ⟨?_, mv hU wc, mv hU wz, hp.2.2.1, hp.2.2.2⟩
    show (Cond.and _ .tt).before a A.U = true
    rw [Cond.before_and, mv hU wc]; rfl
  · intro m meth c A a g mk Y hp
    exact ⟨hp.1, wtrans hZ Y.warmed, hp.2.1, Y.warmed.interned_eq.trans hI⟩
  · rintro a f o t ⟨v, L, h1, h2, h3⟩
    exact ⟨L, _, _, h3, ⟨rfl, rfl⟩, v, h1, h2⟩
  · rintro m meth c A a g mk v t L k n Y hp - - ⟨⟨e1, e2⟩, v', e3, e4⟩
    cases e3; subst e1 e2; exact ⟨L, e4, rfl, rfl, rfl⟩
end OwnGoW
theorem own_neInt {t : Term} {k z : Int32} {args : Array Value} {s : State} (ev : t.eval args s none [] s = some (.int z)) (h : (Jvm.Cond.not (Jvm.Cond.eq t (Term.int k))).value args s none s [] = some true) : ¬ z = k := by
  intro q; subst q
  have hk : (Term.int z).eval args s none [] s = some (.int z) := rfl
  simp [Jvm.Cond.value, ev, hk] at h
theorem own_le255 (x : Int32) : ¬ (255 : Int32) < nar .char ((x &&& (255 : Int32)).toUInt32.toUInt16.toUInt32.toInt32) := by
  intro q
  have h1 := own_ltl q (by decide : (255 : Int32).toInt = 255)
  have h2 := c_mask x 255 8 (by decide) (by decide)
  have h3 := c_i2c (x &&& (255 : Int32))
  have h4 := c_i2c ((x &&& (255 : Int32)).toUInt32.toUInt16.toUInt32.toInt32)
  have h5 : nar .char ((x &&& (255 : Int32)).toUInt32.toUInt16.toUInt32.toInt32) = (((x &&& (255 : Int32)).toUInt32.toUInt16.toUInt32.toInt32)).toUInt32.toUInt16.toUInt32.toInt32 := rfl
  rw [h5] at h1
  omega
theorem d10_0 : decode jdk_52_method_15_code 0 = .ok (.iload_n 1, 1) := by decide +kernel
theorem d10_1 : decode jdk_52_method_15_code 1 = .ok (.aload_n 0, 1) := by decide +kernel
theorem d10_2 : decode jdk_52_method_15_code 2 = .ok (.arraylength, 1) := by decide +kernel
theorem d10_3 : decode jdk_52_method_15_code 3 = .ok (.isub, 1) := by decide +kernel
theorem d10_4 : decode jdk_52_method_15_code 4 = .ok (.bipush 31, 2) := by decide +kernel
theorem d10_6 : decode jdk_52_method_15_code 6 = .ok (.iushr, 1) := by decide +kernel
theorem d10_7 : decode jdk_52_method_15_code 7 = .ok (.i2b, 1) := by decide +kernel
theorem d10_8 : decode jdk_52_method_15_code 8 = .ok (.ireturn, 1) := by decide +kernel
theorem pn_8 : plainName "java/lang/StringUTF16" = true := by first | (simp [plainName, overriddenIn]; done) | decide +kernel
theorem ef_rm10 (m : MethodId) (x0 : Addr) (x1 : Int32) : entryFrame m #[(.ref x0), (.int x1)] 2 = mkF m 0 #[.val (.ref x0), .val (.int x1)] [] := by first | (simp [entryFrame, mkF, argsToLocals, Value.category]; done) | rfl
def Q_rm10 (Z : State) (ba : Addr) (kB : ClassId) (vs : List Value) (h0 : Heap) (n0 : Nat) (v : Option Value) (h : Heap) (L : List Loc) : Prop := v = some (.int 0) ∧ h = h0 ∧ L = []
set_option maxRecDepth 65536 in
set_option maxHeartbeats 40000000 in
theorem rm10 (l : Launch) (Z : State) (a0 : Array Value) (hw : ∀ d ∈ tables_1, d.before a0 Z = true) (ws : List Jvm.Cond) (ba : Addr) (kB : ClassId) (vs : List Value) (h0 : Heap) (n0 : Nat) (Z0 : n0 ≤ h0.size) (VB : Arv Z h0 ba kB .byte (2 : Int32) vs (.int (0 : Int32))) :
    MetFree l (⟨"java/lang/StringUTF16", "coderFromArrayLen", "([BI)B"⟩ : MethodName) (head1 (Jvm.Cond.code (⟨"java/lang/StringUTF16", "coderFromArrayLen", "([BI)B"⟩ : MethodName) jdk_52_method_15_code 2 (some .byte) :: ws) ({ frames := 0, cells := 0, slots := 0, locals := 0 } : Room)) (fun a U => a = #[(.ref ba), (.int (2 : Int32))] ∧ Z.Warmed39 U.vm ∧ U.heap = h0) (fun _ _ _ _ _ => True) (fun _ U o U' => ∃ v L, o = .returned v ∧ Q_rm10 Z ba kB vs h0 n0 v U'.heap L ∧ FrameEnd U o U' L ({ frames := 0, cells := 0, slots := 0, locals := 0 } : Room).cells ({ frames := 0, cells := 0, slots := 0, locals := 0 } : Room).slots) := by
  refine MetFree.of_bodySF (plainFor_of_name pn_8) hisR ?_
  intro p e s m args below meth c s₁ Bd hml0 hP hK
  obtain ⟨rfl, hZ, hh⟩ := hP
  have hx := Bd.exec
  have hby := Bd.bytes
  have hlk := Bd.notSynchronized
  have hml : c.maxLocals = 2 := hml0
  have hown : s.vm.findClass "java/lang/StringUTF16" = some m.cls := findClass_of_methodNamed Bd.named
  have hnm := (name_of_methodNamed Bd.named Bd.method).1
  have X0 : Stand p l e ({ frames := 0, cells := 0, slots := 0, locals := 0 } : Room) s m #[(.ref ba), (.int (2 : Int32))] below meth c s₁ [] 0 0 := Stand.of_body Bd
  have e0 : s₁.heap = h0 := by rw [← hh, Bd.state]; rfl
  have N0 := Fr.nil n0
  change own_Go p e below s (Q_rm10 Z ba kB vs h0 n0) ({ frames := 0, cells := 0, slots := 0, locals := 0 } : Room).cells ({ frames := 0, cells := 0, slots := 0, locals := 0 } : Room).slots _
  refine own_go (S' := (s₁.setTop (mkF m 0 #[.val (.ref ba), .val (.int (2 : Int32))] []))) (fun _ kont => castTop (ef_rm10 m ba (2 : Int32)) kont) ?_
  refine own_go (S' := (s₁.setTop (mkF m 2 #[.val (.ref ba), .val (.int (2 : Int32))] [(.ref ba), (.int (2 : Int32))]))) (fun _ kont => XS.iloadN X0.here hx rfl (hb hby d10_0) rfl (XS.aloadN X0.here hx rfl (hb hby d10_1) rfl rfl kont)) ?_
  obtain ⟨cl1, Ar1, -, S1, M1, -, -⟩ := id VB
  have ql1 := len_of S1 M1
  refine own_go (S' := (s₁.setTop (mkF m 3 #[.val (.ref ba), .val (.int (2 : Int32))] [(.int (2 : Int32)), (.int (2 : Int32))]))) (fun _ kont => X0.arraylength hx (by rw [e0]; exact Ar1.1) (State.isArrayOf_alike hZ.alike Ar1.2.1) (g := (mkF m 2 #[.val (.ref ba), .val (.int (2 : Int32))] [(.ref ba), (.int (2 : Int32))])) rfl rfl (hb hby d10_2) _ (by rw [ql1]; exact kont)) ?_
  refine own_go (S' := (s₁.setTop (mkF m 4 #[.val (.ref ba), .val (.int (2 : Int32))] [(.int ((2 : Int32) - (2 : Int32)))]))) (fun _ kont => XS.isub X0.here hx rfl (hb hby d10_3) rfl kont) ?_
  rw [show ((2 : Int32) - (2 : Int32)) = (0 : Int32) from by decide]
  refine own_go (S' := (s₁.setTop (mkF m 7 #[.val (.ref ba), .val (.int (2 : Int32))] [(.int (((0 : Int32).toUInt32 >>> ((31 : Int32) &&& 31).toUInt32).toInt32))]))) (fun _ kont => XS.bipush X0.here hx rfl (hb hby d10_4) (XS.iushr X0.here hx rfl (hb hby d10_6) rfl kont)) ?_
  rw [show (((0 : Int32).toUInt32 >>> ((31 : Int32) &&& 31).toUInt32).toInt32) = (0 : Int32) from by decide]
  refine own_go (S' := (s₁.setTop (mkF m 8 #[.val (.ref ba), .val (.int (2 : Int32))] [(.int ((0 : Int32).toInt8.toInt32))]))) (fun _ kont => XS.i2b X0.here hx rfl (hb hby d10_7) rfl kont) ?_
  refine own_retN (t := .byte) X0 hx hlk (by simp) Bd.returns (hb hby d10_8) (by decide) (by decide) ?_
  exact ⟨by first | rfl | decide, e0, rfl⟩
theorem d9_0 : decode jdk_52_method_21_code 0 = .ok (.iconst 0, 1) := by decide +kernel
theorem d9_1 : decode jdk_52_method_21_code 1 = .ok (.istore 5, 2) := by decide +kernel
theorem d9_3 : decode jdk_52_method_21_code 3 = .ok (.iload 5, 2) := by decide +kernel
theorem d9_5 : decode jdk_52_method_21_code 5 = .ok (.iload 4, 2) := by decide +kernel
theorem d9_7 : decode jdk_52_method_21_code 7 = .ok (.if_icmp .ge 37, 3) := by decide +kernel
theorem d9_10 : decode jdk_52_method_21_code 10 = .ok (.aload_n 0, 1) := by decide +kernel
theorem d9_11 : decode jdk_52_method_21_code 11 = .ok (.iload_n 1, 1) := by decide +kernel
theorem d9_12 : decode jdk_52_method_21_code 12 = .ok (.caload, 1) := by decide +kernel
theorem d9_13 : decode jdk_52_method_21_code 13 = .ok (.istore 6, 2) := by decide +kernel
theorem d9_15 : decode jdk_52_method_21_code 15 = .ok (.iload 6, 2) := by decide +kernel
theorem d9_17 : decode jdk_52_method_21_code 17 = .ok (.sipush 255, 3) := by decide +kernel
theorem d9_20 : decode jdk_52_method_21_code 20 = .ok (.if_icmp .le 6, 3) := by decide +kernel
theorem d9_26 : decode jdk_52_method_21_code 26 = .ok (.aload_n 2, 1) := by decide +kernel
theorem d9_27 : decode jdk_52_method_21_code 27 = .ok (.iload_n 3, 1) := by decide +kernel
theorem d9_28 : decode jdk_52_method_21_code 28 = .ok (.iload 6, 2) := by decide +kernel
theorem d9_30 : decode jdk_52_method_21_code 30 = .ok (.i2b, 1) := by decide +kernel
theorem d9_31 : decode jdk_52_method_21_code 31 = .ok (.bastore, 1) := by decide +kernel
theorem d9_32 : decode jdk_52_method_21_code 32 = .ok (.iinc 1 1, 3) := by decide +kernel
theorem d9_35 : decode jdk_52_method_21_code 35 = .ok (.iinc 3 1, 3) := by decide +kernel
theorem d9_38 : decode jdk_52_method_21_code 38 = .ok (.iinc 5 1, 3) := by decide +kernel
theorem d9_41 : decode jdk_52_method_21_code 41 = .ok (.goto (-38), 3) := by decide +kernel
theorem d9_44 : decode jdk_52_method_21_code 44 = .ok (.iload 4, 2) := by decide +kernel
theorem d9_46 : decode jdk_52_method_21_code 46 = .ok (.ireturn, 1) := by decide +kernel
theorem ef_rm9 (m : MethodId) (x0 : Addr) (x1 : Int32) (x2 : Addr) (x3 : Int32) (x4 : Int32) : entryFrame m #[(.ref x0), (.int x1), (.ref x2), (.int x3), (.int x4)] 7 = mkF m 0 #[.val (.ref x0), .val (.int x1), .val (.ref x2), .val (.int x3), .val (.int x4), .unset, .unset] [] := by first | (simp [entryFrame, mkF, argsToLocals, Value.category]; done) | rfl
def Q_rm9 (Z : State) (va ba : Addr) (kA kB : ClassId) (x y : Int32) (h0 : Heap) (n0 : Nat) (v : Option Value) (h : Heap) (L : List Loc) : Prop := v = some (.int 2) ∧ Fr n0 L ∧ Keep h0 h [ba] ∧ ∃ vs, Arv Z h ba kB .byte (2 : Int32) vs (.int (0 : Int32))
set_option maxRecDepth 65536 in
set_option maxHeartbeats 40000000 in
theorem rm9 (l : Launch) (Z : State) (a0 : Array Value) (hw : ∀ d ∈ tables_1, d.before a0 Z = true) (ws : List Jvm.Cond) (va ba : Addr) (kA kB : ClassId) (x y : Int32) (h0 : Heap) (n0 : Nat) (Z0 : n0 ≤ h0.size) (VA : Arv Z h0 va kA .char (2 : Int32) [(.int x), (.int y)] (.int (0 : Int32))) (VB : Arv Z h0 ba kB .byte (2 : Int32) [] (.int (0 : Int32))) (nab : va ≠ ba) (g_ba : n0 ≤ ba) (hqx : ¬ (255 : Int32) < x) (hqy : ¬ (255 : Int32) < y) :
    MetFree l (⟨"java/lang/StringUTF16", "compress", "([CI[BII)I"⟩ : MethodName) (head1 (Jvm.Cond.code (⟨"java/lang/StringUTF16", "compress", "([CI[BII)I"⟩ : MethodName) jdk_52_method_21_code 7 (some .int) :: ws) ({ frames := 0, cells := 0, slots := 0, locals := 0 } : Room)) (fun a U => a = #[(.ref va), (.int (0 : Int32)), (.ref ba), (.int (0 : Int32)), (.int (2 : Int32))] ∧ Z.Warmed39 U.vm ∧ U.heap = h0) (fun _ _ _ _ _ => True) (fun _ U o U' => ∃ v L, o = .returned v ∧ Q_rm9 Z va ba kA kB x y h0 n0 v U'.heap L ∧ FrameEnd U o U' L ({ frames := 0, cells := 0, slots := 0, locals := 0 } : Room).cells ({ frames := 0, cells := 0, slots := 0, locals := 0 } : Room).slots) := by
  refine MetFree.of_bodySF (plainFor_of_name pn_8) hisR ?_
  intro p e s m args below meth c s₁ Bd hml0 hP hK
  obtain ⟨rfl, hZ, hh⟩ := hP
  have hx := Bd.exec
  have hby := Bd.bytes
  have hlk := Bd.notSynchronized
  have hml : c.maxLocals = 7 := hml0
  have hown : s.vm.findClass "java/lang/StringUTF16" = some m.cls := findClass_of_methodNamed Bd.named
  have hnm := (name_of_methodNamed Bd.named Bd.method).1
  have X0 : Stand p l e ({ frames := 0, cells := 0, slots := 0, locals := 0 } : Room) s m #[(.ref va), (.int (0 : Int32)), (.ref ba), (.int (0 : Int32)), (.int (2 : Int32))] below meth c s₁ [] 0 0 := Stand.of_body Bd
  have e0 : s₁.heap = h0 := by rw [← hh, Bd.state]; rfl
  have N0 := Fr.nil n0
  change own_Go p e below s (Q_rm9 Z va ba kA kB x y h0 n0) ({ frames := 0, cells := 0, slots := 0, locals := 0 } : Room).cells ({ frames := 0, cells := 0, slots := 0, locals := 0 } : Room).slots _
  refine own_go (S' := (s₁.setTop (mkF m 0 #[.val (.ref va), .val (.int (0 : Int32)), .val (.ref ba), .val (.int (0 : Int32)), .val (.int (2 : Int32)), .unset, .unset] []))) (fun _ kont => castTop (ef_rm9 m va (0 : Int32) ba (0 : Int32) (2 : Int32)) kont) ?_
  have K0 := Keep.refl h0 [ba]
  have V1 : Arv Z h0 ba kB .byte (2 : Int32) [(.int (0 : Int32)), (.int (0 : Int32))] (.int (0 : Int32)) := VB.pad (pad_rep [] (.int (0 : Int32)) 2)
  refine own_go (S' := (s₁.setTop (mkF m 12 #[.val (.ref va), .val (.int (0 : Int32)), .val (.ref ba), .val (.int (0 : Int32)), .val (.int (2 : Int32)), .val (.int (0 : Int32)), .unset] [(.int (0 : Int32)), (.ref va)]))) (fun _ kont => XS.iconst X0.here hx rfl (hb hby d9_0) (XS.istore X0.here hx rfl (hb hby d9_1) rfl (l' := #[.val (.ref va), .val (.int (0 : Int32)), .val (.ref ba), .val (.int (0 : Int32)), .val (.int (2 : Int32)), .val (.int (0 : Int32)), .unset]) rfl (XS.iload X0.here hx rfl (hb hby d9_3) rfl (XS.iload X0.here hx rfl (hb hby d9_5) rfl (XS.icmpNo X0.here hx rfl (hb hby d9_7) rfl (tlt (by decide)).2.1 (XS.aloadN X0.here hx rfl (hb hby d9_10) rfl rfl (XS.iloadN X0.here hx rfl (hb hby d9_11) rfl kont))))))) ?_
  obtain ⟨cl2, Ar2, -, S2, -, H2, -⟩ := id VA
  have hin2 := inb_of (j := (0 : Int32)) S2 ⟨by decide, by decide⟩
  have hat2 := Has.at (v := (.int x)) H2 hin2 (by first | rfl | decide)
  refine own_go (S' := (s₁.setTop (mkF m 13 #[.val (.ref va), .val (.int (0 : Int32)), .val (.ref ba), .val (.int (0 : Int32)), .val (.int (2 : Int32)), .val (.int (0 : Int32)), .unset] [(.int x)]))) (fun _ kont => X0.caload hx (j := (0 : Int32)) (v := (.int x)) (by rw [e0]; exact Ar2.1) (State.isArrayOf_alike hZ.alike Ar2.2.1) Ar2.2.2 hin2 hat2 (g := (mkF m 12 #[.val (.ref va), .val (.int (0 : Int32)), .val (.ref ba), .val (.int (0 : Int32)), .val (.int (2 : Int32)), .val (.int (0 : Int32)), .unset] [(.int (0 : Int32)), (.ref va)])) rfl rfl (hb hby d9_12) _ kont) ?_
  refine own_go (S' := (s₁.setTop (mkF m 31 #[.val (.ref va), .val (.int (0 : Int32)), .val (.ref ba), .val (.int (0 : Int32)), .val (.int (2 : Int32)), .val (.int (0 : Int32)), .val (.int x)] [(.int (x.toInt8.toInt32)), (.int (0 : Int32)), (.ref ba)]))) (fun _ kont => XS.istore X0.here hx rfl (hb hby d9_13) rfl (l' := #[.val (.ref va), .val (.int (0 : Int32)), .val (.ref ba), .val (.int (0 : Int32)), .val (.int (2 : Int32)), .val (.int (0 : Int32)), .val (.int x)]) rfl (XS.iload X0.here hx rfl (hb hby d9_15) rfl (XS.sipush X0.here hx rfl (hb hby d9_17) (XS.icmpYes X0.here hx rfl (pc0 := 20) (pc' := 26) rfl (hb hby d9_20) rfl (flt hqx).2.2.2 (by decide) (by decide) (XS.aloadN X0.here hx rfl (hb hby d9_26) rfl rfl (XS.iloadN X0.here hx rfl (hb hby d9_27) rfl (XS.iload X0.here hx rfl (hb hby d9_28) rfl (XS.i2b X0.here hx rfl (hb hby d9_30) rfl kont)))))))) ?_
  obtain ⟨cl3, Ar3, qc3, S3, M3, Ha3, Ga3⟩ := id V1
  obtain ⟨T3, h3, X3, e3, W3, st3⟩ := stB X0 hx hZ e0 Ar3 (j := (0 : Int32)) (inb_of S3 ⟨by decide, by decide⟩) (g := (mkF m 31 #[.val (.ref va), .val (.int (0 : Int32)), .val (.ref ba), .val (.int (0 : Int32)), .val (.int (2 : Int32)), .val (.int (0 : Int32)), .val (.int x)] [(.int (x.toInt8.toInt32)), (.int (0 : Int32)), (.ref ba)])) rfl rfl (hb hby d9_31)
  have c3_Vva := VA.other W3 nab
  have V3 : Arv Z h3 ba kB .byte (2 : Int32) [(.int (nar .byte (x.toInt8.toInt32))), (.int (0 : Int32))] (.int (0 : Int32)) := Arv.set Ar3 qc3 S3 M3 Ha3 Ga3 (fits_nar_byte _) W3 0 (by decide) (Nat.le_of_ble_eq_true rfl)
  have K3 := K0.wr W3 (Or.inl (List.mem_of_getElem? (i := 0) rfl))
  have N3 := Fr.snoc X3 N0 g_ba
  have Z3 : n0 ≤ h3.size := Nat.le_trans Z0 (Nat.le_of_eq W3.size.symm)
  refine own_go (S' := (T3.setTop (mkF m 32 #[.val (.ref va), .val (.int (0 : Int32)), .val (.ref ba), .val (.int (0 : Int32)), .val (.int (2 : Int32)), .val (.int (0 : Int32)), .val (.int x)] []))) st3 ?_
  refine own_go (S' := (T3.setTop (mkF m 35 #[.val (.ref va), .val (.int ((0 : Int32) + (1 : Int32))), .val (.ref ba), .val (.int (0 : Int32)), .val (.int (2 : Int32)), .val (.int (0 : Int32)), .val (.int x)] []))) (fun _ kont => XS.iinc X3.here hx rfl (hb hby d9_32) rfl (l' := #[.val (.ref va), .val (.int ((0 : Int32) + (1 : Int32))), .val (.ref ba), .val (.int (0 : Int32)), .val (.int (2 : Int32)), .val (.int (0 : Int32)), .val (.int x)]) rfl kont) ?_
  rw [show ((0 : Int32) + (1 : Int32)) = (1 : Int32) from by decide]
  refine own_go (S' := (T3.setTop (mkF m 38 #[.val (.ref va), .val (.int (1 : Int32)), .val (.ref ba), .val (.int ((0 : Int32) + (1 : Int32))), .val (.int (2 : Int32)), .val (.int (0 : Int32)), .val (.int x)] []))) (fun _ kont => XS.iinc X3.here hx rfl (hb hby d9_35) rfl (l' := #[.val (.ref va), .val (.int (1 : Int32)), .val (.ref ba), .val (.int ((0 : Int32) + (1 : Int32))), .val (.int (2 : Int32)), .val (.int (0 : Int32)), .val (.int x)]) rfl kont) ?_
  rw [show ((0 : Int32) + (1 : Int32)) = (1 : Int32) from by decide]
  refine own_go (S' := (T3.setTop (mkF m 41 #[.val (.ref va), .val (.int (1 : Int32)), .val (.ref ba), .val (.int (1 : Int32)), .val (.int (2 : Int32)), .val (.int ((0 : Int32) + (1 : Int32))), .val (.int x)] []))) (fun _ kont => XS.iinc X3.here hx rfl (hb hby d9_38) rfl (l' := #[.val (.ref va), .val (.int (1 : Int32)), .val (.ref ba), .val (.int (1 : Int32)), .val (.int (2 : Int32)), .val (.int ((0 : Int32) + (1 : Int32))), .val (.int x)]) rfl kont) ?_
  rw [show ((0 : Int32) + (1 : Int32)) = (1 : Int32) from by decide]
  refine own_go (S' := (T3.setTop (mkF m 12 #[.val (.ref va), .val (.int (1 : Int32)), .val (.ref ba), .val (.int (1 : Int32)), .val (.int (2 : Int32)), .val (.int (1 : Int32)), .val (.int x)] [(.int (1 : Int32)), (.ref va)]))) (fun _ kont => XS.goto X3.here hx rfl (pc0 := 41) (pc' := 3) rfl (hb hby d9_41) (by decide) (by decide) (XS.iload X3.here hx rfl (hb hby d9_3) rfl (XS.iload X3.here hx rfl (hb hby d9_5) rfl (XS.icmpNo X3.here hx rfl (hb hby d9_7) rfl (tlt (by decide)).2.1 (XS.aloadN X3.here hx rfl (hb hby d9_10) rfl rfl (XS.iloadN X3.here hx rfl (hb hby d9_11) rfl kont)))))) ?_
  obtain ⟨cl4, Ar4, -, S4, -, H4, -⟩ := id c3_Vva
  have hin4 := inb_of (j := (1 : Int32)) S4 ⟨by decide, by decide⟩
  have hat4 := Has.at (v := (.int y)) H4 hin4 (by first | rfl | decide)
  refine own_go (S' := (T3.setTop (mkF m 13 #[.val (.ref va), .val (.int (1 : Int32)), .val (.ref ba), .val (.int (1 : Int32)), .val (.int (2 : Int32)), .val (.int (1 : Int32)), .val (.int x)] [(.int y)]))) (fun _ kont => X3.caload hx (j := (1 : Int32)) (v := (.int y)) (by rw [e3]; exact Ar4.1) (State.isArrayOf_alike hZ.alike Ar4.2.1) Ar4.2.2 hin4 hat4 (g := (mkF m 12 #[.val (.ref va), .val (.int (1 : Int32)), .val (.ref ba), .val (.int (1 : Int32)), .val (.int (2 : Int32)), .val (.int (1 : Int32)), .val (.int x)] [(.int (1 : Int32)), (.ref va)])) rfl rfl (hb hby d9_12) _ kont) ?_
  refine own_go (S' := (T3.setTop (mkF m 31 #[.val (.ref va), .val (.int (1 : Int32)), .val (.ref ba), .val (.int (1 : Int32)), .val (.int (2 : Int32)), .val (.int (1 : Int32)), .val (.int y)] [(.int (y.toInt8.toInt32)), (.int (1 : Int32)), (.ref ba)]))) (fun _ kont => XS.istore X3.here hx rfl (hb hby d9_13) rfl (l' := #[.val (.ref va), .val (.int (1 : Int32)), .val (.ref ba), .val (.int (1 : Int32)), .val (.int (2 : Int32)), .val (.int (1 : Int32)), .val (.int y)]) rfl (XS.iload X3.here hx rfl (hb hby d9_15) rfl (XS.sipush X3.here hx rfl (hb hby d9_17) (XS.icmpYes X3.here hx rfl (pc0 := 20) (pc' := 26) rfl (hb hby d9_20) rfl (flt hqy).2.2.2 (by decide) (by decide) (XS.aloadN X3.here hx rfl (hb hby d9_26) rfl rfl (XS.iloadN X3.here hx rfl (hb hby d9_27) rfl (XS.iload X3.here hx rfl (hb hby d9_28) rfl (XS.i2b X3.here hx rfl (hb hby d9_30) rfl kont)))))))) ?_
  obtain ⟨cl5, Ar5, qc5, S5, M5, Ha5, Ga5⟩ := id V3
  obtain ⟨T5, h5, X5, e5, W5, st5⟩ := stB X3 hx hZ e3 Ar5 (j := (1 : Int32)) (inb_of S5 ⟨by decide, by decide⟩) (g := (mkF m 31 #[.val (.ref va), .val (.int (1 : Int32)), .val (.ref ba), .val (.int (1 : Int32)), .val (.int (2 : Int32)), .val (.int (1 : Int32)), .val (.int y)] [(.int (y.toInt8.toInt32)), (.int (1 : Int32)), (.ref ba)])) rfl rfl (hb hby d9_31)
  have c5_Vva := c3_Vva.other W5 nab
  have V5 : Arv Z h5 ba kB .byte (2 : Int32) [(.int (nar .byte (x.toInt8.toInt32))), (.int (nar .byte (y.toInt8.toInt32)))] (.int (0 : Int32)) := Arv.set Ar5 qc5 S5 M5 Ha5 Ga5 (fits_nar_byte _) W5 1 (by decide) (Nat.le_of_ble_eq_true rfl)
  have K5 := K3.wr W5 (Or.inl (List.mem_of_getElem? (i := 0) rfl))
  have N5 := Fr.snoc X5 N3 g_ba
  have Z5 : n0 ≤ h5.size := Nat.le_trans Z3 (Nat.le_of_eq W5.size.symm)
  refine own_go (S' := (T5.setTop (mkF m 32 #[.val (.ref va), .val (.int (1 : Int32)), .val (.ref ba), .val (.int (1 : Int32)), .val (.int (2 : Int32)), .val (.int (1 : Int32)), .val (.int y)] []))) st5 ?_
  refine own_go (S' := (T5.setTop (mkF m 35 #[.val (.ref va), .val (.int ((1 : Int32) + (1 : Int32))), .val (.ref ba), .val (.int (1 : Int32)), .val (.int (2 : Int32)), .val (.int (1 : Int32)), .val (.int y)] []))) (fun _ kont => XS.iinc X5.here hx rfl (hb hby d9_32) rfl (l' := #[.val (.ref va), .val (.int ((1 : Int32) + (1 : Int32))), .val (.ref ba), .val (.int (1 : Int32)), .val (.int (2 : Int32)), .val (.int (1 : Int32)), .val (.int y)]) rfl kont) ?_
  rw [show ((1 : Int32) + (1 : Int32)) = (2 : Int32) from by decide]
  refine own_go (S' := (T5.setTop (mkF m 38 #[.val (.ref va), .val (.int (2 : Int32)), .val (.ref ba), .val (.int ((1 : Int32) + (1 : Int32))), .val (.int (2 : Int32)), .val (.int (1 : Int32)), .val (.int y)] []))) (fun _ kont => XS.iinc X5.here hx rfl (hb hby d9_35) rfl (l' := #[.val (.ref va), .val (.int (2 : Int32)), .val (.ref ba), .val (.int ((1 : Int32) + (1 : Int32))), .val (.int (2 : Int32)), .val (.int (1 : Int32)), .val (.int y)]) rfl kont) ?_
  rw [show ((1 : Int32) + (1 : Int32)) = (2 : Int32) from by decide]
  refine own_go (S' := (T5.setTop (mkF m 41 #[.val (.ref va), .val (.int (2 : Int32)), .val (.ref ba), .val (.int (2 : Int32)), .val (.int (2 : Int32)), .val (.int ((1 : Int32) + (1 : Int32))), .val (.int y)] []))) (fun _ kont => XS.iinc X5.here hx rfl (hb hby d9_38) rfl (l' := #[.val (.ref va), .val (.int (2 : Int32)), .val (.ref ba), .val (.int (2 : Int32)), .val (.int (2 : Int32)), .val (.int ((1 : Int32) + (1 : Int32))), .val (.int y)]) rfl kont) ?_
  rw [show ((1 : Int32) + (1 : Int32)) = (2 : Int32) from by decide]
  refine own_go (S' := (T5.setTop (mkF m 46 #[.val (.ref va), .val (.int (2 : Int32)), .val (.ref ba), .val (.int (2 : Int32)), .val (.int (2 : Int32)), .val (.int (2 : Int32)), .val (.int y)] [(.int (2 : Int32))]))) (fun _ kont => XS.goto X5.here hx rfl (pc0 := 41) (pc' := 3) rfl (hb hby d9_41) (by decide) (by decide) (XS.iload X5.here hx rfl (hb hby d9_3) rfl (XS.iload X5.here hx rfl (hb hby d9_5) rfl (XS.icmpYes X5.here hx rfl (pc0 := 7) (pc' := 44) rfl (hb hby d9_7) rfl (flt (by decide)).2.1 (by decide) (by decide) (XS.iload X5.here hx rfl (hb hby d9_44) rfl kont))))) ?_
  refine own_retI X5 hx hlk Bd.returns (hb hby d9_46) (by decide) (by decide) ?_
  rw [e5]
  exact ⟨rfl, N5, K5, _, V5⟩
theorem d8_0 : decode jdk_52_method_16_code 0 = .ok (.iload_n 2, 1) := by decide +kernel
theorem d8_1 : decode jdk_52_method_16_code 1 = .ok (.newarray .byte, 2) := by decide +kernel
theorem d8_3 : decode jdk_52_method_16_code 3 = .ok (.astore_n 3, 1) := by decide +kernel
theorem d8_4 : decode jdk_52_method_16_code 4 = .ok (.aload_n 0, 1) := by decide +kernel
theorem d8_5 : decode jdk_52_method_16_code 5 = .ok (.iload_n 1, 1) := by decide +kernel
theorem d8_6 : decode jdk_52_method_16_code 6 = .ok (.aload_n 3, 1) := by decide +kernel
theorem d8_7 : decode jdk_52_method_16_code 7 = .ok (.iconst 0, 1) := by decide +kernel
theorem d8_8 : decode jdk_52_method_16_code 8 = .ok (.iload_n 2, 1) := by decide +kernel
theorem d8_9 : decode jdk_52_method_16_code 9 = .ok (.invokestatic 115, 3) := by decide +kernel
theorem pd_41 : parseMethodDescriptor "([CI[BII)I" = some ⟨[(.array .char), .int, (.array .byte), .int, .int], some .int⟩ := by decide +kernel
theorem d8_12 : decode jdk_52_method_16_code 12 = .ok (.istore 4, 2) := by decide +kernel
theorem d8_14 : decode jdk_52_method_16_code 14 = .ok (.iload 4, 2) := by decide +kernel
theorem d8_16 : decode jdk_52_method_16_code 16 = .ok (.iload_n 2, 1) := by decide +kernel
theorem d8_17 : decode jdk_52_method_16_code 17 = .ok (.if_icmp .eq 40, 3) := by decide +kernel
theorem d8_57 : decode jdk_52_method_16_code 57 = .ok (.aload_n 3, 1) := by decide +kernel
theorem d8_58 : decode jdk_52_method_16_code 58 = .ok (.areturn, 1) := by decide +kernel
theorem ef_rm8 (m : MethodId) (x0 : Addr) (x1 : Int32) (x2 : Int32) : entryFrame m #[(.ref x0), (.int x1), (.int x2)] 6 = mkF m 0 #[.val (.ref x0), .val (.int x1), .val (.int x2), .unset, .unset, .unset] [] := by first | (simp [entryFrame, mkF, argsToLocals, Value.category]; done) | rfl
def Q_rm8 (Z : State) (va : Addr) (kA : ClassId) (x y : Int32) (h0 : Heap) (n0 : Nat) (v : Option Value) (h : Heap) (L : List Loc) : Prop := ∃ (ba : Addr) (kB : ClassId) (vs : List Value), v = some (.ref ba) ∧ h0.size ≤ ba ∧ Fr n0 L ∧ Keep h0 h [] ∧ Arv Z h ba kB .byte (2 : Int32) vs (.int (0 : Int32))
set_option maxRecDepth 65536 in
set_option maxHeartbeats 40000000 in
theorem rm8 (l : Launch) (Z : State) (a0 : Array Value) (hw : ∀ d ∈ tables_1, d.before a0 Z = true) (ws : List Jvm.Cond) (va : Addr) (kA : ClassId) (x y : Int32) (h0 : Heap) (n0 : Nat) (Z0 : n0 ≤ h0.size) (VA : Arv Z h0 va kA .char (2 : Int32) [(.int x), (.int y)] (.int (0 : Int32))) (hqx : ¬ (255 : Int32) < x) (hqy : ¬ (255 : Int32) < y) :
    MetFree l (⟨"java/lang/StringUTF16", "compress", "([CII)[B"⟩ : MethodName) (head1 (Jvm.Cond.code (⟨"java/lang/StringUTF16", "compress", "([CII)[B"⟩ : MethodName) jdk_52_method_16_code 6 (some (.array .byte)) :: ws) ({ frames := 1, cells := 1, slots := 2, locals := 18 } : Room)) (fun a U => a = #[(.ref va), (.int (0 : Int32)), (.int (2 : Int32))] ∧ Z.Warmed39 U.vm ∧ U.heap = h0) (fun _ _ _ _ _ => True) (fun _ U o U' => ∃ v L, o = .returned v ∧ Q_rm8 Z va kA x y h0 n0 v U'.heap L ∧ FrameEnd U o U' L ({ frames := 1, cells := 1, slots := 2, locals := 18 } : Room).cells ({ frames := 1, cells := 1, slots := 2, locals := 18 } : Room).slots) := by
  refine MetFree.of_bodySF (plainFor_of_name pn_8) hisR ?_
  intro p e s m args below meth c s₁ Bd hml0 hP hK
  obtain ⟨rfl, hZ, hh⟩ := hP
  have hx := Bd.exec
  have hby := Bd.bytes
  have hlk := Bd.notSynchronized
  have hml : c.maxLocals = 6 := hml0
  have hown : s.vm.findClass "java/lang/StringUTF16" = some m.cls := findClass_of_methodNamed Bd.named
  have hnm := (name_of_methodNamed Bd.named Bd.method).1
  have X0 : Stand p l e ({ frames := 1, cells := 1, slots := 2, locals := 18 } : Room) s m #[(.ref va), (.int (0 : Int32)), (.int (2 : Int32))] below meth c s₁ [] 0 0 := Stand.of_body Bd
  have e0 : s₁.heap = h0 := by rw [← hh, Bd.state]; rfl
  have N0 := Fr.nil n0
  change own_Go p e below s (Q_rm8 Z va kA x y h0 n0) ({ frames := 1, cells := 1, slots := 2, locals := 18 } : Room).cells ({ frames := 1, cells := 1, slots := 2, locals := 18 } : Room).slots _
  refine own_go (S' := (s₁.setTop (mkF m 0 #[.val (.ref va), .val (.int (0 : Int32)), .val (.int (2 : Int32)), .unset, .unset, .unset] []))) (fun _ kont => castTop (ef_rm8 m va (0 : Int32) (2 : Int32)) kont) ?_
  have K0 := Keep.refl h0 []
  refine own_go (S' := (s₁.setTop (mkF m 1 #[.val (.ref va), .val (.int (0 : Int32)), .val (.int (2 : Int32)), .unset, .unset, .unset] [(.int (2 : Int32))]))) (fun _ kont => XS.iloadN X0.here hx rfl (hb hby d8_0) rfl kont) ?_
  obtain ⟨T1, h1, k1, X1, e1, E1, A1, st1⟩ := newP X0 hx hZ (hw _ (List.mem_of_getElem? (i := 15) rfl)) e0 (g := (mkF m 1 #[.val (.ref va), .val (.int (0 : Int32)), .val (.int (2 : Int32)), .unset, .unset, .unset] [(.int (2 : Int32))])) rfl (hb hby d8_1) rfl (by decide) (cap := 2) (by decide) (by decide) (by decide) (by decide)
  obtain ⟨b1, gz1⟩ : ∃ z, z = h0.size := ⟨_, rfl⟩
  rw [← gz1] at A1 st1
  have sz_b1 : h0.size ≤ b1 := Nat.le_trans K0.1 (Nat.le_of_eq gz1.symm)
  have ne_va_b1 : va ≠ b1 := Nat.ne_of_lt (by rw [gz1]; exact VA.lt)
  have c1_Vva := VA.ext E1
  have K1 := K0.ext E1
  have g_b1 : n0 ≤ b1 := Nat.le_trans Z0 (Nat.le_of_eq gz1.symm)
  have V1 := Arv.new A1 (by decide)
  have Z1 : n0 ≤ h1.size := Nat.le_trans Z0 E1.1
  refine own_go (S' := (T1.setTop (mkF m 3 #[.val (.ref va), .val (.int (0 : Int32)), .val (.int (2 : Int32)), .unset, .unset, .unset] [(.ref b1)]))) st1 ?_
  refine own_go (S' := (T1.setTop (mkF m 9 #[.val (.ref va), .val (.int (0 : Int32)), .val (.int (2 : Int32)), .val (.ref b1), .unset, .unset] [(.int (2 : Int32)), (.int (0 : Int32)), (.ref b1), (.int (0 : Int32)), (.ref va)]))) (fun _ kont => XS.astoreN X1.here hx rfl (hb hby d8_3) rfl rfl (l' := #[.val (.ref va), .val (.int (0 : Int32)), .val (.int (2 : Int32)), .val (.ref b1), .unset, .unset]) rfl (XS.aloadN X1.here hx rfl (hb hby d8_4) rfl rfl (XS.iloadN X1.here hx rfl (hb hby d8_5) rfl (XS.aloadN X1.here hx rfl (hb hby d8_6) rfl rfl (XS.iconst X1.here hx rfl (hb hby d8_7) (XS.iloadN X1.here hx rfl (hb hby d8_8) rfl kont)))))) ?_
  obtain ⟨v2, _, ⟨T2, L2, k2, n2⟩, -, X2, ⟨Lc2, hQ2, l2, y2, z2⟩, st2⟩ := Jvm.LawKit.callS X1 hx (y := (⟨"java/lang/StringUTF16", "compress", "([CI[BII)I"⟩ : MethodName)) hown (mvT hZ (hw _ (List.mem_of_getElem? (i := 58) rfl))) (mvT hZ (hw _ (List.mem_of_getElem? (i := 59) rfl))) (mvT hZ (hw _ (List.mem_of_getElem? (i := 56) rfl))) (mvT hZ (hw _ (List.mem_of_getElem? (i := 60) rfl))) (by decide) (backOf (W := 0) (rm9 l Z a0 hw [] va b1 kA k1 x y h1 n0 Z1 c1_Vva V1 ne_va_b1 g_b1 hqx hqy) hZ (hw _ (List.mem_of_getElem? (i := 60) rfl)) (hw _ (List.mem_of_getElem? (i := 56) rfl)) (by decide) (by decide)) (g := (mkF m 9 #[.val (.ref va), .val (.int (0 : Int32)), .val (.int (2 : Int32)), .val (.ref b1), .unset, .unset] [(.int (2 : Int32)), (.int (0 : Int32)), (.ref b1), (.int (0 : Int32)), (.ref va)])) rfl (by rw [hml]; rfl) (argsL := [(.ref va), (.int (0 : Int32)), (.ref b1), (.int (0 : Int32)), (.int (2 : Int32))]) (rest := []) (lenOf pd_41 rfl) rfl (by show 2 * 0 + _ ≤ _; exact Nat.le_of_eq rfl) (hb hby d8_9) (fun _ _ => ⟨rfl, e1, (by decide : 1 + 0 ≤ _), (by decide : 2 + 0 ≤ _)⟩)
  dsimp only [Pt.U, Pt.locs, Pt.cells, Pt.slots] at X2 l2 y2 z2 st2 hQ2
  subst l2 y2 z2
  obtain ⟨rfl, Nq2, Kc2, vs2, Vb2⟩ := hQ2
  have Kt := K1.trans Kc2 (fun x hx => by cases List.mem_singleton.mp hx; exact Or.inr sz_b1)
  have N2 := Fr.app N0 Nq2
  have Z2 : n0 ≤ T2.heap.size := Nat.le_trans Z1 Kc2.1
  have c2_Vva := c1_Vva.keep Kc2 (ninS ne_va_b1 nin0)
  refine own_go (S' := (T2.setTop (mkF m 12 #[.val (.ref va), .val (.int (0 : Int32)), .val (.int (2 : Int32)), .val (.ref b1), .unset, .unset] [(.int (2 : Int32))]))) st2 ?_
  refine own_go (S' := (T2.setTop (mkF m 58 #[.val (.ref va), .val (.int (0 : Int32)), .val (.int (2 : Int32)), .val (.ref b1), .val (.int (2 : Int32)), .unset] [(.ref b1)]))) (fun _ kont => XS.istore X2.here hx rfl (hb hby d8_12) rfl (l' := #[.val (.ref va), .val (.int (0 : Int32)), .val (.int (2 : Int32)), .val (.ref b1), .val (.int (2 : Int32)), .unset]) rfl (XS.iload X2.here hx rfl (hb hby d8_14) rfl (XS.iloadN X2.here hx rfl (hb hby d8_16) rfl (XS.icmpYes X2.here hx rfl (pc0 := 17) (pc' := 57) rfl (hb hby d8_17) rfl (teq (by decide)).1 (by decide) (by decide) (XS.aloadN X2.here hx rfl (hb hby d8_57) rfl rfl kont))))) ?_
  refine own_retA X2 hx hlk (rfl) rfl Bd.returns (hb hby d8_58) (by decide) (by decide) ?_
  exact ⟨_, _, _, rfl, sz_b1, N2, Kt, Vb2⟩
theorem d2_0 : decode jdk_42_method_149_code 0 = .ok (.aload_n 0, 1) := by decide +kernel
theorem d2_1 : decode jdk_42_method_149_code 1 = .ok (.invokespecial 1, 3) := by decide +kernel
theorem d2_4 : decode jdk_42_method_149_code 4 = .ok (.iload_n 3, 1) := by decide +kernel
theorem d2_5 : decode jdk_42_method_149_code 5 = .ok (.ifCond .ne 22, 3) := by decide +kernel
theorem d2_27 : decode jdk_42_method_149_code 27 = .ok (.getstatic 38, 3) := by decide +kernel
theorem d2_30 : decode jdk_42_method_149_code 30 = .ok (.ifCond .eq 28, 3) := by decide +kernel
theorem d2_33 : decode jdk_42_method_149_code 33 = .ok (.aload_n 1, 1) := by decide +kernel
theorem d2_34 : decode jdk_42_method_149_code 34 = .ok (.iload_n 2, 1) := by decide +kernel
theorem d2_35 : decode jdk_42_method_149_code 35 = .ok (.iload_n 3, 1) := by decide +kernel
theorem d2_36 : decode jdk_42_method_149_code 36 = .ok (.invokestatic 177, 3) := by decide +kernel
theorem pd_58 : parseMethodDescriptor "([CII)[B" = some ⟨[(.array .char), .int, .int], some (.array .byte)⟩ := by decide +kernel
theorem d2_39 : decode jdk_42_method_149_code 39 = .ok (.astore 5, 2) := by decide +kernel
theorem d2_41 : decode jdk_42_method_149_code 41 = .ok (.aload_n 0, 1) := by decide +kernel
theorem d2_42 : decode jdk_42_method_149_code 42 = .ok (.aload 5, 2) := by decide +kernel
theorem d2_44 : decode jdk_42_method_149_code 44 = .ok (.iload_n 3, 1) := by decide +kernel
theorem d2_45 : decode jdk_42_method_149_code 45 = .ok (.invokestatic 47, 3) := by decide +kernel
theorem pd_64 : parseMethodDescriptor "([BI)B" = some ⟨[(.array .byte), .int], some .byte⟩ := by decide +kernel
theorem d2_48 : decode jdk_42_method_149_code 48 = .ok (.putfield 15, 3) := by decide +kernel
theorem d2_51 : decode jdk_42_method_149_code 51 = .ok (.aload_n 0, 1) := by decide +kernel
theorem d2_52 : decode jdk_42_method_149_code 52 = .ok (.aload 5, 2) := by decide +kernel
theorem d2_54 : decode jdk_42_method_149_code 54 = .ok (.putfield 9, 3) := by decide +kernel
theorem d2_57 : decode jdk_42_method_149_code 57 = .ok (.return_, 1) := by decide +kernel
theorem pn_70 : plainName "java/lang/String" = true := by first | (simp [plainName, overriddenIn]; done) | decide +kernel
theorem ef_rmSb (m : MethodId) (x0 : Addr) (x1 : Addr) (x2 : Int32) (x3 : Int32) : entryFrame m #[(.ref x0), (.ref x1), (.int x2), (.int x3), .null] 6 = mkF m 0 #[.val (.ref x0), .val (.ref x1), .val (.int x2), .val (.int x3), .val .null, .unset] [] := by first | (simp [entryFrame, mkF, argsToLocals, Value.category]; done) | rfl
def Q_rmSb (Z : State) (o0 : Addr) (zc : Int32) (va : Addr) (kA : ClassId) (x y : Int32) (h0 : Heap) (n0 : Nat) (v : Option Value) (h : Heap) (L : List Loc) : Prop := v = none ∧ Fr n0 L ∧ h0.size ≤ h.size
set_option maxRecDepth 65536 in
set_option maxHeartbeats 40000000 in
theorem rmSb (l : Launch) (Z : State) (a0 : Array Value) (hw : ∀ d ∈ tables_1, d.before a0 Z = true) (ws : List Jvm.Cond) (o0 : Addr) (zc : Int32) (va : Addr) (kA : ClassId) (x y : Int32) (h0 : Heap) (n0 : Nat) (Z0 : n0 ≤ h0.size) (E_o0 : Exa Z h0 o0 "java/lang/String") (F_o0_value : Fld Z h0 o0 "java/lang/String" "value" "[B" .null) (F_o0_coder : Fld Z h0 o0 "java/lang/String" "coder" "B" (.int (0 : Int32))) (g_o0 : n0 ≤ o0) (VA : Arv Z h0 va kA .char (2 : Int32) [(.int x), (.int y)] (.int (0 : Int32))) (hqx : ¬ (255 : Int32) < x) (hqy : ¬ (255 : Int32) < y) (S_C : Sta Z h0 "java/lang/String" "COMPACT_STRINGS" "Z" (.int zc)) (hzc : ¬ zc = (0 : Int32)) :
    MetFree l (⟨"java/lang/String", "<init>", "([CIILjava/lang/Void;)V"⟩ : MethodName) (head1 (Jvm.Cond.code (⟨"java/lang/String", "<init>", "([CIILjava/lang/Void;)V"⟩ : MethodName) jdk_42_method_149_code 6 none :: ws) ({ frames := 2, cells := 1, slots := 2, locals := 35 } : Room)) (fun a U => a = #[(.ref o0), (.ref va), (.int (0 : Int32)), (.int (2 : Int32)), .null] ∧ Z.Warmed39 U.vm ∧ U.heap = h0) (fun _ _ _ _ _ => True) (fun _ U o U' => ∃ v L, o = .returned v ∧ Q_rmSb Z o0 zc va kA x y h0 n0 v U'.heap L ∧ FrameEnd U o U' L ({ frames := 2, cells := 1, slots := 2, locals := 35 } : Room).cells ({ frames := 2, cells := 1, slots := 2, locals := 35 } : Room).slots) := by
  refine MetFree.of_bodySF (plainFor_of_name pn_70) hisR ?_
  intro p e s m args below meth c s₁ Bd hml0 hP hK
  obtain ⟨rfl, hZ, hh⟩ := hP
  have hx := Bd.exec
  have hby := Bd.bytes
  have hlk := Bd.notSynchronized
  have hml : c.maxLocals = 6 := hml0
  have hown : s.vm.findClass "java/lang/String" = some m.cls := findClass_of_methodNamed Bd.named
  have hnm := (name_of_methodNamed Bd.named Bd.method).1
  have X0 : Stand p l e ({ frames := 2, cells := 1, slots := 2, locals := 35 } : Room) s m #[(.ref o0), (.ref va), (.int (0 : Int32)), (.int (2 : Int32)), .null] below meth c s₁ [] 0 0 := Stand.of_body Bd
  have e0 : s₁.heap = h0 := by rw [← hh, Bd.state]; rfl
  have N0 := Fr.nil n0
  change own_Go p e below s (Q_rmSb Z o0 zc va kA x y h0 n0) ({ frames := 2, cells := 1, slots := 2, locals := 35 } : Room).cells ({ frames := 2, cells := 1, slots := 2, locals := 35 } : Room).slots _
  refine own_go (S' := (s₁.setTop (mkF m 0 #[.val (.ref o0), .val (.ref va), .val (.int (0 : Int32)), .val (.int (2 : Int32)), .val .null, .unset] []))) (fun _ kont => castTop (ef_rmSb m o0 va (0 : Int32) (2 : Int32)) kont) ?_
  have Y0 := Nat.le_refl h0.size
  refine own_go (S' := (s₁.setTop (mkF m 1 #[.val (.ref o0), .val (.ref va), .val (.int (0 : Int32)), .val (.int (2 : Int32)), .val .null, .unset] [(.ref o0)]))) (fun _ kont => XS.aloadN X0.here hx rfl (hb hby d2_0) rfl rfl kont) ?_
  obtain ⟨T1, X1, e1, st1⟩ := initO X0 hx hZ hown (hw _ (List.mem_of_getElem? (i := 11) rfl)) (hw _ (List.mem_of_getElem? (i := 12) rfl)) (hw _ (List.mem_of_getElem? (i := 13) rfl)) e0 (g := (mkF m 1 #[.val (.ref o0), .val (.ref va), .val (.int (0 : Int32)), .val (.int (2 : Int32)), .val .null, .unset] [(.ref o0)])) rfl (by rw [hml]; rfl) rfl (hb hby d2_1) (by decide) (W := 0) (by show 2 * 0 + _ ≤ _; exact Nat.le_of_eq rfl) (by decide)
  refine own_go (S' := (T1.setTop (mkF m 4 #[.val (.ref o0), .val (.ref va), .val (.int (0 : Int32)), .val (.int (2 : Int32)), .val .null, .unset] []))) st1 ?_
  refine own_go (S' := (T1.setTop (mkF m 27 #[.val (.ref o0), .val (.ref va), .val (.int (0 : Int32)), .val (.int (2 : Int32)), .val .null, .unset] []))) (fun _ kont => XS.iloadN X1.here hx rfl (hb hby d2_4) rfl (XS.ifYes X1.here hx rfl (pc0 := 5) (pc' := 27) rfl (hb hby d2_5) rfl ((if0 _ _).trans (feq (by decide)).2) (by decide) (by decide) kont)) ?_
  obtain ⟨T2, X2, e2, st2⟩ := getS2 X1 hx hZ hown (host := "") (Or.inl (hw _ (List.mem_of_getElem? (i := 53) rfl))) Via.refl e1 S_C (g := (mkF m 27 #[.val (.ref o0), .val (.ref va), .val (.int (0 : Int32)), .val (.int (2 : Int32)), .val .null, .unset] [])) rfl (hb hby d2_27)
  refine own_go (S' := (T2.setTop (mkF m 30 #[.val (.ref o0), .val (.ref va), .val (.int (0 : Int32)), .val (.int (2 : Int32)), .val .null, .unset] [(.int zc)]))) st2 ?_
  refine own_go (S' := (T2.setTop (mkF m 36 #[.val (.ref o0), .val (.ref va), .val (.int (0 : Int32)), .val (.int (2 : Int32)), .val .null, .unset] [(.int (2 : Int32)), (.int (0 : Int32)), (.ref va)]))) (fun _ kont => XS.ifNo X2.here hx rfl (hb hby d2_30) rfl ((if0 _ _).trans (feq hzc).1) (XS.aloadN X2.here hx rfl (hb hby d2_33) rfl rfl (XS.iloadN X2.here hx rfl (hb hby d2_34) rfl (XS.iloadN X2.here hx rfl (hb hby d2_35) rfl kont)))) ?_
  obtain ⟨v3, _, ⟨T3, L3, k3, n3⟩, -, X3, ⟨Lc3, hQ3, l3, y3, z3⟩, st3⟩ := Jvm.LawKit.callS X2 hx (y := (⟨"java/lang/StringUTF16", "compress", "([CII)[B"⟩ : MethodName)) hown (mvT hZ (hw _ (List.mem_of_getElem? (i := 54) rfl))) (mvT hZ (hw _ (List.mem_of_getElem? (i := 55) rfl))) (mvT hZ (hw _ (List.mem_of_getElem? (i := 56) rfl))) (mvT hZ (hw _ (List.mem_of_getElem? (i := 57) rfl))) (by decide) (backOf (W := 0) (rm8 l Z a0 hw [] va kA x y h0 n0 Z0 VA hqx hqy) hZ (hw _ (List.mem_of_getElem? (i := 57) rfl)) (hw _ (List.mem_of_getElem? (i := 56) rfl)) (by decide) (by decide)) (g := (mkF m 36 #[.val (.ref o0), .val (.ref va), .val (.int (0 : Int32)), .val (.int (2 : Int32)), .val .null, .unset] [(.int (2 : Int32)), (.int (0 : Int32)), (.ref va)])) rfl (by rw [hml]; rfl) (argsL := [(.ref va), (.int (0 : Int32)), (.int (2 : Int32))]) (rest := []) (lenOf pd_58 rfl) rfl (by show 2 * 0 + _ ≤ _; exact Nat.le_of_eq rfl) (hb hby d2_36) (fun _ _ => ⟨rfl, e2, (by decide : 0 + 1 ≤ _), (by decide : 0 + 2 ≤ _)⟩)
  dsimp only [Pt.U, Pt.locs, Pt.cells, Pt.slots] at X3 l3 y3 z3 st3 hQ3
  subst l3 y3 z3
  obtain ⟨ba3, kB3, vs3, rfl, hb3, Nq3, Kc3, Vb3⟩ := hQ3
  have N3 := Fr.app N0 Nq3
  have Z3 : n0 ≤ T3.heap.size := Nat.le_trans Z0 Kc3.1
  have Y3 : h0.size ≤ T3.heap.size := Nat.le_trans Y0 Kc3.1
  have c3_Eo0 := E_o0.keep Kc3
  have c3_Fo0_value := F_o0_value.keep Kc3 nin0
  have c3_Fo0_coder := F_o0_coder.keep Kc3 nin0
  have c3_Vva := VA.keep Kc3 nin0
  refine own_go (S' := (T3.setTop (mkF m 39 #[.val (.ref o0), .val (.ref va), .val (.int (0 : Int32)), .val (.int (2 : Int32)), .val .null, .unset] [(.ref ba3)]))) st3 ?_
  have nob : o0 ≠ ba3 := Nat.ne_of_lt (Nat.lt_of_lt_of_le E_o0.lt hb3)
  refine own_go (S' := (T3.setTop (mkF m 45 #[.val (.ref o0), .val (.ref va), .val (.int (0 : Int32)), .val (.int (2 : Int32)), .val .null, .val (.ref ba3)] [(.int (2 : Int32)), (.ref ba3), (.ref o0)]))) (fun _ kont => XS.astore X3.here hx rfl (hb hby d2_39) rfl rfl (l' := #[.val (.ref o0), .val (.ref va), .val (.int (0 : Int32)), .val (.int (2 : Int32)), .val .null, .val (.ref ba3)]) rfl (XS.aloadN X3.here hx rfl (hb hby d2_41) rfl rfl (XS.aload X3.here hx rfl (hb hby d2_42) rfl rfl (XS.iloadN X3.here hx rfl (hb hby d2_44) rfl kont)))) ?_
  obtain ⟨v4, _, ⟨T4, L4, k4, n4⟩, -, X4, ⟨Lc4, hQ4, l4, y4, z4⟩, st4⟩ := Jvm.LawKit.callS X3 hx (y := (⟨"java/lang/StringUTF16", "coderFromArrayLen", "([BI)B"⟩ : MethodName)) hown (mvT hZ (hw _ (List.mem_of_getElem? (i := 61) rfl))) (mvT hZ (hw _ (List.mem_of_getElem? (i := 62) rfl))) (mvT hZ (hw _ (List.mem_of_getElem? (i := 56) rfl))) (mvT hZ (hw _ (List.mem_of_getElem? (i := 63) rfl))) (by decide) (backOf (W := 1) (rm10 l Z a0 hw [] ba3 kB3 _ T3.heap n0 Z3 Vb3) hZ (hw _ (List.mem_of_getElem? (i := 63) rfl)) (hw _ (List.mem_of_getElem? (i := 56) rfl)) (by decide) (by decide)) (g := (mkF m 45 #[.val (.ref o0), .val (.ref va), .val (.int (0 : Int32)), .val (.int (2 : Int32)), .val .null, .val (.ref ba3)] [(.int (2 : Int32)), (.ref ba3), (.ref o0)])) rfl (by rw [hml]; rfl) (argsL := [(.ref ba3), (.int (2 : Int32))]) (rest := [(.ref o0)]) (lenOf pd_64 rfl) rfl (by show 2 * 0 + _ ≤ _; exact Nat.le_of_eq rfl) (hb hby d2_45) (fun _ _ => ⟨rfl, rfl, (by decide : 1 + 0 ≤ _), (by decide : 2 + 0 ≤ _)⟩)
  dsimp only [Pt.U, Pt.locs, Pt.cells, Pt.slots] at X4 l4 y4 z4 st4 hQ4
  subst l4 y4 z4
  obtain ⟨rfl, eh4, rfl⟩ := hQ4
  have N4 := Fr.app N3 (Fr.nil n0)
  refine own_go (S' := (T4.setTop (mkF m 48 #[.val (.ref o0), .val (.ref va), .val (.int (0 : Int32)), .val (.int (2 : Int32)), .val .null, .val (.ref ba3)] [(.int (0 : Int32)), (.ref o0)]))) st4 ?_
  obtain ⟨T5, h5, X5, e5, W5, st5⟩ := putFN X4 hx hZ hown (hw _ (List.mem_of_getElem? (i := 21) rfl)) Via.refl eh4 c3_Fo0_coder c3_Eo0 (Or.inr ⟨(hw _ (List.mem_of_getElem? (i := 17) rfl)), rfl, hnm⟩) (hw _ (List.mem_of_getElem? (i := 2) rfl)) (ty := .byte) (v' := (.int (0 : Int32))) (by decide) rfl (by first | exact fits_nar_byte _ | rfl | decide) (g := (mkF m 48 #[.val (.ref o0), .val (.ref va), .val (.int (0 : Int32)), .val (.int (2 : Int32)), .val .null, .val (.ref ba3)] [(.int (0 : Int32)), (.ref o0)])) rfl rfl (hb hby d2_48)
  have c5_Eo0 := c3_Eo0.wr W5
  have c5_Fo0_value := c3_Fo0_value.other W5 (Or.inr (slot_ne (Or.inr (hw _ (List.mem_of_getElem? (i := 16) rfl))) (Or.inr (hw _ (List.mem_of_getElem? (i := 17) rfl))) (by decide) (by decide : parseFieldDescriptor "[B" = some (.array .byte)) (by decide : parseFieldDescriptor "B" = some .byte)))
  have c5_Fo0_coder := c3_Fo0_coder.same W5
  have N5 := Fr.snoc X5 N4 g_o0
  have Z5 : n0 ≤ h5.size := Nat.le_trans Z3 (Nat.le_of_eq W5.size.symm)
  have Y5 : h0.size ≤ h5.size := Nat.le_trans Y3 (Nat.le_of_eq W5.size.symm)
  refine own_go (S' := (T5.setTop (mkF m 51 #[.val (.ref o0), .val (.ref va), .val (.int (0 : Int32)), .val (.int (2 : Int32)), .val .null, .val (.ref ba3)] []))) st5 ?_
  refine own_go (S' := (T5.setTop (mkF m 54 #[.val (.ref o0), .val (.ref va), .val (.int (0 : Int32)), .val (.int (2 : Int32)), .val .null, .val (.ref ba3)] [(.ref ba3), (.ref o0)]))) (fun _ kont => XS.aloadN X5.here hx rfl (hb hby d2_51) rfl rfl (XS.aload X5.here hx rfl (hb hby d2_52) rfl rfl kont)) ?_
  obtain ⟨T6, h6, X6, e6, W6, st6⟩ := putF X5 hx hZ hown (host := "") (Or.inl (hw _ (List.mem_of_getElem? (i := 20) rfl))) Via.refl e5 c5_Fo0_value c5_Eo0 (Or.inr ⟨(hw _ (List.mem_of_getElem? (i := 16) rfl)), rfl, hnm⟩) (hw _ (List.mem_of_getElem? (i := 2) rfl)) (ty := (.array .byte)) (by decide) rfl rfl (g := (mkF m 54 #[.val (.ref o0), .val (.ref va), .val (.int (0 : Int32)), .val (.int (2 : Int32)), .val .null, .val (.ref ba3)] [(.ref ba3), (.ref o0)])) rfl rfl (hb hby d2_54)
  have c6_Eo0 := c5_Eo0.wr W6
  have c6_Fo0_value := c5_Fo0_value.same W6
  have c6_Fo0_coder := c5_Fo0_coder.other W6 (Or.inr (slot_ne (Or.inr (hw _ (List.mem_of_getElem? (i := 17) rfl))) (Or.inr (hw _ (List.mem_of_getElem? (i := 16) rfl))) (by decide) (by decide : parseFieldDescriptor "B" = some .byte) (by decide : parseFieldDescriptor "[B" = some (.array .byte))))
  have N6 := Fr.snoc X6 N5 g_o0
  have Z6 : n0 ≤ h6.size := Nat.le_trans Z5 (Nat.le_of_eq W6.size.symm)
  have Y6 : h0.size ≤ h6.size := Nat.le_trans Y5 (Nat.le_of_eq W6.size.symm)
  refine own_go (S' := (T6.setTop (mkF m 57 #[.val (.ref o0), .val (.ref va), .val (.int (0 : Int32)), .val (.int (2 : Int32)), .val .null, .val (.ref ba3)] []))) st6 ?_
  refine own_ret0 X6 hx hlk Bd.returns (hb hby d2_57) (by decide) (by decide) ?_
  rw [e6]
  exact ⟨rfl, N6, Y6⟩
theorem d1_0 : decode jdk_42_method_3_code 0 = .ok (.aload_n 0, 1) := by decide +kernel
theorem d1_1 : decode jdk_42_method_3_code 1 = .ok (.aload_n 1, 1) := by decide +kernel
theorem d1_2 : decode jdk_42_method_3_code 2 = .ok (.iconst 0, 1) := by decide +kernel
theorem d1_3 : decode jdk_42_method_3_code 3 = .ok (.aload_n 1, 1) := by decide +kernel
theorem d1_4 : decode jdk_42_method_3_code 4 = .ok (.arraylength, 1) := by decide +kernel
theorem d1_5 : decode jdk_42_method_3_code 5 = .ok (.aconst_null, 1) := by decide +kernel
theorem d1_6 : decode jdk_42_method_3_code 6 = .ok (.invokespecial 27, 3) := by decide +kernel
theorem pd_78 : parseMethodDescriptor "([CIILjava/lang/Void;)V" = some ⟨[(.array .char), .int, .int, (.object "java/lang/Void")], none⟩ := by decide +kernel
theorem d1_9 : decode jdk_42_method_3_code 9 = .ok (.return_, 1) := by decide +kernel
theorem ef_rmCb (m : MethodId) (x0 : Addr) (x1 : Addr) : entryFrame m #[(.ref x0), (.ref x1)] 2 = mkF m 0 #[.val (.ref x0), .val (.ref x1)] [] := by first | (simp [entryFrame, mkF, argsToLocals, Value.category]; done) | rfl
def Q_rmCb (Z : State) (o0 : Addr) (zc : Int32) (va : Addr) (kA : ClassId) (x y : Int32) (h0 : Heap) (n0 : Nat) (v : Option Value) (h : Heap) (L : List Loc) : Prop := v = none ∧ Fr n0 L ∧ h0.size ≤ h.size
set_option maxRecDepth 65536 in
set_option maxHeartbeats 40000000 in
theorem rmCb (l : Launch) (Z : State) (a0 : Array Value) (hw : ∀ d ∈ tables_1, d.before a0 Z = true) (ws : List Jvm.Cond) (o0 : Addr) (zc : Int32) (va : Addr) (kA : ClassId) (x y : Int32) (h0 : Heap) (n0 : Nat) (Z0 : n0 ≤ h0.size) (E_o0 : Exa Z h0 o0 "java/lang/String") (F_o0_value : Fld Z h0 o0 "java/lang/String" "value" "[B" .null) (F_o0_coder : Fld Z h0 o0 "java/lang/String" "coder" "B" (.int (0 : Int32))) (g_o0 : n0 ≤ o0) (VA : Arv Z h0 va kA .char (2 : Int32) [(.int x), (.int y)] (.int (0 : Int32))) (hqx : ¬ (255 : Int32) < x) (hqy : ¬ (255 : Int32) < y) (S_C : Sta Z h0 "java/lang/String" "COMPACT_STRINGS" "Z" (.int zc)) (hzc : ¬ zc = (0 : Int32)) :
    MetFree l (⟨"java/lang/String", "<init>", "([C)V"⟩ : MethodName) (head1 (Jvm.Cond.code (⟨"java/lang/String", "<init>", "([C)V"⟩ : MethodName) jdk_42_method_3_code 2 none :: ws) ({ frames := 3, cells := 1, slots := 2, locals := 52 } : Room)) (fun a U => a = #[(.ref o0), (.ref va)] ∧ Z.Warmed39 U.vm ∧ U.heap = h0) (fun _ _ _ _ _ => True) (fun _ U o U' => ∃ v L, o = .returned v ∧ Q_rmCb Z o0 zc va kA x y h0 n0 v U'.heap L ∧ FrameEnd U o U' L ({ frames := 3, cells := 1, slots := 2, locals := 52 } : Room).cells ({ frames := 3, cells := 1, slots := 2, locals := 52 } : Room).slots) := by
  refine MetFree.of_bodySF (plainFor_of_name pn_70) hisR ?_
  intro p e s m args below meth c s₁ Bd hml0 hP hK
  obtain ⟨rfl, hZ, hh⟩ := hP
  have hx := Bd.exec
  have hby := Bd.bytes
  have hlk := Bd.notSynchronized
  have hml : c.maxLocals = 2 := hml0
  have hown : s.vm.findClass "java/lang/String" = some m.cls := findClass_of_methodNamed Bd.named
  have hnm := (name_of_methodNamed Bd.named Bd.method).1
  have X0 : Stand p l e ({ frames := 3, cells := 1, slots := 2, locals := 52 } : Room) s m #[(.ref o0), (.ref va)] below meth c s₁ [] 0 0 := Stand.of_body Bd
  have e0 : s₁.heap = h0 := by rw [← hh, Bd.state]; rfl
  have N0 := Fr.nil n0
  change own_Go p e below s (Q_rmCb Z o0 zc va kA x y h0 n0) ({ frames := 3, cells := 1, slots := 2, locals := 52 } : Room).cells ({ frames := 3, cells := 1, slots := 2, locals := 52 } : Room).slots _
  refine own_go (S' := (s₁.setTop (mkF m 0 #[.val (.ref o0), .val (.ref va)] []))) (fun _ kont => castTop (ef_rmCb m o0 va) kont) ?_
  refine own_go (S' := (s₁.setTop (mkF m 4 #[.val (.ref o0), .val (.ref va)] [(.ref va), (.int (0 : Int32)), (.ref va), (.ref o0)]))) (fun _ kont => XS.aloadN X0.here hx rfl (hb hby d1_0) rfl rfl (XS.aloadN X0.here hx rfl (hb hby d1_1) rfl rfl (XS.iconst X0.here hx rfl (hb hby d1_2) (XS.aloadN X0.here hx rfl (hb hby d1_3) rfl rfl kont)))) ?_
  obtain ⟨cl1, Ar1, -, S1, M1, -, -⟩ := id VA
  have ql1 := len_of S1 M1
  refine own_go (S' := (s₁.setTop (mkF m 5 #[.val (.ref o0), .val (.ref va)] [(.int (2 : Int32)), (.int (0 : Int32)), (.ref va), (.ref o0)]))) (fun _ kont => X0.arraylength hx (by rw [e0]; exact Ar1.1) (State.isArrayOf_alike hZ.alike Ar1.2.1) (g := (mkF m 4 #[.val (.ref o0), .val (.ref va)] [(.ref va), (.int (0 : Int32)), (.ref va), (.ref o0)])) rfl rfl (hb hby d1_4) _ (by rw [ql1]; exact kont)) ?_
  refine own_go (S' := (s₁.setTop (mkF m 6 #[.val (.ref o0), .val (.ref va)] [.null, (.int (2 : Int32)), (.int (0 : Int32)), (.ref va), (.ref o0)]))) (fun _ kont => XS.aconstNull X0.here hx rfl (hb hby d1_5) kont) ?_
  obtain ⟨v2, _, ⟨T2, L2, k2, n2⟩, -, X2, ⟨Lc2, hQ2, l2, y2, z2⟩, st2⟩ := X0.specialBack hx (y := (⟨"java/lang/String", "<init>", "([CIILjava/lang/Void;)V"⟩ : MethodName)) rfl hown (mvT hZ (hw _ (List.mem_of_getElem? (i := 7) rfl))) (mvT hZ (hw _ (List.mem_of_getElem? (i := 8) rfl))) (mvT hZ (hw _ (List.mem_of_getElem? (i := 10) rfl))) (by decide) (backOf (W := 0) (rmSb l Z a0 hw [] o0 zc va kA x y h0 n0 Z0 E_o0 F_o0_value F_o0_coder g_o0 VA hqx hqy S_C hzc) hZ (hw _ (List.mem_of_getElem? (i := 10) rfl)) (hw _ (List.mem_of_getElem? (i := 3) rfl)) (by decide) (by decide)) (g := (mkF m 6 #[.val (.ref o0), .val (.ref va)] [.null, (.int (2 : Int32)), (.int (0 : Int32)), (.ref va), (.ref o0)])) rfl (by rw [hml]; rfl) (Steps.refl _) (a := o0) (argsL := [(.ref va), (.int (0 : Int32)), (.int (2 : Int32)), .null]) (rest := []) (lenOf pd_78 rfl) rfl (by show 2 * 0 + _ ≤ _; exact Nat.le_of_eq rfl) (hb hby d1_6) (fun _ _ => ⟨rfl, e0, (by decide : 0 + 1 ≤ _), (by decide : 0 + 2 ≤ _)⟩)
  dsimp only [Pt.U, Pt.locs, Pt.cells, Pt.slots] at X2 l2 y2 z2 st2 hQ2
  subst l2 y2 z2
  obtain ⟨rfl, Nq2, hz2⟩ := hQ2
  have N2 := Fr.app N0 Nq2
  have Z2 : n0 ≤ T2.heap.size := Nat.le_trans Z0 hz2
  refine own_goT (S' := (T2.setTop (mkF m 9 #[.val (.ref o0), .val (.ref va)] []))) st2 ?_
  refine own_ret0 X2 hx hlk Bd.returns (hb hby d1_9) (by decide) (by decide) ?_
  exact ⟨rfl, N2, hz2⟩
theorem d2_8 : decode jdk_42_method_149_code 8 = .ok (.aload_n 0, 1) := by decide +kernel
theorem d2_9 : decode jdk_42_method_149_code 9 = .ok (.ldc 7, 2) := by decide +kernel
theorem d2_11 : decode jdk_42_method_149_code 11 = .ok (.getfield 9, 3) := by decide +kernel
theorem d2_14 : decode jdk_42_method_149_code 14 = .ok (.putfield 9, 3) := by decide +kernel
theorem d2_17 : decode jdk_42_method_149_code 17 = .ok (.aload_n 0, 1) := by decide +kernel
theorem d2_18 : decode jdk_42_method_149_code 18 = .ok (.ldc 7, 2) := by decide +kernel
theorem d2_20 : decode jdk_42_method_149_code 20 = .ok (.getfield 15, 3) := by decide +kernel
theorem d2_23 : decode jdk_42_method_149_code 23 = .ok (.putfield 15, 3) := by decide +kernel
theorem d2_26 : decode jdk_42_method_149_code 26 = .ok (.return_, 1) := by decide +kernel
theorem ef_rmSe (m : MethodId) (x0 : Addr) (x1 : Addr) (x2 : Int32) (x3 : Int32) : entryFrame m #[(.ref x0), (.ref x1), (.int x2), (.int x3), .null] 6 = mkF m 0 #[.val (.ref x0), .val (.ref x1), .val (.int x2), .val (.int x3), .val .null, .unset] [] := by first | (simp [entryFrame, mkF, argsToLocals, Value.category]; done) | rfl
def Q_rmSe (Z : State) (o0 va : Addr) (h0 : Heap) (n0 : Nat) (v : Option Value) (h : Heap) (L : List Loc) : Prop := v = none ∧ Fr n0 L ∧ h0.size ≤ h.size
set_option maxRecDepth 65536 in
set_option maxHeartbeats 40000000 in
theorem rmSe (l : Launch) (Z : State) (a0 : Array Value) (hw : ∀ d ∈ tables_1, d.before a0 Z = true) (ws : List Jvm.Cond) (o0 va : Addr) (h0 : Heap) (n0 : Nat) (Z0 : n0 ≤ h0.size) (E_o0 : Exa Z h0 o0 "java/lang/String") (F_o0_value : Fld Z h0 o0 "java/lang/String" "value" "[B" .null) (F_o0_coder : Fld Z h0 o0 "java/lang/String" "coder" "B" (.int (0 : Int32))) (g_o0 : n0 ≤ o0) (hcw : Jvm.Lit.compactW.before a0 Z = true) (hlit : Jvm.Lit.constHeld Z "java/lang/String" 7) (hkp : ∀ (b : Addr) (cl : Cell), Z.heap[b]? = some cl → h0[b]? = some cl) :
    MetFree l (⟨"java/lang/String", "<init>", "([CIILjava/lang/Void;)V"⟩ : MethodName) (head1 (Jvm.Cond.code (⟨"java/lang/String", "<init>", "([CIILjava/lang/Void;)V"⟩ : MethodName) jdk_42_method_149_code 6 none :: ws) ({ frames := 1, cells := 2, slots := 4, locals := 12 } : Room)) (fun a U => a = #[(.ref o0), (.ref va), (.int (0 : Int32)), (.int (0 : Int32)), .null] ∧ Z.Warmed39 U.vm ∧ U.heap = h0 ∧ U.vm.interned = Z.vm.interned) (fun _ _ _ _ _ => True) (fun _ U o U' => ∃ v L, o = .returned v ∧ Q_rmSe Z o0 va h0 n0 v U'.heap L ∧ ReturnedEndW U o U' L ({ frames := 1, cells := 2, slots := 4, locals := 12 } : Room).cells ({ frames := 1, cells := 2, slots := 4, locals := 12 } : Room).slots) := by
  refine MetFree.of_bodySF (plainFor_of_name pn_70) hisR ?_
  intro p e s m args below meth c s₁ Bd hml0 hP hK
  obtain ⟨rfl, hZ, hh, hI⟩ := hP
  have hx := Bd.exec
  have hby := Bd.bytes
  have hlk := Bd.notSynchronized
  have hml : c.maxLocals = 6 := hml0
  have hown : s.vm.findClass "java/lang/String" = some m.cls := findClass_of_methodNamed Bd.named
  have hnm := (name_of_methodNamed Bd.named Bd.method).1
  have X0 : Stand p l e ({ frames := 1, cells := 2, slots := 4, locals := 12 } : Room) s m #[(.ref o0), (.ref va), (.int (0 : Int32)), (.int (0 : Int32)), .null] below meth c s₁ [] 0 0 := Stand.of_body Bd
  have e0 : s₁.heap = h0 := by rw [← hh, Bd.state]; rfl
  have N0 := Fr.nil n0
  change own_GoW p e below s (Q_rmSe Z o0 va h0 n0) ({ frames := 1, cells := 2, slots := 4, locals := 12 } : Room).cells ({ frames := 1, cells := 2, slots := 4, locals := 12 } : Room).slots _
  refine own_goW (S' := (s₁.setTop (mkF m 0 #[.val (.ref o0), .val (.ref va), .val (.int (0 : Int32)), .val (.int (0 : Int32)), .val .null, .unset] []))) (fun _ kont => castTop (ef_rmSe m o0 va (0 : Int32) (0 : Int32)) kont) ?_
  have Y0 := Nat.le_refl h0.size
  refine own_goW (S' := (s₁.setTop (mkF m 1 #[.val (.ref o0), .val (.ref va), .val (.int (0 : Int32)), .val (.int (0 : Int32)), .val .null, .unset] [(.ref o0)]))) (fun _ kont => XS.aloadN X0.here hx rfl (hb hby d2_0) rfl rfl kont) ?_
  obtain ⟨T1, X1, e1, st1⟩ := initO X0 hx hZ hown (hw _ (List.mem_of_getElem? (i := 11) rfl)) (hw _ (List.mem_of_getElem? (i := 12) rfl)) (hw _ (List.mem_of_getElem? (i := 13) rfl)) e0 (g := (mkF m 1 #[.val (.ref o0), .val (.ref va), .val (.int (0 : Int32)), .val (.int (0 : Int32)), .val .null, .unset] [(.ref o0)])) rfl (by rw [hml]; rfl) rfl (hb hby d2_1) (by decide) (W := 0) (by show 2 * 0 + _ ≤ _; exact Nat.le_of_eq rfl) (by decide)
  refine own_goW (S' := (T1.setTop (mkF m 4 #[.val (.ref o0), .val (.ref va), .val (.int (0 : Int32)), .val (.int (0 : Int32)), .val .null, .unset] []))) st1 ?_
  refine own_goW (S' := (T1.setTop (mkF m 9 #[.val (.ref o0), .val (.ref va), .val (.int (0 : Int32)), .val (.int (0 : Int32)), .val .null, .unset] [(.ref o0)]))) (fun _ kont => XS.iloadN X1.here hx rfl (hb hby d2_4) rfl (XS.ifNo X1.here hx rfl (hb hby d2_5) rfl ((if0 _ _).trans (teq (by decide)).2) (XS.aloadN X1.here hx rfl (hb hby d2_8) rfl rfl kont))) ?_
  have hWS : ∀ a ∈ Bundle.stringAtoms, a.before a0 Z = true := fun d hd => hw d (by simpa using (List.all_eq_true.mp (by decide +kernel : (Bundle.stringAtoms.all fun c => tables_1.contains c) = true)) d hd)
  have hIB : IB Z s.vm [] := ⟨#[], by rw [hI]; simp, fun q hq => by simp at hq⟩
  obtain ⟨b2, T2, h2, nk, vb2, kb2, X2, e2, E2, hS, hnk, hZ, hown, Ex2, Fc2, Fv2, -, -, -, -, Lt, st2⟩ := ldcSVL (s := s) (vm0 := s.vm) (Ts := []) (text := "") (own := "java/lang/String") (index := 7) (z := (0 : Int32)) (vs := []) (n := 0) X1 hx hZ hown (hw _ (List.mem_of_getElem? (i := 14) rfl)) hWS e1 ((State.WarmedH.refl s).since 0) (Nat.zero_le _) (Fr.nil _) (by rw [hh]; exact hkp) hIB (by simp) hlit hcw ⟨by first | (intro c hc; simp at hc; done) | decide, by first | rfl | simp⟩ (by decide) (by decide) (g := (mkF m 9 #[.val (.ref o0), .val (.ref va), .val (.int (0 : Int32)), .val (.int (0 : Int32)), .val .null, .unset] [(.ref o0)])) rfl (hb hby d2_9) (by decide) (by decide) (by decide) (by decide)
  have c2_Eo0 := E_o0.ext E2
  have c2_Fo0_value := F_o0_value.ext E2
  have c2_Fo0_coder := F_o0_coder.ext E2
  have ne_b : b2 ≠ o0 := Fv2.ne c2_Fo0_value (by simp)
  have Z2 : n0 ≤ h2.size := Nat.le_trans Z0 E2.1
  have Y2 : h0.size ≤ h2.size := Nat.le_trans Y0 E2.1
  refine own_goW (S' := (T2.setTop (mkF m 11 #[.val (.ref o0), .val (.ref va), .val (.int (0 : Int32)), .val (.int (0 : Int32)), .val .null, .unset] [(.ref b2), (.ref o0)]))) st2 ?_
  obtain ⟨T3, X3, e3, st3⟩ := getF X2 hx hZ hown (host := "") (Or.inl (hw _ (List.mem_of_getElem? (i := 20) rfl))) Via.refl e2 Fv2 (g := (mkF m 11 #[.val (.ref o0), .val (.ref va), .val (.int (0 : Int32)), .val (.int (0 : Int32)), .val .null, .unset] [(.ref b2), (.ref o0)])) rfl rfl (hb hby d2_11)
  refine own_goW (S' := (T3.setTop (mkF m 14 #[.val (.ref o0), .val (.ref va), .val (.int (0 : Int32)), .val (.int (0 : Int32)), .val .null, .unset] [(.ref vb2), (.ref o0)]))) st3 ?_
  obtain ⟨T4, h4, X4, e4, W4, st4⟩ := putF X3 hx hZ hown (host := "") (Or.inl (hw _ (List.mem_of_getElem? (i := 20) rfl))) Via.refl e3 c2_Fo0_value c2_Eo0 (Or.inr ⟨(hw _ (List.mem_of_getElem? (i := 16) rfl)), rfl, hnm⟩) (hw _ (List.mem_of_getElem? (i := 2) rfl)) (ty := (.array .byte)) (by decide) rfl rfl (g := (mkF m 14 #[.val (.ref o0), .val (.ref va), .val (.int (0 : Int32)), .val (.int (0 : Int32)), .val .null, .unset] [(.ref vb2), (.ref o0)])) rfl rfl (hb hby d2_14)
  have c4_Eo0 := c2_Eo0.wr W4
  have c4_Fo0_value := c2_Fo0_value.same W4
  have c4_Fo0_coder := c2_Fo0_coder.other W4 (Or.inr (slot_ne (Or.inr (hw _ (List.mem_of_getElem? (i := 17) rfl))) (Or.inr (hw _ (List.mem_of_getElem? (i := 16) rfl))) (by decide) (by decide : parseFieldDescriptor "B" = some .byte) (by decide : parseFieldDescriptor "[B" = some (.array .byte))))
  have c4_Eb2 := Ex2.wr W4
  have c4_Fvb2 := Fv2.other W4 (Or.inl ne_b)
  have c4_Fcb2 := Fc2.other W4 (Or.inl ne_b)
  have N4 := Fr.snoc X4 N0 g_o0
  have Z4 : n0 ≤ h4.size := Nat.le_trans Z2 (Nat.le_of_eq W4.size.symm)
  have M4 : nk ≤ h4.size := Nat.le_trans hnk (Nat.le_of_eq W4.size.symm)
  have Y4 : h0.size ≤ h4.size := Nat.le_trans Y2 (Nat.le_of_eq W4.size.symm)
  refine own_goW (S' := (T4.setTop (mkF m 17 #[.val (.ref o0), .val (.ref va), .val (.int (0 : Int32)), .val (.int (0 : Int32)), .val .null, .unset] []))) st4 ?_
  refine own_goW (S' := (T4.setTop (mkF m 18 #[.val (.ref o0), .val (.ref va), .val (.int (0 : Int32)), .val (.int (0 : Int32)), .val .null, .unset] [(.ref o0)]))) (fun _ kont => XS.aloadN X4.here hx rfl (hb hby d2_17) rfl rfl kont) ?_
  refine own_goW (S' := (T4.setTop (mkF m 20 #[.val (.ref o0), .val (.ref va), .val (.int (0 : Int32)), .val (.int (0 : Int32)), .val .null, .unset] [(.ref b2), (.ref o0)]))) (ldcAgain X4 hx hZ hown (hw _ (List.mem_of_getElem? (i := 14) rfl)) Lt (g := (mkF m 18 #[.val (.ref o0), .val (.ref va), .val (.int (0 : Int32)), .val (.int (0 : Int32)), .val .null, .unset] [(.ref o0)])) rfl (hb hby d2_18)) ?_
  obtain ⟨T5, X5, e5, st5⟩ := getF X4 hx hZ hown (host := "") (Or.inl (hw _ (List.mem_of_getElem? (i := 21) rfl))) Via.refl e4 c4_Fcb2 (g := (mkF m 20 #[.val (.ref o0), .val (.ref va), .val (.int (0 : Int32)), .val (.int (0 : Int32)), .val .null, .unset] [(.ref b2), (.ref o0)])) rfl rfl (hb hby d2_20)
  refine own_goW (S' := (T5.setTop (mkF m 23 #[.val (.ref o0), .val (.ref va), .val (.int (0 : Int32)), .val (.int (0 : Int32)), .val .null, .unset] [(.int (0 : Int32)), (.ref o0)]))) st5 ?_
  obtain ⟨T6, h6, X6, e6, W6, st6⟩ := putFN X5 hx hZ hown (hw _ (List.mem_of_getElem? (i := 21) rfl)) Via.refl e5 c4_Fo0_coder c4_Eo0 (Or.inr ⟨(hw _ (List.mem_of_getElem? (i := 17) rfl)), rfl, hnm⟩) (hw _ (List.mem_of_getElem? (i := 2) rfl)) (ty := .byte) (v' := (.int (0 : Int32))) (by decide) rfl (by first | exact fits_nar_byte _ | rfl | decide) (g := (mkF m 23 #[.val (.ref o0), .val (.ref va), .val (.int (0 : Int32)), .val (.int (0 : Int32)), .val .null, .unset] [(.int (0 : Int32)), (.ref o0)])) rfl rfl (hb hby d2_23)
  have c6_Eo0 := c4_Eo0.wr W6
  have c6_Fo0_value := c4_Fo0_value.other W6 (Or.inr (slot_ne (Or.inr (hw _ (List.mem_of_getElem? (i := 16) rfl))) (Or.inr (hw _ (List.mem_of_getElem? (i := 17) rfl))) (by decide) (by decide : parseFieldDescriptor "[B" = some (.array .byte)) (by decide : parseFieldDescriptor "B" = some .byte)))
  have c6_Fo0_coder := c4_Fo0_coder.same W6
  have c6_Eb2 := c4_Eb2.wr W6
  have c6_Fvb2 := c4_Fvb2.other W6 (Or.inl ne_b)
  have c6_Fcb2 := c4_Fcb2.other W6 (Or.inl ne_b)
  have N6 := Fr.snoc X6 N4 g_o0
  have Z6 : n0 ≤ h6.size := Nat.le_trans Z4 (Nat.le_of_eq W6.size.symm)
  have M6 : nk ≤ h6.size := Nat.le_trans M4 (Nat.le_of_eq W6.size.symm)
  have Y6 : h0.size ≤ h6.size := Nat.le_trans Y4 (Nat.le_of_eq W6.size.symm)
  refine own_goW (S' := (T6.setTop (mkF m 26 #[.val (.ref o0), .val (.ref va), .val (.int (0 : Int32)), .val (.int (0 : Int32)), .val .null, .unset] []))) st6 ?_
  refine own_ret0W X6 hS (by rw [e6]; exact M6) hx hlk Bd.returns (hb hby d2_26) (by decide) (by decide) ?_
  rw [e6]
  exact ⟨rfl, N6, Y6⟩
theorem ef_rmCe (m : MethodId) (x0 : Addr) (x1 : Addr) : entryFrame m #[(.ref x0), (.ref x1)] 2 = mkF m 0 #[.val (.ref x0), .val (.ref x1)] [] := by first | (simp [entryFrame, mkF, argsToLocals, Value.category]; done) | rfl
def Q_rmCe (Z : State) (o0 va : Addr) (kA : ClassId) (h0 : Heap) (n0 : Nat) (v : Option Value) (h : Heap) (L : List Loc) : Prop := v = none ∧ Fr n0 L ∧ h0.size ≤ h.size
set_option maxRecDepth 65536 in
set_option maxHeartbeats 40000000 in
theorem rmCe (l : Launch) (Z : State) (a0 : Array Value) (hw : ∀ d ∈ tables_1, d.before a0 Z = true) (ws : List Jvm.Cond) (o0 va : Addr) (kA : ClassId) (h0 : Heap) (n0 : Nat) (Z0 : n0 ≤ h0.size) (E_o0 : Exa Z h0 o0 "java/lang/String") (F_o0_value : Fld Z h0 o0 "java/lang/String" "value" "[B" .null) (F_o0_coder : Fld Z h0 o0 "java/lang/String" "coder" "B" (.int (0 : Int32))) (g_o0 : n0 ≤ o0) (VA : Arv Z h0 va kA .char (0 : Int32) [] (.int (0 : Int32))) (hcw : Jvm.Lit.compactW.before a0 Z = true) (hlit : Jvm.Lit.constHeld Z "java/lang/String" 7) (hkp : ∀ (b : Addr) (cl : Cell), Z.heap[b]? = some cl → h0[b]? = some cl) :
    MetFree l (⟨"java/lang/String", "<init>", "([C)V"⟩ : MethodName) (head1 (Jvm.Cond.code (⟨"java/lang/String", "<init>", "([C)V"⟩ : MethodName) jdk_42_method_3_code 2 none :: ws) ({ frames := 2, cells := 2, slots := 4, locals := 29 } : Room)) (fun a U => a = #[(.ref o0), (.ref va)] ∧ Z.Warmed39 U.vm ∧ U.heap = h0 ∧ U.vm.interned = Z.vm.interned) (fun _ _ _ _ _ => True) (fun _ U o U' => ∃ v L, o = .returned v ∧ Q_rmCe Z o0 va kA h0 n0 v U'.heap L ∧ ReturnedEndW U o U' L ({ frames := 2, cells := 2, slots := 4, locals := 29 } : Room).cells ({ frames := 2, cells := 2, slots := 4, locals := 29 } : Room).slots) := by
  refine MetFree.of_bodySF (plainFor_of_name pn_70) hisR ?_
  intro p e s m args below meth c s₁ Bd hml0 hP hK
  obtain ⟨rfl, hZ, hh, hI⟩ := hP
  have hx := Bd.exec
  have hby := Bd.bytes
  have hlk := Bd.notSynchronized
  have hml : c.maxLocals = 2 := hml0
  have hown : s.vm.findClass "java/lang/String" = some m.cls := findClass_of_methodNamed Bd.named
  have hnm := (name_of_methodNamed Bd.named Bd.method).1
  have X0 : Stand p l e ({ frames := 2, cells := 2, slots := 4, locals := 29 } : Room) s m #[(.ref o0), (.ref va)] below meth c s₁ [] 0 0 := Stand.of_body Bd
  have e0 : s₁.heap = h0 := by rw [← hh, Bd.state]; rfl
  have N0 := Fr.nil n0
  change own_GoW p e below s (Q_rmCe Z o0 va kA h0 n0) ({ frames := 2, cells := 2, slots := 4, locals := 29 } : Room).cells ({ frames := 2, cells := 2, slots := 4, locals := 29 } : Room).slots _
  refine own_goW (S' := (s₁.setTop (mkF m 0 #[.val (.ref o0), .val (.ref va)] []))) (fun _ kont => castTop (ef_rmCe m o0 va) kont) ?_
  refine own_goW (S' := (s₁.setTop (mkF m 4 #[.val (.ref o0), .val (.ref va)] [(.ref va), (.int (0 : Int32)), (.ref va), (.ref o0)]))) (fun _ kont => XS.aloadN X0.here hx rfl (hb hby d1_0) rfl rfl (XS.aloadN X0.here hx rfl (hb hby d1_1) rfl rfl (XS.iconst X0.here hx rfl (hb hby d1_2) (XS.aloadN X0.here hx rfl (hb hby d1_3) rfl rfl kont)))) ?_
  obtain ⟨cl1, Ar1, -, S1, M1, -, -⟩ := id VA
  have ql1 := len_of S1 M1
  refine own_goW (S' := (s₁.setTop (mkF m 5 #[.val (.ref o0), .val (.ref va)] [(.int (0 : Int32)), (.int (0 : Int32)), (.ref va), (.ref o0)]))) (fun _ kont => X0.arraylength hx (by rw [e0]; exact Ar1.1) (State.isArrayOf_alike hZ.alike Ar1.2.1) (g := (mkF m 4 #[.val (.ref o0), .val (.ref va)] [(.ref va), (.int (0 : Int32)), (.ref va), (.ref o0)])) rfl rfl (hb hby d1_4) _ (by rw [ql1]; exact kont)) ?_
  refine own_goW (S' := (s₁.setTop (mkF m 6 #[.val (.ref o0), .val (.ref va)] [.null, (.int (0 : Int32)), (.int (0 : Int32)), (.ref va), (.ref o0)]))) (fun _ kont => XS.aconstNull X0.here hx rfl (hb hby d1_5) kont) ?_
  obtain ⟨v2, _, ⟨T2, L2, k2, n2⟩, -, X2, hS, hg2, ⟨Lc2, hQ2, l2, y2, z2⟩, st2⟩ := X0.specialBackS hx (y := (⟨"java/lang/String", "<init>", "([CIILjava/lang/Void;)V"⟩ : MethodName)) rfl hown (mvT hZ (hw _ (List.mem_of_getElem? (i := 7) rfl))) (mvT hZ (hw _ (List.mem_of_getElem? (i := 8) rfl))) (mvT hZ (hw _ (List.mem_of_getElem? (i := 10) rfl))) (by decide) (own_backS (W := 0) (rmSe l Z a0 hw [] o0 va h0 n0 Z0 E_o0 F_o0_value F_o0_coder g_o0 hcw hlit hkp) hZ hI (hw _ (List.mem_of_getElem? (i := 10) rfl)) (hw _ (List.mem_of_getElem? (i := 3) rfl)) (by decide) (by decide)) (g := (mkF m 6 #[.val (.ref o0), .val (.ref va)] [.null, (.int (0 : Int32)), (.int (0 : Int32)), (.ref va), (.ref o0)])) rfl (by rw [hml]; rfl) (Steps.refl _) (a := o0) (argsL := [(.ref va), (.int (0 : Int32)), (.int (0 : Int32)), .null]) (rest := []) (lenOf pd_78 rfl) rfl (by show 2 * 0 + _ ≤ _; exact Nat.le_of_eq rfl) (hb hby d1_6) (fun _ _ => ⟨rfl, e0, (by decide : 0 + 2 ≤ _), (by decide : 0 + 4 ≤ _)⟩)
  dsimp only [Pt.U, Pt.locs, Pt.cells, Pt.slots] at X2 l2 y2 z2 st2 hQ2 hS hg2
  subst l2 y2 z2
  obtain ⟨rfl, Nq2, hz2⟩ := hQ2
  have hZ2 : Z.Warmed39 (s.setVm T2.vm).vm := State.Warmed39.trans hZ hS.1
  have hown2 : (s.setVm T2.vm).vm.findClass "java/lang/String" = some m.cls := by rw [show (s.setVm T2.vm).vm = T2.vm from rfl, hS.1.alike.findClass]; exact hown
  have N2 := Fr.app N0 Nq2
  have Z2 : n0 ≤ T2.heap.size := Nat.le_trans Z0 hz2
  refine own_goTW (S' := (T2.setTop (mkF m 9 #[.val (.ref o0), .val (.ref va)] []))) st2 ?_
  refine own_ret0W X2 hS (Nat.le_refl _) hx hlk Bd.returns (hb hby d1_9) (by decide) (by decide) ?_
  exact ⟨rfl, N2, hz2⟩
theorem d4_0 : decode method_2_code 0 = .ok (.iload_n 0, 1) := by decide +kernel
theorem d4_1 : decode method_2_code 1 = .ok (.ldc 7, 2) := by decide +kernel
theorem d4_3 : decode method_2_code 3 = .ok (.iand, 1) := by decide +kernel
theorem d4_4 : decode method_2_code 4 = .ok (.bipush 20, 2) := by decide +kernel
theorem d4_6 : decode method_2_code 6 = .ok (.irem, 1) := by decide +kernel
theorem d4_7 : decode method_2_code 7 = .ok (.istore_n 1, 1) := by decide +kernel
theorem d4_8 : decode method_2_code 8 = .ok (.iload_n 1, 1) := by decide +kernel
theorem d4_9 : decode method_2_code 9 = .ok (.ifCond .ne 7, 3) := by decide +kernel
theorem d4_16 : decode method_2_code 16 = .ok (.iload_n 1, 1) := by decide +kernel
theorem d4_17 : decode method_2_code 17 = .ok (.iconst 1, 1) := by decide +kernel
theorem d4_18 : decode method_2_code 18 = .ok (.if_icmp .ne 7, 3) := by decide +kernel
theorem d4_25 : decode method_2_code 25 = .ok (.iload_n 1, 1) := by decide +kernel
theorem d4_26 : decode method_2_code 26 = .ok (.iconst 2, 1) := by decide +kernel
theorem d4_27 : decode method_2_code 27 = .ok (.if_icmp .ne 7, 3) := by decide +kernel
theorem d4_34 : decode method_2_code 34 = .ok (.iload_n 1, 1) := by decide +kernel
theorem d4_35 : decode method_2_code 35 = .ok (.iconst 3, 1) := by decide +kernel
theorem d4_36 : decode method_2_code 36 = .ok (.if_icmp .ne 7, 3) := by decide +kernel
theorem d4_43 : decode method_2_code 43 = .ok (.iload_n 1, 1) := by decide +kernel
theorem d4_44 : decode method_2_code 44 = .ok (.iconst 4, 1) := by decide +kernel
theorem d4_45 : decode method_2_code 45 = .ok (.if_icmp .ne 7, 3) := by decide +kernel
theorem d4_52 : decode method_2_code 52 = .ok (.iload_n 1, 1) := by decide +kernel
theorem d4_53 : decode method_2_code 53 = .ok (.iconst 5, 1) := by decide +kernel
theorem d4_54 : decode method_2_code 54 = .ok (.if_icmp .ne 7, 3) := by decide +kernel
theorem d4_61 : decode method_2_code 61 = .ok (.iload_n 1, 1) := by decide +kernel
theorem d4_62 : decode method_2_code 62 = .ok (.bipush 6, 2) := by decide +kernel
theorem d4_64 : decode method_2_code 64 = .ok (.if_icmp .ne 7, 3) := by decide +kernel
theorem d4_71 : decode method_2_code 71 = .ok (.iload_n 1, 1) := by decide +kernel
theorem d4_72 : decode method_2_code 72 = .ok (.bipush 7, 2) := by decide +kernel
theorem d4_74 : decode method_2_code 74 = .ok (.if_icmp .ne 7, 3) := by decide +kernel
theorem d4_81 : decode method_2_code 81 = .ok (.iload_n 1, 1) := by decide +kernel
theorem d4_82 : decode method_2_code 82 = .ok (.bipush 8, 2) := by decide +kernel
theorem d4_84 : decode method_2_code 84 = .ok (.if_icmp .ne 7, 3) := by decide +kernel
theorem d4_91 : decode method_2_code 91 = .ok (.iload_n 1, 1) := by decide +kernel
theorem d4_92 : decode method_2_code 92 = .ok (.bipush 9, 2) := by decide +kernel
theorem d4_94 : decode method_2_code 94 = .ok (.if_icmp .ne 7, 3) := by decide +kernel
theorem d4_101 : decode method_2_code 101 = .ok (.iload_n 1, 1) := by decide +kernel
theorem d4_102 : decode method_2_code 102 = .ok (.bipush 10, 2) := by decide +kernel
theorem d4_104 : decode method_2_code 104 = .ok (.if_icmp .ne 7, 3) := by decide +kernel
theorem d4_111 : decode method_2_code 111 = .ok (.iload_n 1, 1) := by decide +kernel
theorem d4_112 : decode method_2_code 112 = .ok (.bipush 11, 2) := by decide +kernel
theorem d4_114 : decode method_2_code 114 = .ok (.if_icmp .ne 7, 3) := by decide +kernel
theorem d4_121 : decode method_2_code 121 = .ok (.iload_n 1, 1) := by decide +kernel
theorem d4_122 : decode method_2_code 122 = .ok (.bipush 12, 2) := by decide +kernel
theorem d4_124 : decode method_2_code 124 = .ok (.if_icmp .ne 7, 3) := by decide +kernel
theorem d4_131 : decode method_2_code 131 = .ok (.iload_n 1, 1) := by decide +kernel
theorem d4_132 : decode method_2_code 132 = .ok (.bipush 13, 2) := by decide +kernel
theorem d4_134 : decode method_2_code 134 = .ok (.if_icmp .ne 7, 3) := by decide +kernel
theorem d4_141 : decode method_2_code 141 = .ok (.iload_n 1, 1) := by decide +kernel
theorem d4_142 : decode method_2_code 142 = .ok (.bipush 14, 2) := by decide +kernel
theorem d4_144 : decode method_2_code 144 = .ok (.if_icmp .ne 7, 3) := by decide +kernel
theorem d4_151 : decode method_2_code 151 = .ok (.iload_n 1, 1) := by decide +kernel
theorem d4_152 : decode method_2_code 152 = .ok (.bipush 15, 2) := by decide +kernel
theorem d4_154 : decode method_2_code 154 = .ok (.if_icmp .ne 7, 3) := by decide +kernel
theorem d4_161 : decode method_2_code 161 = .ok (.iload_n 1, 1) := by decide +kernel
theorem d4_162 : decode method_2_code 162 = .ok (.bipush 16, 2) := by decide +kernel
theorem d4_164 : decode method_2_code 164 = .ok (.if_icmp .ne 7, 3) := by decide +kernel
theorem d4_171 : decode method_2_code 171 = .ok (.iload_n 1, 1) := by decide +kernel
theorem d4_172 : decode method_2_code 172 = .ok (.bipush 17, 2) := by decide +kernel
theorem d4_174 : decode method_2_code 174 = .ok (.if_icmp .ne 7, 3) := by decide +kernel
theorem d4_181 : decode method_2_code 181 = .ok (.iload_n 1, 1) := by decide +kernel
theorem d4_182 : decode method_2_code 182 = .ok (.bipush 18, 2) := by decide +kernel
theorem d4_184 : decode method_2_code 184 = .ok (.if_icmp .ne 7, 3) := by decide +kernel
theorem d4_191 : decode method_2_code 191 = .ok (.getstatic 68, 3) := by decide +kernel
theorem d4_194 : decode method_2_code 194 = .ok (.areturn, 1) := by decide +kernel
theorem d4_187 : decode method_2_code 187 = .ok (.getstatic 65, 3) := by decide +kernel
theorem d4_190 : decode method_2_code 190 = .ok (.areturn, 1) := by decide +kernel
theorem d4_177 : decode method_2_code 177 = .ok (.getstatic 62, 3) := by decide +kernel
theorem d4_180 : decode method_2_code 180 = .ok (.areturn, 1) := by decide +kernel
theorem d4_167 : decode method_2_code 167 = .ok (.getstatic 59, 3) := by decide +kernel
theorem d4_170 : decode method_2_code 170 = .ok (.areturn, 1) := by decide +kernel
theorem d4_157 : decode method_2_code 157 = .ok (.getstatic 56, 3) := by decide +kernel
theorem d4_160 : decode method_2_code 160 = .ok (.areturn, 1) := by decide +kernel
theorem d4_147 : decode method_2_code 147 = .ok (.getstatic 53, 3) := by decide +kernel
theorem d4_150 : decode method_2_code 150 = .ok (.areturn, 1) := by decide +kernel
theorem d4_137 : decode method_2_code 137 = .ok (.getstatic 50, 3) := by decide +kernel
theorem d4_140 : decode method_2_code 140 = .ok (.areturn, 1) := by decide +kernel
theorem d4_127 : decode method_2_code 127 = .ok (.getstatic 47, 3) := by decide +kernel
theorem d4_130 : decode method_2_code 130 = .ok (.areturn, 1) := by decide +kernel
theorem d4_117 : decode method_2_code 117 = .ok (.getstatic 44, 3) := by decide +kernel
theorem d4_120 : decode method_2_code 120 = .ok (.areturn, 1) := by decide +kernel
theorem d4_107 : decode method_2_code 107 = .ok (.getstatic 41, 3) := by decide +kernel
theorem d4_110 : decode method_2_code 110 = .ok (.areturn, 1) := by decide +kernel
theorem d4_97 : decode method_2_code 97 = .ok (.getstatic 38, 3) := by decide +kernel
theorem d4_100 : decode method_2_code 100 = .ok (.areturn, 1) := by decide +kernel
theorem d4_87 : decode method_2_code 87 = .ok (.getstatic 35, 3) := by decide +kernel
theorem d4_90 : decode method_2_code 90 = .ok (.areturn, 1) := by decide +kernel
theorem d4_77 : decode method_2_code 77 = .ok (.getstatic 32, 3) := by decide +kernel
theorem d4_80 : decode method_2_code 80 = .ok (.areturn, 1) := by decide +kernel
theorem d4_67 : decode method_2_code 67 = .ok (.getstatic 29, 3) := by decide +kernel
theorem d4_70 : decode method_2_code 70 = .ok (.areturn, 1) := by decide +kernel
theorem d4_57 : decode method_2_code 57 = .ok (.getstatic 26, 3) := by decide +kernel
theorem d4_60 : decode method_2_code 60 = .ok (.areturn, 1) := by decide +kernel
theorem d4_48 : decode method_2_code 48 = .ok (.getstatic 23, 3) := by decide +kernel
theorem d4_51 : decode method_2_code 51 = .ok (.areturn, 1) := by decide +kernel
theorem d4_39 : decode method_2_code 39 = .ok (.getstatic 20, 3) := by decide +kernel
theorem d4_42 : decode method_2_code 42 = .ok (.areturn, 1) := by decide +kernel
theorem d4_30 : decode method_2_code 30 = .ok (.getstatic 17, 3) := by decide +kernel
theorem d4_33 : decode method_2_code 33 = .ok (.areturn, 1) := by decide +kernel
theorem d4_21 : decode method_2_code 21 = .ok (.getstatic 14, 3) := by decide +kernel
theorem d4_24 : decode method_2_code 24 = .ok (.areturn, 1) := by decide +kernel
theorem d4_12 : decode method_2_code 12 = .ok (.getstatic 8, 3) := by decide +kernel
theorem d4_15 : decode method_2_code 15 = .ok (.areturn, 1) := by decide +kernel
theorem pn_191 : plainName "com/example/sealwire/sealwire/VerificationIsAcceptedPinLaw" = true := by first | (simp [plainName, overriddenIn]; done) | decide +kernel
theorem ef_rm4 (m : MethodId) (x0 : Int32) : entryFrame m #[(.int x0)] 2 = mkF m 0 #[.val (.int x0), .unset] [] := by first | (simp [entryFrame, mkF, argsToLocals, Value.category]; done) | rfl
def Q_rm4 (Z : State) (p0 : Int32) (a_MISSING_PARAMETER a_NO_SUCH_VERSION a_SIGNATURE_FAILURE a_INVALID_AUTHORIZATION a_REQUEST_SIZE_LIMIT_EXCEEDED a_UNSUPPORTED_PROTOCOL a_IDENTITY_NOT_EXIST a_IDENTITY_KEY_ERROR a_INVALID_PARAMETER a_IDENTITY_URL_ERROR a_PARAMETER_VALUE a_UNKNOWN_PARAMETER a_RECORD_NOT_EXISTS a_IDENTITY_FULL a_INVALID_PARAMETER_VALUE a_TOKEN_FAILURE a_INVALID_ACTION a_INTERNAL_ERROR a_SECRET_ID_NOT_FOUND a_SIGNATURE_EXPIRE : Addr) (h0 : Heap) (n0 : Nat) (v : Option Value) (h : Heap) (L : List Loc) : Prop := ∃ ea, v = some (.ref ea) ∧ h = h0 ∧ L = []
set_option maxRecDepth 65536 in
set_option maxHeartbeats 40000000 in
theorem rm4 (l : Launch) (Z : State) (a0 : Array Value) (hw : ∀ d ∈ tables_1, d.before a0 Z = true) (ws : List Jvm.Cond) (p0 : Int32) (a_MISSING_PARAMETER a_NO_SUCH_VERSION a_SIGNATURE_FAILURE a_INVALID_AUTHORIZATION a_REQUEST_SIZE_LIMIT_EXCEEDED a_UNSUPPORTED_PROTOCOL a_IDENTITY_NOT_EXIST a_IDENTITY_KEY_ERROR a_INVALID_PARAMETER a_IDENTITY_URL_ERROR a_PARAMETER_VALUE a_UNKNOWN_PARAMETER a_RECORD_NOT_EXISTS a_IDENTITY_FULL a_INVALID_PARAMETER_VALUE a_TOKEN_FAILURE a_INVALID_ACTION a_INTERNAL_ERROR a_SECRET_ID_NOT_FOUND a_SIGNATURE_EXPIRE : Addr) (h0 : Heap) (n0 : Nat) (Z0 : n0 ≤ h0.size) (S_MISSING_PARAMETER : Sta Z h0 "com/example/sealwire/sealwire/ErrorCode" "MISSING_PARAMETER" "Lcom/example/sealwire/sealwire/ErrorCode;" (.ref a_MISSING_PARAMETER)) (S_NO_SUCH_VERSION : Sta Z h0 "com/example/sealwire/sealwire/ErrorCode" "NO_SUCH_VERSION" "Lcom/example/sealwire/sealwire/ErrorCode;" (.ref a_NO_SUCH_VERSION)) (S_SIGNATURE_FAILURE : Sta Z h0 "com/example/sealwire/sealwire/ErrorCode" "SIGNATURE_FAILURE" "Lcom/example/sealwire/sealwire/ErrorCode;" (.ref a_SIGNATURE_FAILURE)) (S_INVALID_AUTHORIZATION : Sta Z h0 "com/example/sealwire/sealwire/ErrorCode" "INVALID_AUTHORIZATION" "Lcom/example/sealwire/sealwire/ErrorCode;" (.ref a_INVALID_AUTHORIZATION)) (S_REQUEST_SIZE_LIMIT_EXCEEDED : Sta Z h0 "com/example/sealwire/sealwire/ErrorCode" "REQUEST_SIZE_LIMIT_EXCEEDED" "Lcom/example/sealwire/sealwire/ErrorCode;" (.ref a_REQUEST_SIZE_LIMIT_EXCEEDED)) (S_UNSUPPORTED_PROTOCOL : Sta Z h0 "com/example/sealwire/sealwire/ErrorCode" "UNSUPPORTED_PROTOCOL" "Lcom/example/sealwire/sealwire/ErrorCode;" (.ref a_UNSUPPORTED_PROTOCOL)) (S_IDENTITY_NOT_EXIST : Sta Z h0 "com/example/sealwire/sealwire/ErrorCode" "IDENTITY_NOT_EXIST" "Lcom/example/sealwire/sealwire/ErrorCode;" (.ref a_IDENTITY_NOT_EXIST)) (S_IDENTITY_KEY_ERROR : Sta Z h0 "com/example/sealwire/sealwire/ErrorCode" "IDENTITY_KEY_ERROR" "Lcom/example/sealwire/sealwire/ErrorCode;" (.ref a_IDENTITY_KEY_ERROR)) (S_INVALID_PARAMETER : Sta Z h0 "com/example/sealwire/sealwire/ErrorCode" "INVALID_PARAMETER" "Lcom/example/sealwire/sealwire/ErrorCode;" (.ref a_INVALID_PARAMETER)) (S_IDENTITY_URL_ERROR : Sta Z h0 "com/example/sealwire/sealwire/ErrorCode" "IDENTITY_URL_ERROR" "Lcom/example/sealwire/sealwire/ErrorCode;" (.ref a_IDENTITY_URL_ERROR)) (S_PARAMETER_VALUE : Sta Z h0 "com/example/sealwire/sealwire/ErrorCode" "PARAMETER_VALUE" "Lcom/example/sealwire/sealwire/ErrorCode;" (.ref a_PARAMETER_VALUE)) (S_UNKNOWN_PARAMETER : Sta Z h0 "com/example/sealwire/sealwire/ErrorCode" "UNKNOWN_PARAMETER" "Lcom/example/sealwire/sealwire/ErrorCode;" (.ref a_UNKNOWN_PARAMETER)) (S_RECORD_NOT_EXISTS : Sta Z h0 "com/example/sealwire/sealwire/ErrorCode" "RECORD_NOT_EXISTS" "Lcom/example/sealwire/sealwire/ErrorCode;" (.ref a_RECORD_NOT_EXISTS)) (S_IDENTITY_FULL : Sta Z h0 "com/example/sealwire/sealwire/ErrorCode" "IDENTITY_FULL" "Lcom/example/sealwire/sealwire/ErrorCode;" (.ref a_IDENTITY_FULL)) (S_INVALID_PARAMETER_VALUE : Sta Z h0 "com/example/sealwire/sealwire/ErrorCode" "INVALID_PARAMETER_VALUE" "Lcom/example/sealwire/sealwire/ErrorCode;" (.ref a_INVALID_PARAMETER_VALUE)) (S_TOKEN_FAILURE : Sta Z h0 "com/example/sealwire/sealwire/ErrorCode" "TOKEN_FAILURE" "Lcom/example/sealwire/sealwire/ErrorCode;" (.ref a_TOKEN_FAILURE)) (S_INVALID_ACTION : Sta Z h0 "com/example/sealwire/sealwire/ErrorCode" "INVALID_ACTION" "Lcom/example/sealwire/sealwire/ErrorCode;" (.ref a_INVALID_ACTION)) (S_INTERNAL_ERROR : Sta Z h0 "com/example/sealwire/sealwire/ErrorCode" "INTERNAL_ERROR" "Lcom/example/sealwire/sealwire/ErrorCode;" (.ref a_INTERNAL_ERROR)) (S_SECRET_ID_NOT_FOUND : Sta Z h0 "com/example/sealwire/sealwire/ErrorCode" "SECRET_ID_NOT_FOUND" "Lcom/example/sealwire/sealwire/ErrorCode;" (.ref a_SECRET_ID_NOT_FOUND)) (S_SIGNATURE_EXPIRE : Sta Z h0 "com/example/sealwire/sealwire/ErrorCode" "SIGNATURE_EXPIRE" "Lcom/example/sealwire/sealwire/ErrorCode;" (.ref a_SIGNATURE_EXPIRE)) :
    MetFree l (⟨"com/example/sealwire/sealwire/VerificationIsAcceptedPinLaw", "pick", "(I)Lcom/example/sealwire/sealwire/ErrorCode;"⟩ : MethodName) (head1 (Jvm.Cond.code (⟨"com/example/sealwire/sealwire/VerificationIsAcceptedPinLaw", "pick", "(I)Lcom/example/sealwire/sealwire/ErrorCode;"⟩ : MethodName) method_2_code 2 (some (.object "com/example/sealwire/sealwire/ErrorCode")) :: ws) ({ frames := 0, cells := 0, slots := 0, locals := 0 } : Room)) (fun a U => a = #[(.int p0)] ∧ Z.Warmed39 U.vm ∧ U.heap = h0) (fun _ _ _ _ _ => True) (fun _ U o U' => ∃ v L, o = .returned v ∧ Q_rm4 Z p0 a_MISSING_PARAMETER a_NO_SUCH_VERSION a_SIGNATURE_FAILURE a_INVALID_AUTHORIZATION a_REQUEST_SIZE_LIMIT_EXCEEDED a_UNSUPPORTED_PROTOCOL a_IDENTITY_NOT_EXIST a_IDENTITY_KEY_ERROR a_INVALID_PARAMETER a_IDENTITY_URL_ERROR a_PARAMETER_VALUE a_UNKNOWN_PARAMETER a_RECORD_NOT_EXISTS a_IDENTITY_FULL a_INVALID_PARAMETER_VALUE a_TOKEN_FAILURE a_INVALID_ACTION a_INTERNAL_ERROR a_SECRET_ID_NOT_FOUND a_SIGNATURE_EXPIRE h0 n0 v U'.heap L ∧ FrameEnd U o U' L ({ frames := 0, cells := 0, slots := 0, locals := 0 } : Room).cells ({ frames := 0, cells := 0, slots := 0, locals := 0 } : Room).slots) := by
  refine MetFree.of_bodySF (plainFor_of_name pn_191) hisR ?_
  intro p e s m args below meth c s₁ Bd hml0 hP hK
  obtain ⟨rfl, hZ, hh⟩ := hP
  have hx := Bd.exec
  have hby := Bd.bytes
  have hlk := Bd.notSynchronized
  have hml : c.maxLocals = 2 := hml0
  have hown : s.vm.findClass "com/example/sealwire/sealwire/VerificationIsAcceptedPinLaw" = some m.cls := findClass_of_methodNamed Bd.named
  have hnm := (name_of_methodNamed Bd.named Bd.method).1
  have X0 : Stand p l e ({ frames := 0, cells := 0, slots := 0, locals := 0 } : Room) s m #[(.int p0)] below meth c s₁ [] 0 0 := Stand.of_body Bd
  have e0 : s₁.heap = h0 := by rw [← hh, Bd.state]; rfl
  have N0 := Fr.nil n0
  change own_Go p e below s (Q_rm4 Z p0 a_MISSING_PARAMETER a_NO_SUCH_VERSION a_SIGNATURE_FAILURE a_INVALID_AUTHORIZATION a_REQUEST_SIZE_LIMIT_EXCEEDED a_UNSUPPORTED_PROTOCOL a_IDENTITY_NOT_EXIST a_IDENTITY_KEY_ERROR a_INVALID_PARAMETER a_IDENTITY_URL_ERROR a_PARAMETER_VALUE a_UNKNOWN_PARAMETER a_RECORD_NOT_EXISTS a_IDENTITY_FULL a_INVALID_PARAMETER_VALUE a_TOKEN_FAILURE a_INVALID_ACTION a_INTERNAL_ERROR a_SECRET_ID_NOT_FOUND a_SIGNATURE_EXPIRE h0 n0) ({ frames := 0, cells := 0, slots := 0, locals := 0 } : Room).cells ({ frames := 0, cells := 0, slots := 0, locals := 0 } : Room).slots _
  refine own_go (S' := (s₁.setTop (mkF m 0 #[.val (.int p0), .unset] []))) (fun _ kont => castTop (ef_rm4 m p0) kont) ?_
  refine own_go (S' := (s₁.setTop (mkF m 1 #[.val (.int p0), .unset] [(.int p0)]))) (fun _ kont => XS.iloadN X0.here hx rfl (hb hby d4_0) rfl kont) ?_
  refine own_go (S' := (s₁.setTop (mkF m 3 #[.val (.int p0), .unset] [(.int (2147483647 : Int32)), (.int p0)]))) (X0.ldcInt hx hown (mvT hZ (hw _ (List.mem_of_getElem? (i := 26) rfl))) (g := (mkF m 1 #[.val (.int p0), .unset] [(.int p0)])) rfl (hb hby d4_1)) ?_
  refine own_go (S' := (s₁.setTop (mkF m 9 #[.val (.int p0), .val (.int ((p0 &&& (2147483647 : Int32)) % (20 : Int32)))] [(.int ((p0 &&& (2147483647 : Int32)) % (20 : Int32)))]))) (fun _ kont => XS.iand X0.here hx rfl (hb hby d4_3) rfl (XS.bipush X0.here hx rfl (hb hby d4_4) (iremM X0 hx (g := (mkF m 6 #[.val (.int p0), .unset] [(.int (20 : Int32)), (.int (p0 &&& (2147483647 : Int32)))])) rfl (hb hby d4_6) rfl (by decide) (XS.istoreN X0.here hx rfl (hb hby d4_7) rfl (l' := #[.val (.int p0), .val (.int ((p0 &&& (2147483647 : Int32)) % (20 : Int32)))]) rfl (XS.iloadN X0.here hx rfl (hb hby d4_8) rfl kont))))) ?_
  by_cases b9_1 : ((p0 &&& (2147483647 : Int32)) % (20 : Int32)) = (0 : Int32)
  · refine own_go (S' := (s₁.setTop (mkF m 12 #[.val (.int p0), .val (.int ((p0 &&& (2147483647 : Int32)) % (20 : Int32)))] []))) (fun _ kont => XS.ifNo X0.here hx rfl (hb hby d4_9) rfl ((if0 _ _).trans (teq b9_1).2) kont) ?_
    obtain ⟨T39, X39, e39, st39⟩ := getS2 X0 hx hZ hown (host := "") (Or.inl (hw _ (List.mem_of_getElem? (i := 66) rfl))) Via.refl e0 S_INVALID_AUTHORIZATION (g := (mkF m 12 #[.val (.int p0), .val (.int ((p0 &&& (2147483647 : Int32)) % (20 : Int32)))] [])) rfl (hb hby d4_12)
    refine own_go (S' := (T39.setTop (mkF m 15 #[.val (.int p0), .val (.int ((p0 &&& (2147483647 : Int32)) % (20 : Int32)))] [(.ref a_INVALID_AUTHORIZATION)]))) st39 ?_
    refine own_retA X39 hx hlk (rfl) rfl Bd.returns (hb hby d4_15) (by decide) (by decide) ?_
    exact ⟨_, rfl, e39, rfl⟩
  · refine own_go (S' := (s₁.setTop (mkF m 18 #[.val (.int p0), .val (.int ((p0 &&& (2147483647 : Int32)) % (20 : Int32)))] [(.int (1 : Int32)), (.int ((p0 &&& (2147483647 : Int32)) % (20 : Int32)))]))) (fun _ kont => XS.ifYes X0.here hx rfl (pc0 := 9) (pc' := 16) rfl (hb hby d4_9) rfl ((if0 _ _).trans (feq b9_1).2) (by decide) (by decide) (XS.iloadN X0.here hx rfl (hb hby d4_16) rfl (XS.iconst X0.here hx rfl (hb hby d4_17) kont))) ?_
    by_cases b18_2 : ((p0 &&& (2147483647 : Int32)) % (20 : Int32)) = (1 : Int32)
    · refine own_go (S' := (s₁.setTop (mkF m 21 #[.val (.int p0), .val (.int ((p0 &&& (2147483647 : Int32)) % (20 : Int32)))] []))) (fun _ kont => XS.icmpNo X0.here hx rfl (hb hby d4_18) rfl (teq b18_2).2 kont) ?_
      obtain ⟨T38, X38, e38, st38⟩ := getS2 X0 hx hZ hown (host := "") (Or.inl (hw _ (List.mem_of_getElem? (i := 27) rfl))) Via.refl e0 S_MISSING_PARAMETER (g := (mkF m 21 #[.val (.int p0), .val (.int ((p0 &&& (2147483647 : Int32)) % (20 : Int32)))] [])) rfl (hb hby d4_21)
      refine own_go (S' := (T38.setTop (mkF m 24 #[.val (.int p0), .val (.int ((p0 &&& (2147483647 : Int32)) % (20 : Int32)))] [(.ref a_MISSING_PARAMETER)]))) st38 ?_
      refine own_retA X38 hx hlk (rfl) rfl Bd.returns (hb hby d4_24) (by decide) (by decide) ?_
      exact ⟨_, rfl, e38, rfl⟩
    · refine own_go (S' := (s₁.setTop (mkF m 27 #[.val (.int p0), .val (.int ((p0 &&& (2147483647 : Int32)) % (20 : Int32)))] [(.int (2 : Int32)), (.int ((p0 &&& (2147483647 : Int32)) % (20 : Int32)))]))) (fun _ kont => XS.icmpYes X0.here hx rfl (pc0 := 18) (pc' := 25) rfl (hb hby d4_18) rfl (feq b18_2).2 (by decide) (by decide) (XS.iloadN X0.here hx rfl (hb hby d4_25) rfl (XS.iconst X0.here hx rfl (hb hby d4_26) kont))) ?_
      by_cases b27_3 : ((p0 &&& (2147483647 : Int32)) % (20 : Int32)) = (2 : Int32)
      · refine own_go (S' := (s₁.setTop (mkF m 30 #[.val (.int p0), .val (.int ((p0 &&& (2147483647 : Int32)) % (20 : Int32)))] []))) (fun _ kont => XS.icmpNo X0.here hx rfl (hb hby d4_27) rfl (teq b27_3).2 kont) ?_
        obtain ⟨T37, X37, e37, st37⟩ := getS2 X0 hx hZ hown (host := "") (Or.inl (hw _ (List.mem_of_getElem? (i := 76) rfl))) Via.refl e0 S_INVALID_PARAMETER (g := (mkF m 30 #[.val (.int p0), .val (.int ((p0 &&& (2147483647 : Int32)) % (20 : Int32)))] [])) rfl (hb hby d4_30)
        refine own_go (S' := (T37.setTop (mkF m 33 #[.val (.int p0), .val (.int ((p0 &&& (2147483647 : Int32)) % (20 : Int32)))] [(.ref a_INVALID_PARAMETER)]))) st37 ?_
        refine own_retA X37 hx hlk (rfl) rfl Bd.returns (hb hby d4_33) (by decide) (by decide) ?_
        exact ⟨_, rfl, e37, rfl⟩
      · refine own_go (S' := (s₁.setTop (mkF m 36 #[.val (.int p0), .val (.int ((p0 &&& (2147483647 : Int32)) % (20 : Int32)))] [(.int (3 : Int32)), (.int ((p0 &&& (2147483647 : Int32)) % (20 : Int32)))]))) (fun _ kont => XS.icmpYes X0.here hx rfl (pc0 := 27) (pc' := 34) rfl (hb hby d4_27) rfl (feq b27_3).2 (by decide) (by decide) (XS.iloadN X0.here hx rfl (hb hby d4_34) rfl (XS.iconst X0.here hx rfl (hb hby d4_35) kont))) ?_
        by_cases b36_4 : ((p0 &&& (2147483647 : Int32)) % (20 : Int32)) = (3 : Int32)
        · refine own_go (S' := (s₁.setTop (mkF m 39 #[.val (.int p0), .val (.int ((p0 &&& (2147483647 : Int32)) % (20 : Int32)))] []))) (fun _ kont => XS.icmpNo X0.here hx rfl (hb hby d4_36) rfl (teq b36_4).2 kont) ?_
          obtain ⟨T36, X36, e36, st36⟩ := getS2 X0 hx hZ hown (host := "") (Or.inl (hw _ (List.mem_of_getElem? (i := 96) rfl))) Via.refl e0 S_SECRET_ID_NOT_FOUND (g := (mkF m 39 #[.val (.int p0), .val (.int ((p0 &&& (2147483647 : Int32)) % (20 : Int32)))] [])) rfl (hb hby d4_39)
          refine own_go (S' := (T36.setTop (mkF m 42 #[.val (.int p0), .val (.int ((p0 &&& (2147483647 : Int32)) % (20 : Int32)))] [(.ref a_SECRET_ID_NOT_FOUND)]))) st36 ?_
          refine own_retA X36 hx hlk (rfl) rfl Bd.returns (hb hby d4_42) (by decide) (by decide) ?_
          exact ⟨_, rfl, e36, rfl⟩
        · refine own_go (S' := (s₁.setTop (mkF m 45 #[.val (.int p0), .val (.int ((p0 &&& (2147483647 : Int32)) % (20 : Int32)))] [(.int (4 : Int32)), (.int ((p0 &&& (2147483647 : Int32)) % (20 : Int32)))]))) (fun _ kont => XS.icmpYes X0.here hx rfl (pc0 := 36) (pc' := 43) rfl (hb hby d4_36) rfl (feq b36_4).2 (by decide) (by decide) (XS.iloadN X0.here hx rfl (hb hby d4_43) rfl (XS.iconst X0.here hx rfl (hb hby d4_44) kont))) ?_
          by_cases b45_5 : ((p0 &&& (2147483647 : Int32)) % (20 : Int32)) = (4 : Int32)
          · refine own_go (S' := (s₁.setTop (mkF m 48 #[.val (.int p0), .val (.int ((p0 &&& (2147483647 : Int32)) % (20 : Int32)))] []))) (fun _ kont => XS.icmpNo X0.here hx rfl (hb hby d4_45) rfl (teq b45_5).2 kont) ?_
            obtain ⟨T35, X35, e35, st35⟩ := getS2 X0 hx hZ hown (host := "") (Or.inl (hw _ (List.mem_of_getElem? (i := 98) rfl))) Via.refl e0 S_SIGNATURE_EXPIRE (g := (mkF m 48 #[.val (.int p0), .val (.int ((p0 &&& (2147483647 : Int32)) % (20 : Int32)))] [])) rfl (hb hby d4_48)
            refine own_go (S' := (T35.setTop (mkF m 51 #[.val (.int p0), .val (.int ((p0 &&& (2147483647 : Int32)) % (20 : Int32)))] [(.ref a_SIGNATURE_EXPIRE)]))) st35 ?_
            refine own_retA X35 hx hlk (rfl) rfl Bd.returns (hb hby d4_51) (by decide) (by decide) ?_
            exact ⟨_, rfl, e35, rfl⟩
          · refine own_go (S' := (s₁.setTop (mkF m 54 #[.val (.int p0), .val (.int ((p0 &&& (2147483647 : Int32)) % (20 : Int32)))] [(.int (5 : Int32)), (.int ((p0 &&& (2147483647 : Int32)) % (20 : Int32)))]))) (fun _ kont => XS.icmpYes X0.here hx rfl (pc0 := 45) (pc' := 52) rfl (hb hby d4_45) rfl (feq b45_5).2 (by decide) (by decide) (XS.iloadN X0.here hx rfl (hb hby d4_52) rfl (XS.iconst X0.here hx rfl (hb hby d4_53) kont))) ?_
            by_cases b54_6 : ((p0 &&& (2147483647 : Int32)) % (20 : Int32)) = (5 : Int32)
            · refine own_go (S' := (s₁.setTop (mkF m 57 #[.val (.int p0), .val (.int ((p0 &&& (2147483647 : Int32)) % (20 : Int32)))] []))) (fun _ kont => XS.icmpNo X0.here hx rfl (hb hby d4_54) rfl (teq b54_6).2 kont) ?_
              obtain ⟨T34, X34, e34, st34⟩ := getS2 X0 hx hZ hown (host := "") (Or.inl (hw _ (List.mem_of_getElem? (i := 90) rfl))) Via.refl e0 S_TOKEN_FAILURE (g := (mkF m 57 #[.val (.int p0), .val (.int ((p0 &&& (2147483647 : Int32)) % (20 : Int32)))] [])) rfl (hb hby d4_57)
              refine own_go (S' := (T34.setTop (mkF m 60 #[.val (.int p0), .val (.int ((p0 &&& (2147483647 : Int32)) % (20 : Int32)))] [(.ref a_TOKEN_FAILURE)]))) st34 ?_
              refine own_retA X34 hx hlk (rfl) rfl Bd.returns (hb hby d4_60) (by decide) (by decide) ?_
              exact ⟨_, rfl, e34, rfl⟩
            · refine own_go (S' := (s₁.setTop (mkF m 64 #[.val (.int p0), .val (.int ((p0 &&& (2147483647 : Int32)) % (20 : Int32)))] [(.int (6 : Int32)), (.int ((p0 &&& (2147483647 : Int32)) % (20 : Int32)))]))) (fun _ kont => XS.icmpYes X0.here hx rfl (pc0 := 54) (pc' := 61) rfl (hb hby d4_54) rfl (feq b54_6).2 (by decide) (by decide) (XS.iloadN X0.here hx rfl (hb hby d4_61) rfl (XS.bipush X0.here hx rfl (hb hby d4_62) kont))) ?_
              by_cases b64_7 : ((p0 &&& (2147483647 : Int32)) % (20 : Int32)) = (6 : Int32)
              · refine own_go (S' := (s₁.setTop (mkF m 67 #[.val (.int p0), .val (.int ((p0 &&& (2147483647 : Int32)) % (20 : Int32)))] []))) (fun _ kont => XS.icmpNo X0.here hx rfl (hb hby d4_64) rfl (teq b64_7).2 kont) ?_
                obtain ⟨T33, X33, e33, st33⟩ := getS2 X0 hx hZ hown (host := "") (Or.inl (hw _ (List.mem_of_getElem? (i := 64) rfl))) Via.refl e0 S_SIGNATURE_FAILURE (g := (mkF m 67 #[.val (.int p0), .val (.int ((p0 &&& (2147483647 : Int32)) % (20 : Int32)))] [])) rfl (hb hby d4_67)
                refine own_go (S' := (T33.setTop (mkF m 70 #[.val (.int p0), .val (.int ((p0 &&& (2147483647 : Int32)) % (20 : Int32)))] [(.ref a_SIGNATURE_FAILURE)]))) st33 ?_
                refine own_retA X33 hx hlk (rfl) rfl Bd.returns (hb hby d4_70) (by decide) (by decide) ?_
                exact ⟨_, rfl, e33, rfl⟩
              · refine own_go (S' := (s₁.setTop (mkF m 74 #[.val (.int p0), .val (.int ((p0 &&& (2147483647 : Int32)) % (20 : Int32)))] [(.int (7 : Int32)), (.int ((p0 &&& (2147483647 : Int32)) % (20 : Int32)))]))) (fun _ kont => XS.icmpYes X0.here hx rfl (pc0 := 64) (pc' := 71) rfl (hb hby d4_64) rfl (feq b64_7).2 (by decide) (by decide) (XS.iloadN X0.here hx rfl (hb hby d4_71) rfl (XS.bipush X0.here hx rfl (hb hby d4_72) kont))) ?_
                by_cases b74_8 : ((p0 &&& (2147483647 : Int32)) % (20 : Int32)) = (7 : Int32)
                · refine own_go (S' := (s₁.setTop (mkF m 77 #[.val (.int p0), .val (.int ((p0 &&& (2147483647 : Int32)) % (20 : Int32)))] []))) (fun _ kont => XS.icmpNo X0.here hx rfl (hb hby d4_74) rfl (teq b74_8).2 kont) ?_
                  obtain ⟨T32, X32, e32, st32⟩ := getS2 X0 hx hZ hown (host := "") (Or.inl (hw _ (List.mem_of_getElem? (i := 70) rfl))) Via.refl e0 S_UNSUPPORTED_PROTOCOL (g := (mkF m 77 #[.val (.int p0), .val (.int ((p0 &&& (2147483647 : Int32)) % (20 : Int32)))] [])) rfl (hb hby d4_77)
                  refine own_go (S' := (T32.setTop (mkF m 80 #[.val (.int p0), .val (.int ((p0 &&& (2147483647 : Int32)) % (20 : Int32)))] [(.ref a_UNSUPPORTED_PROTOCOL)]))) st32 ?_
                  refine own_retA X32 hx hlk (rfl) rfl Bd.returns (hb hby d4_80) (by decide) (by decide) ?_
                  exact ⟨_, rfl, e32, rfl⟩
                · refine own_go (S' := (s₁.setTop (mkF m 84 #[.val (.int p0), .val (.int ((p0 &&& (2147483647 : Int32)) % (20 : Int32)))] [(.int (8 : Int32)), (.int ((p0 &&& (2147483647 : Int32)) % (20 : Int32)))]))) (fun _ kont => XS.icmpYes X0.here hx rfl (pc0 := 74) (pc' := 81) rfl (hb hby d4_74) rfl (feq b74_8).2 (by decide) (by decide) (XS.iloadN X0.here hx rfl (hb hby d4_81) rfl (XS.bipush X0.here hx rfl (hb hby d4_82) kont))) ?_
                  by_cases b84_9 : ((p0 &&& (2147483647 : Int32)) % (20 : Int32)) = (8 : Int32)
                  · refine own_go (S' := (s₁.setTop (mkF m 87 #[.val (.int p0), .val (.int ((p0 &&& (2147483647 : Int32)) % (20 : Int32)))] []))) (fun _ kont => XS.icmpNo X0.here hx rfl (hb hby d4_84) rfl (teq b84_9).2 kont) ?_
                    obtain ⟨T31, X31, e31, st31⟩ := getS2 X0 hx hZ hown (host := "") (Or.inl (hw _ (List.mem_of_getElem? (i := 68) rfl))) Via.refl e0 S_REQUEST_SIZE_LIMIT_EXCEEDED (g := (mkF m 87 #[.val (.int p0), .val (.int ((p0 &&& (2147483647 : Int32)) % (20 : Int32)))] [])) rfl (hb hby d4_87)
                    refine own_go (S' := (T31.setTop (mkF m 90 #[.val (.int p0), .val (.int ((p0 &&& (2147483647 : Int32)) % (20 : Int32)))] [(.ref a_REQUEST_SIZE_LIMIT_EXCEEDED)]))) st31 ?_
                    refine own_retA X31 hx hlk (rfl) rfl Bd.returns (hb hby d4_90) (by decide) (by decide) ?_
                    exact ⟨_, rfl, e31, rfl⟩
                  · refine own_go (S' := (s₁.setTop (mkF m 94 #[.val (.int p0), .val (.int ((p0 &&& (2147483647 : Int32)) % (20 : Int32)))] [(.int (9 : Int32)), (.int ((p0 &&& (2147483647 : Int32)) % (20 : Int32)))]))) (fun _ kont => XS.icmpYes X0.here hx rfl (pc0 := 84) (pc' := 91) rfl (hb hby d4_84) rfl (feq b84_9).2 (by decide) (by decide) (XS.iloadN X0.here hx rfl (hb hby d4_91) rfl (XS.bipush X0.here hx rfl (hb hby d4_92) kont))) ?_
                    by_cases b94_10 : ((p0 &&& (2147483647 : Int32)) % (20 : Int32)) = (9 : Int32)
                    · refine own_go (S' := (s₁.setTop (mkF m 97 #[.val (.int p0), .val (.int ((p0 &&& (2147483647 : Int32)) % (20 : Int32)))] []))) (fun _ kont => XS.icmpNo X0.here hx rfl (hb hby d4_94) rfl (teq b94_10).2 kont) ?_
                      obtain ⟨T30, X30, e30, st30⟩ := getS2 X0 hx hZ hown (host := "") (Or.inl (hw _ (List.mem_of_getElem? (i := 92) rfl))) Via.refl e0 S_INVALID_ACTION (g := (mkF m 97 #[.val (.int p0), .val (.int ((p0 &&& (2147483647 : Int32)) % (20 : Int32)))] [])) rfl (hb hby d4_97)
                      refine own_go (S' := (T30.setTop (mkF m 100 #[.val (.int p0), .val (.int ((p0 &&& (2147483647 : Int32)) % (20 : Int32)))] [(.ref a_INVALID_ACTION)]))) st30 ?_
                      refine own_retA X30 hx hlk (rfl) rfl Bd.returns (hb hby d4_100) (by decide) (by decide) ?_
                      exact ⟨_, rfl, e30, rfl⟩
                    · refine own_go (S' := (s₁.setTop (mkF m 104 #[.val (.int p0), .val (.int ((p0 &&& (2147483647 : Int32)) % (20 : Int32)))] [(.int (10 : Int32)), (.int ((p0 &&& (2147483647 : Int32)) % (20 : Int32)))]))) (fun _ kont => XS.icmpYes X0.here hx rfl (pc0 := 94) (pc' := 101) rfl (hb hby d4_94) rfl (feq b94_10).2 (by decide) (by decide) (XS.iloadN X0.here hx rfl (hb hby d4_101) rfl (XS.bipush X0.here hx rfl (hb hby d4_102) kont))) ?_
                      by_cases b104_11 : ((p0 &&& (2147483647 : Int32)) % (20 : Int32)) = (10 : Int32)
                      · refine own_go (S' := (s₁.setTop (mkF m 107 #[.val (.int p0), .val (.int ((p0 &&& (2147483647 : Int32)) % (20 : Int32)))] []))) (fun _ kont => XS.icmpNo X0.here hx rfl (hb hby d4_104) rfl (teq b104_11).2 kont) ?_
                        obtain ⟨T29, X29, e29, st29⟩ := getS2 X0 hx hZ hown (host := "") (Or.inl (hw _ (List.mem_of_getElem? (i := 51) rfl))) Via.refl e0 S_NO_SUCH_VERSION (g := (mkF m 107 #[.val (.int p0), .val (.int ((p0 &&& (2147483647 : Int32)) % (20 : Int32)))] [])) rfl (hb hby d4_107)
                        refine own_go (S' := (T29.setTop (mkF m 110 #[.val (.int p0), .val (.int ((p0 &&& (2147483647 : Int32)) % (20 : Int32)))] [(.ref a_NO_SUCH_VERSION)]))) st29 ?_
                        refine own_retA X29 hx hlk (rfl) rfl Bd.returns (hb hby d4_110) (by decide) (by decide) ?_
                        exact ⟨_, rfl, e29, rfl⟩
                      · refine own_go (S' := (s₁.setTop (mkF m 114 #[.val (.int p0), .val (.int ((p0 &&& (2147483647 : Int32)) % (20 : Int32)))] [(.int (11 : Int32)), (.int ((p0 &&& (2147483647 : Int32)) % (20 : Int32)))]))) (fun _ kont => XS.icmpYes X0.here hx rfl (pc0 := 104) (pc' := 111) rfl (hb hby d4_104) rfl (feq b104_11).2 (by decide) (by decide) (XS.iloadN X0.here hx rfl (hb hby d4_111) rfl (XS.bipush X0.here hx rfl (hb hby d4_112) kont))) ?_
                        by_cases b114_12 : ((p0 &&& (2147483647 : Int32)) % (20 : Int32)) = (11 : Int32)
                        · refine own_go (S' := (s₁.setTop (mkF m 117 #[.val (.int p0), .val (.int ((p0 &&& (2147483647 : Int32)) % (20 : Int32)))] []))) (fun _ kont => XS.icmpNo X0.here hx rfl (hb hby d4_114) rfl (teq b114_12).2 kont) ?_
                          obtain ⟨T28, X28, e28, st28⟩ := getS2 X0 hx hZ hown (host := "") (Or.inl (hw _ (List.mem_of_getElem? (i := 82) rfl))) Via.refl e0 S_UNKNOWN_PARAMETER (g := (mkF m 117 #[.val (.int p0), .val (.int ((p0 &&& (2147483647 : Int32)) % (20 : Int32)))] [])) rfl (hb hby d4_117)
                          refine own_go (S' := (T28.setTop (mkF m 120 #[.val (.int p0), .val (.int ((p0 &&& (2147483647 : Int32)) % (20 : Int32)))] [(.ref a_UNKNOWN_PARAMETER)]))) st28 ?_
                          refine own_retA X28 hx hlk (rfl) rfl Bd.returns (hb hby d4_120) (by decide) (by decide) ?_
                          exact ⟨_, rfl, e28, rfl⟩
                        · refine own_go (S' := (s₁.setTop (mkF m 124 #[.val (.int p0), .val (.int ((p0 &&& (2147483647 : Int32)) % (20 : Int32)))] [(.int (12 : Int32)), (.int ((p0 &&& (2147483647 : Int32)) % (20 : Int32)))]))) (fun _ kont => XS.icmpYes X0.here hx rfl (pc0 := 114) (pc' := 121) rfl (hb hby d4_114) rfl (feq b114_12).2 (by decide) (by decide) (XS.iloadN X0.here hx rfl (hb hby d4_121) rfl (XS.bipush X0.here hx rfl (hb hby d4_122) kont))) ?_
                          by_cases b124_13 : ((p0 &&& (2147483647 : Int32)) % (20 : Int32)) = (12 : Int32)
                          · refine own_go (S' := (s₁.setTop (mkF m 127 #[.val (.int p0), .val (.int ((p0 &&& (2147483647 : Int32)) % (20 : Int32)))] []))) (fun _ kont => XS.icmpNo X0.here hx rfl (hb hby d4_124) rfl (teq b124_13).2 kont) ?_
                            obtain ⟨T27, X27, e27, st27⟩ := getS2 X0 hx hZ hown (host := "") (Or.inl (hw _ (List.mem_of_getElem? (i := 80) rfl))) Via.refl e0 S_PARAMETER_VALUE (g := (mkF m 127 #[.val (.int p0), .val (.int ((p0 &&& (2147483647 : Int32)) % (20 : Int32)))] [])) rfl (hb hby d4_127)
                            refine own_go (S' := (T27.setTop (mkF m 130 #[.val (.int p0), .val (.int ((p0 &&& (2147483647 : Int32)) % (20 : Int32)))] [(.ref a_PARAMETER_VALUE)]))) st27 ?_
                            refine own_retA X27 hx hlk (rfl) rfl Bd.returns (hb hby d4_130) (by decide) (by decide) ?_
                            exact ⟨_, rfl, e27, rfl⟩
                          · refine own_go (S' := (s₁.setTop (mkF m 134 #[.val (.int p0), .val (.int ((p0 &&& (2147483647 : Int32)) % (20 : Int32)))] [(.int (13 : Int32)), (.int ((p0 &&& (2147483647 : Int32)) % (20 : Int32)))]))) (fun _ kont => XS.icmpYes X0.here hx rfl (pc0 := 124) (pc' := 131) rfl (hb hby d4_124) rfl (feq b124_13).2 (by decide) (by decide) (XS.iloadN X0.here hx rfl (hb hby d4_131) rfl (XS.bipush X0.here hx rfl (hb hby d4_132) kont))) ?_
                            by_cases b134_14 : ((p0 &&& (2147483647 : Int32)) % (20 : Int32)) = (13 : Int32)
                            · refine own_go (S' := (s₁.setTop (mkF m 137 #[.val (.int p0), .val (.int ((p0 &&& (2147483647 : Int32)) % (20 : Int32)))] []))) (fun _ kont => XS.icmpNo X0.here hx rfl (hb hby d4_134) rfl (teq b134_14).2 kont) ?_
                              obtain ⟨T26, X26, e26, st26⟩ := getS2 X0 hx hZ hown (host := "") (Or.inl (hw _ (List.mem_of_getElem? (i := 88) rfl))) Via.refl e0 S_INVALID_PARAMETER_VALUE (g := (mkF m 137 #[.val (.int p0), .val (.int ((p0 &&& (2147483647 : Int32)) % (20 : Int32)))] [])) rfl (hb hby d4_137)
                              refine own_go (S' := (T26.setTop (mkF m 140 #[.val (.int p0), .val (.int ((p0 &&& (2147483647 : Int32)) % (20 : Int32)))] [(.ref a_INVALID_PARAMETER_VALUE)]))) st26 ?_
                              refine own_retA X26 hx hlk (rfl) rfl Bd.returns (hb hby d4_140) (by decide) (by decide) ?_
                              exact ⟨_, rfl, e26, rfl⟩
                            · refine own_go (S' := (s₁.setTop (mkF m 144 #[.val (.int p0), .val (.int ((p0 &&& (2147483647 : Int32)) % (20 : Int32)))] [(.int (14 : Int32)), (.int ((p0 &&& (2147483647 : Int32)) % (20 : Int32)))]))) (fun _ kont => XS.icmpYes X0.here hx rfl (pc0 := 134) (pc' := 141) rfl (hb hby d4_134) rfl (feq b134_14).2 (by decide) (by decide) (XS.iloadN X0.here hx rfl (hb hby d4_141) rfl (XS.bipush X0.here hx rfl (hb hby d4_142) kont))) ?_
                              by_cases b144_15 : ((p0 &&& (2147483647 : Int32)) % (20 : Int32)) = (14 : Int32)
                              · refine own_go (S' := (s₁.setTop (mkF m 147 #[.val (.int p0), .val (.int ((p0 &&& (2147483647 : Int32)) % (20 : Int32)))] []))) (fun _ kont => XS.icmpNo X0.here hx rfl (hb hby d4_144) rfl (teq b144_15).2 kont) ?_
                                obtain ⟨T25, X25, e25, st25⟩ := getS2 X0 hx hZ hown (host := "") (Or.inl (hw _ (List.mem_of_getElem? (i := 78) rfl))) Via.refl e0 S_IDENTITY_URL_ERROR (g := (mkF m 147 #[.val (.int p0), .val (.int ((p0 &&& (2147483647 : Int32)) % (20 : Int32)))] [])) rfl (hb hby d4_147)
                                refine own_go (S' := (T25.setTop (mkF m 150 #[.val (.int p0), .val (.int ((p0 &&& (2147483647 : Int32)) % (20 : Int32)))] [(.ref a_IDENTITY_URL_ERROR)]))) st25 ?_
                                refine own_retA X25 hx hlk (rfl) rfl Bd.returns (hb hby d4_150) (by decide) (by decide) ?_
                                exact ⟨_, rfl, e25, rfl⟩
                              · refine own_go (S' := (s₁.setTop (mkF m 154 #[.val (.int p0), .val (.int ((p0 &&& (2147483647 : Int32)) % (20 : Int32)))] [(.int (15 : Int32)), (.int ((p0 &&& (2147483647 : Int32)) % (20 : Int32)))]))) (fun _ kont => XS.icmpYes X0.here hx rfl (pc0 := 144) (pc' := 151) rfl (hb hby d4_144) rfl (feq b144_15).2 (by decide) (by decide) (XS.iloadN X0.here hx rfl (hb hby d4_151) rfl (XS.bipush X0.here hx rfl (hb hby d4_152) kont))) ?_
                                by_cases b154_16 : ((p0 &&& (2147483647 : Int32)) % (20 : Int32)) = (15 : Int32)
                                · refine own_go (S' := (s₁.setTop (mkF m 157 #[.val (.int p0), .val (.int ((p0 &&& (2147483647 : Int32)) % (20 : Int32)))] []))) (fun _ kont => XS.icmpNo X0.here hx rfl (hb hby d4_154) rfl (teq b154_16).2 kont) ?_
                                  obtain ⟨T24, X24, e24, st24⟩ := getS2 X0 hx hZ hown (host := "") (Or.inl (hw _ (List.mem_of_getElem? (i := 74) rfl))) Via.refl e0 S_IDENTITY_KEY_ERROR (g := (mkF m 157 #[.val (.int p0), .val (.int ((p0 &&& (2147483647 : Int32)) % (20 : Int32)))] [])) rfl (hb hby d4_157)
                                  refine own_go (S' := (T24.setTop (mkF m 160 #[.val (.int p0), .val (.int ((p0 &&& (2147483647 : Int32)) % (20 : Int32)))] [(.ref a_IDENTITY_KEY_ERROR)]))) st24 ?_
                                  refine own_retA X24 hx hlk (rfl) rfl Bd.returns (hb hby d4_160) (by decide) (by decide) ?_
                                  exact ⟨_, rfl, e24, rfl⟩
                                · refine own_go (S' := (s₁.setTop (mkF m 164 #[.val (.int p0), .val (.int ((p0 &&& (2147483647 : Int32)) % (20 : Int32)))] [(.int (16 : Int32)), (.int ((p0 &&& (2147483647 : Int32)) % (20 : Int32)))]))) (fun _ kont => XS.icmpYes X0.here hx rfl (pc0 := 154) (pc' := 161) rfl (hb hby d4_154) rfl (feq b154_16).2 (by decide) (by decide) (XS.iloadN X0.here hx rfl (hb hby d4_161) rfl (XS.bipush X0.here hx rfl (hb hby d4_162) kont))) ?_
                                  by_cases b164_17 : ((p0 &&& (2147483647 : Int32)) % (20 : Int32)) = (16 : Int32)
                                  · refine own_go (S' := (s₁.setTop (mkF m 167 #[.val (.int p0), .val (.int ((p0 &&& (2147483647 : Int32)) % (20 : Int32)))] []))) (fun _ kont => XS.icmpNo X0.here hx rfl (hb hby d4_164) rfl (teq b164_17).2 kont) ?_
                                    obtain ⟨T23, X23, e23, st23⟩ := getS2 X0 hx hZ hown (host := "") (Or.inl (hw _ (List.mem_of_getElem? (i := 84) rfl))) Via.refl e0 S_RECORD_NOT_EXISTS (g := (mkF m 167 #[.val (.int p0), .val (.int ((p0 &&& (2147483647 : Int32)) % (20 : Int32)))] [])) rfl (hb hby d4_167)
                                    refine own_go (S' := (T23.setTop (mkF m 170 #[.val (.int p0), .val (.int ((p0 &&& (2147483647 : Int32)) % (20 : Int32)))] [(.ref a_RECORD_NOT_EXISTS)]))) st23 ?_
                                    refine own_retA X23 hx hlk (rfl) rfl Bd.returns (hb hby d4_170) (by decide) (by decide) ?_
                                    exact ⟨_, rfl, e23, rfl⟩
                                  · refine own_go (S' := (s₁.setTop (mkF m 174 #[.val (.int p0), .val (.int ((p0 &&& (2147483647 : Int32)) % (20 : Int32)))] [(.int (17 : Int32)), (.int ((p0 &&& (2147483647 : Int32)) % (20 : Int32)))]))) (fun _ kont => XS.icmpYes X0.here hx rfl (pc0 := 164) (pc' := 171) rfl (hb hby d4_164) rfl (feq b164_17).2 (by decide) (by decide) (XS.iloadN X0.here hx rfl (hb hby d4_171) rfl (XS.bipush X0.here hx rfl (hb hby d4_172) kont))) ?_
                                    by_cases b174_18 : ((p0 &&& (2147483647 : Int32)) % (20 : Int32)) = (17 : Int32)
                                    · refine own_go (S' := (s₁.setTop (mkF m 177 #[.val (.int p0), .val (.int ((p0 &&& (2147483647 : Int32)) % (20 : Int32)))] []))) (fun _ kont => XS.icmpNo X0.here hx rfl (hb hby d4_174) rfl (teq b174_18).2 kont) ?_
                                      obtain ⟨T22, X22, e22, st22⟩ := getS2 X0 hx hZ hown (host := "") (Or.inl (hw _ (List.mem_of_getElem? (i := 72) rfl))) Via.refl e0 S_IDENTITY_NOT_EXIST (g := (mkF m 177 #[.val (.int p0), .val (.int ((p0 &&& (2147483647 : Int32)) % (20 : Int32)))] [])) rfl (hb hby d4_177)
                                      refine own_go (S' := (T22.setTop (mkF m 180 #[.val (.int p0), .val (.int ((p0 &&& (2147483647 : Int32)) % (20 : Int32)))] [(.ref a_IDENTITY_NOT_EXIST)]))) st22 ?_
                                      refine own_retA X22 hx hlk (rfl) rfl Bd.returns (hb hby d4_180) (by decide) (by decide) ?_
                                      exact ⟨_, rfl, e22, rfl⟩
                                    · refine own_go (S' := (s₁.setTop (mkF m 184 #[.val (.int p0), .val (.int ((p0 &&& (2147483647 : Int32)) % (20 : Int32)))] [(.int (18 : Int32)), (.int ((p0 &&& (2147483647 : Int32)) % (20 : Int32)))]))) (fun _ kont => XS.icmpYes X0.here hx rfl (pc0 := 174) (pc' := 181) rfl (hb hby d4_174) rfl (feq b174_18).2 (by decide) (by decide) (XS.iloadN X0.here hx rfl (hb hby d4_181) rfl (XS.bipush X0.here hx rfl (hb hby d4_182) kont))) ?_
                                      by_cases b184_19 : ((p0 &&& (2147483647 : Int32)) % (20 : Int32)) = (18 : Int32)
                                      · refine own_go (S' := (s₁.setTop (mkF m 187 #[.val (.int p0), .val (.int ((p0 &&& (2147483647 : Int32)) % (20 : Int32)))] []))) (fun _ kont => XS.icmpNo X0.here hx rfl (hb hby d4_184) rfl (teq b184_19).2 kont) ?_
                                        obtain ⟨T21, X21, e21, st21⟩ := getS2 X0 hx hZ hown (host := "") (Or.inl (hw _ (List.mem_of_getElem? (i := 86) rfl))) Via.refl e0 S_IDENTITY_FULL (g := (mkF m 187 #[.val (.int p0), .val (.int ((p0 &&& (2147483647 : Int32)) % (20 : Int32)))] [])) rfl (hb hby d4_187)
                                        refine own_go (S' := (T21.setTop (mkF m 190 #[.val (.int p0), .val (.int ((p0 &&& (2147483647 : Int32)) % (20 : Int32)))] [(.ref a_IDENTITY_FULL)]))) st21 ?_
                                        refine own_retA X21 hx hlk (rfl) rfl Bd.returns (hb hby d4_190) (by decide) (by decide) ?_
                                        exact ⟨_, rfl, e21, rfl⟩
                                      · refine own_go (S' := (s₁.setTop (mkF m 191 #[.val (.int p0), .val (.int ((p0 &&& (2147483647 : Int32)) % (20 : Int32)))] []))) (fun _ kont => XS.icmpYes X0.here hx rfl (pc0 := 184) (pc' := 191) rfl (hb hby d4_184) rfl (feq b184_19).2 (by decide) (by decide) kont) ?_
                                        obtain ⟨T20, X20, e20, st20⟩ := getS2 X0 hx hZ hown (host := "") (Or.inl (hw _ (List.mem_of_getElem? (i := 94) rfl))) Via.refl e0 S_INTERNAL_ERROR (g := (mkF m 191 #[.val (.int p0), .val (.int ((p0 &&& (2147483647 : Int32)) % (20 : Int32)))] [])) rfl (hb hby d4_191)
                                        refine own_go (S' := (T20.setTop (mkF m 194 #[.val (.int p0), .val (.int ((p0 &&& (2147483647 : Int32)) % (20 : Int32)))] [(.ref a_INTERNAL_ERROR)]))) st20 ?_
                                        refine own_retA X20 hx hlk (rfl) rfl Bd.returns (hb hby d4_194) (by decide) (by decide) ?_
                                        exact ⟨_, rfl, e20, rfl⟩
theorem d6_0 : decode jdk_30_method_1_code 0 = .ok (.aload_n 0, 1) := by decide +kernel
theorem d6_1 : decode jdk_30_method_1_code 1 = .ok (.invokespecial 1, 3) := by decide +kernel
theorem d6_4 : decode jdk_30_method_1_code 4 = .ok (.return_, 1) := by decide +kernel
theorem pn_195 : plainName "java/lang/Record" = true := by first | (simp [plainName, overriddenIn]; done) | decide +kernel
theorem ef_rm6 (m : MethodId) (x0 : Addr) : entryFrame m #[(.ref x0)] 1 = mkF m 0 #[.val (.ref x0)] [] := by first | (simp [entryFrame, mkF, argsToLocals, Value.category]; done) | rfl
def Q_rm6 (Z : State) (o0 : Addr) (h0 : Heap) (n0 : Nat) (v : Option Value) (h : Heap) (L : List Loc) : Prop := v = none ∧ h = h0 ∧ L = []
set_option maxRecDepth 65536 in
set_option maxHeartbeats 40000000 in
theorem rm6 (l : Launch) (Z : State) (a0 : Array Value) (hw : ∀ d ∈ tables_1, d.before a0 Z = true) (ws : List Jvm.Cond) (o0 : Addr) (h0 : Heap) (n0 : Nat) (Z0 : n0 ≤ h0.size)  :
    MetFree l (⟨"java/lang/Record", "<init>", "()V"⟩ : MethodName) (head1 (Jvm.Cond.code (⟨"java/lang/Record", "<init>", "()V"⟩ : MethodName) jdk_30_method_1_code 1 none :: ws) ({ frames := 1, cells := 0, slots := 0, locals := 12 } : Room)) (fun a U => a = #[(.ref o0)] ∧ Z.Warmed39 U.vm ∧ U.heap = h0) (fun _ _ _ _ _ => True) (fun _ U o U' => ∃ v L, o = .returned v ∧ Q_rm6 Z o0 h0 n0 v U'.heap L ∧ FrameEnd U o U' L ({ frames := 1, cells := 0, slots := 0, locals := 12 } : Room).cells ({ frames := 1, cells := 0, slots := 0, locals := 12 } : Room).slots) := by
  refine MetFree.of_bodySF (plainFor_of_name pn_195) hisR ?_
  intro p e s m args below meth c s₁ Bd hml0 hP hK
  obtain ⟨rfl, hZ, hh⟩ := hP
  have hx := Bd.exec
  have hby := Bd.bytes
  have hlk := Bd.notSynchronized
  have hml : c.maxLocals = 1 := hml0
  have hown : s.vm.findClass "java/lang/Record" = some m.cls := findClass_of_methodNamed Bd.named
  have hnm := (name_of_methodNamed Bd.named Bd.method).1
  have X0 : Stand p l e ({ frames := 1, cells := 0, slots := 0, locals := 12 } : Room) s m #[(.ref o0)] below meth c s₁ [] 0 0 := Stand.of_body Bd
  have e0 : s₁.heap = h0 := by rw [← hh, Bd.state]; rfl
  have N0 := Fr.nil n0
  change own_Go p e below s (Q_rm6 Z o0 h0 n0) ({ frames := 1, cells := 0, slots := 0, locals := 12 } : Room).cells ({ frames := 1, cells := 0, slots := 0, locals := 12 } : Room).slots _
  refine own_go (S' := (s₁.setTop (mkF m 0 #[.val (.ref o0)] []))) (fun _ kont => castTop (ef_rm6 m o0) kont) ?_
  refine own_go (S' := (s₁.setTop (mkF m 1 #[.val (.ref o0)] [(.ref o0)]))) (fun _ kont => XS.aloadN X0.here hx rfl (hb hby d6_0) rfl rfl kont) ?_
  obtain ⟨T1, X1, e1, st1⟩ := initO X0 hx hZ hown (hw _ (List.mem_of_getElem? (i := 41) rfl)) (hw _ (List.mem_of_getElem? (i := 12) rfl)) (hw _ (List.mem_of_getElem? (i := 13) rfl)) e0 (g := (mkF m 1 #[.val (.ref o0)] [(.ref o0)])) rfl (by rw [hml]; rfl) rfl (hb hby d6_1) (by decide) (W := 0) (by show 2 * 0 + _ ≤ _; exact Nat.le_of_eq rfl) (by decide)
  refine own_go (S' := (T1.setTop (mkF m 4 #[.val (.ref o0)] []))) st1 ?_
  refine own_ret0 X1 hx hlk Bd.returns (hb hby d6_4) (by decide) (by decide) ?_
  exact ⟨rfl, e1, rfl⟩
theorem d5_0 : decode prog_44_method_1_code 0 = .ok (.aload_n 0, 1) := by decide +kernel
theorem d5_1 : decode prog_44_method_1_code 1 = .ok (.invokespecial 1, 3) := by decide +kernel
theorem pd_198 : parseMethodDescriptor "()V" = some ⟨[], none⟩ := by decide +kernel
theorem d5_4 : decode prog_44_method_1_code 4 = .ok (.aload_n 1, 1) := by decide +kernel
theorem d5_5 : decode prog_44_method_1_code 5 = .ok (.ifnonnull 7, 3) := by decide +kernel
theorem d5_12 : decode prog_44_method_1_code 12 = .ok (.iconst 0, 1) := by decide +kernel
theorem d5_13 : decode prog_44_method_1_code 13 = .ok (.aload_n 2, 1) := by decide +kernel
theorem d5_14 : decode prog_44_method_1_code 14 = .ok (.ifnonnull 7, 3) := by decide +kernel
theorem d5_17 : decode prog_44_method_1_code 17 = .ok (.iconst 1, 1) := by decide +kernel
theorem d5_18 : decode prog_44_method_1_code 18 = .ok (.goto 4, 3) := by decide +kernel
theorem d5_22 : decode prog_44_method_1_code 22 = .ok (.if_icmp .ne 13, 3) := by decide +kernel
theorem d5_35 : decode prog_44_method_1_code 35 = .ok (.aload_n 0, 1) := by decide +kernel
theorem d5_36 : decode prog_44_method_1_code 36 = .ok (.aload_n 1, 1) := by decide +kernel
theorem d5_37 : decode prog_44_method_1_code 37 = .ok (.putfield 14, 3) := by decide +kernel
theorem d5_40 : decode prog_44_method_1_code 40 = .ok (.aload_n 0, 1) := by decide +kernel
theorem d5_41 : decode prog_44_method_1_code 41 = .ok (.aload_n 2, 1) := by decide +kernel
theorem d5_42 : decode prog_44_method_1_code 42 = .ok (.putfield 20, 3) := by decide +kernel
theorem d5_45 : decode prog_44_method_1_code 45 = .ok (.return_, 1) := by decide +kernel
theorem pn_214 : plainName "com/example/sealwire/sealwire/Verification" = true := by first | (simp [plainName, overriddenIn]; done) | decide +kernel
theorem ef_rmVA (m : MethodId) (x0 : Addr) (x1 : Addr) : entryFrame m #[(.ref x0), (.ref x1), .null] 3 = mkF m 0 #[.val (.ref x0), .val (.ref x1), .val .null] [] := by first | (simp [entryFrame, mkF, argsToLocals, Value.category]; done) | rfl
def Q_rmVA (Z : State) (o0 q0 : Addr) (h0 : Heap) (n0 : Nat) (v : Option Value) (h : Heap) (L : List Loc) : Prop := v = none ∧ Fr n0 L ∧ Keep h0 h [o0] ∧ Fld Z h o0 "com/example/sealwire/sealwire/Verification" "error" "Lcom/example/sealwire/sealwire/ErrorCode;" .null
set_option maxRecDepth 65536 in
set_option maxHeartbeats 40000000 in
theorem rmVA (l : Launch) (Z : State) (a0 : Array Value) (hw : ∀ d ∈ tables_1, d.before a0 Z = true) (ws : List Jvm.Cond) (o0 q0 : Addr) (h0 : Heap) (n0 : Nat) (Z0 : n0 ≤ h0.size) (E_o0 : Exa Z h0 o0 "com/example/sealwire/sealwire/Verification") (F_o0_secretId : Fld Z h0 o0 "com/example/sealwire/sealwire/Verification" "secretId" "Ljava/lang/String;" .null) (F_o0_error : Fld Z h0 o0 "com/example/sealwire/sealwire/Verification" "error" "Lcom/example/sealwire/sealwire/ErrorCode;" .null) (g_o0 : n0 ≤ o0) :
    MetFree l (⟨"com/example/sealwire/sealwire/Verification", "<init>", "(Ljava/lang/String;Lcom/example/sealwire/sealwire/ErrorCode;)V"⟩ : MethodName) (head1 (Jvm.Cond.code (⟨"com/example/sealwire/sealwire/Verification", "<init>", "(Ljava/lang/String;Lcom/example/sealwire/sealwire/ErrorCode;)V"⟩ : MethodName) prog_44_method_1_code 3 none :: ws) ({ frames := 2, cells := 0, slots := 0, locals := 24 } : Room)) (fun a U => a = #[(.ref o0), (.ref q0), .null] ∧ Z.Warmed39 U.vm ∧ U.heap = h0) (fun _ _ _ _ _ => True) (fun _ U o U' => ∃ v L, o = .returned v ∧ Q_rmVA Z o0 q0 h0 n0 v U'.heap L ∧ FrameEnd U o U' L ({ frames := 2, cells := 0, slots := 0, locals := 24 } : Room).cells ({ frames := 2, cells := 0, slots := 0, locals := 24 } : Room).slots) := by
  refine MetFree.of_bodySF (plainFor_of_name pn_214) hisR ?_
  intro p e s m args below meth c s₁ Bd hml0 hP hK
  obtain ⟨rfl, hZ, hh⟩ := hP
  have hx := Bd.exec
  have hby := Bd.bytes
  have hlk := Bd.notSynchronized
  have hml : c.maxLocals = 3 := hml0
  have hown : s.vm.findClass "com/example/sealwire/sealwire/Verification" = some m.cls := findClass_of_methodNamed Bd.named
  have hnm := (name_of_methodNamed Bd.named Bd.method).1
  have X0 : Stand p l e ({ frames := 2, cells := 0, slots := 0, locals := 24 } : Room) s m #[(.ref o0), (.ref q0), .null] below meth c s₁ [] 0 0 := Stand.of_body Bd
  have e0 : s₁.heap = h0 := by rw [← hh, Bd.state]; rfl
  have N0 := Fr.nil n0
  change own_Go p e below s (Q_rmVA Z o0 q0 h0 n0) ({ frames := 2, cells := 0, slots := 0, locals := 24 } : Room).cells ({ frames := 2, cells := 0, slots := 0, locals := 24 } : Room).slots _
  refine own_go (S' := (s₁.setTop (mkF m 0 #[.val (.ref o0), .val (.ref q0), .val .null] []))) (fun _ kont => castTop (ef_rmVA m o0 q0) kont) ?_
  have K0 := Keep.refl h0 [o0]
  refine own_go (S' := (s₁.setTop (mkF m 1 #[.val (.ref o0), .val (.ref q0), .val .null] [(.ref o0)]))) (fun _ kont => XS.aloadN X0.here hx rfl (hb hby d5_0) rfl rfl kont) ?_
  obtain ⟨v1, _, ⟨T1, L1, k1, n1⟩, -, X1, ⟨Lc1, hQ1, l1, y1, z1⟩, st1⟩ := X0.specialBack hx (y := (⟨"java/lang/Record", "<init>", "()V"⟩ : MethodName)) rfl hown (mvT hZ (hw _ (List.mem_of_getElem? (i := 36) rfl))) (mvT hZ (hw _ (List.mem_of_getElem? (i := 37) rfl))) (mvT hZ (hw _ (List.mem_of_getElem? (i := 40) rfl))) (by decide) (backOf (W := 0) (rm6 l Z a0 hw [] o0 h0 n0 Z0) hZ (hw _ (List.mem_of_getElem? (i := 40) rfl)) (hw _ (List.mem_of_getElem? (i := 39) rfl)) (by decide) (by decide)) (g := (mkF m 1 #[.val (.ref o0), .val (.ref q0), .val .null] [(.ref o0)])) rfl (by rw [hml]; rfl) (Steps.refl _) (a := o0) (argsL := []) (rest := []) (lenOf pd_198 rfl) rfl (by show 2 * 0 + _ ≤ _; exact Nat.le_of_eq rfl) (hb hby d5_1) (fun _ _ => ⟨rfl, e0, (by decide : 0 + 0 ≤ _), (by decide : 0 + 0 ≤ _)⟩)
  dsimp only [Pt.U, Pt.locs, Pt.cells, Pt.slots] at X1 l1 y1 z1 st1 hQ1
  subst l1 y1 z1
  obtain ⟨rfl, eh1, rfl⟩ := hQ1
  have N1 := Fr.app N0 (Fr.nil n0)
  refine own_goT (S' := (T1.setTop (mkF m 4 #[.val (.ref o0), .val (.ref q0), .val .null] []))) st1 ?_
  refine own_go (S' := (T1.setTop (mkF m 35 #[.val (.ref o0), .val (.ref q0), .val .null] []))) (fun _ kont => XS.aloadN X1.here hx rfl (hb hby d5_4) rfl rfl (XS.ifnonnullYes X1.here hx rfl (pc0 := 5) (pc' := 12) rfl (hb hby d5_5) rfl (by decide) (by decide) (XS.iconst X1.here hx rfl (hb hby d5_12) (XS.aloadN X1.here hx rfl (hb hby d5_13) rfl rfl (XS.ifnonnullNo X1.here hx rfl (hb hby d5_14) rfl (XS.iconst X1.here hx rfl (hb hby d5_17) (XS.goto X1.here hx rfl (pc0 := 18) (pc' := 22) rfl (hb hby d5_18) (by decide) (by decide) (XS.icmpYes X1.here hx rfl (pc0 := 22) (pc' := 35) rfl (hb hby d5_22) rfl (feq (by decide)).2 (by decide) (by decide) kont)))))))) ?_
  refine own_go (S' := (T1.setTop (mkF m 37 #[.val (.ref o0), .val (.ref q0), .val .null] [(.ref q0), (.ref o0)]))) (fun _ kont => XS.aloadN X1.here hx rfl (hb hby d5_35) rfl rfl (XS.aloadN X1.here hx rfl (hb hby d5_36) rfl rfl kont)) ?_
  obtain ⟨T2, h2, X2, e2, W2, st2⟩ := putF X1 hx hZ hown (host := "") (Or.inl (hw _ (List.mem_of_getElem? (i := 42) rfl))) Via.refl eh1 F_o0_secretId E_o0 (Or.inr ⟨(hw _ (List.mem_of_getElem? (i := 43) rfl)), rfl, hnm⟩) (hw _ (List.mem_of_getElem? (i := 31) rfl)) (ty := (.object "java/lang/String")) (by decide) rfl rfl (g := (mkF m 37 #[.val (.ref o0), .val (.ref q0), .val .null] [(.ref q0), (.ref o0)])) rfl rfl (hb hby d5_37)
  have c2_Eo0 := E_o0.wr W2
  have c2_Fo0_secretId := F_o0_secretId.same W2
  have c2_Fo0_error := F_o0_error.other W2 (Or.inr (slot_ne (Or.inr (hw _ (List.mem_of_getElem? (i := 45) rfl))) (Or.inr (hw _ (List.mem_of_getElem? (i := 43) rfl))) (by decide) (by decide : parseFieldDescriptor "Lcom/example/sealwire/sealwire/ErrorCode;" = some (.object "com/example/sealwire/sealwire/ErrorCode")) (by decide : parseFieldDescriptor "Ljava/lang/String;" = some (.object "java/lang/String"))))
  have K2 := K0.wr W2 (Or.inl (List.mem_of_getElem? (i := 0) rfl))
  have N2 := Fr.snoc X2 N1 g_o0
  have Z2 : n0 ≤ h2.size := Nat.le_trans Z0 (Nat.le_of_eq W2.size.symm)
  refine own_go (S' := (T2.setTop (mkF m 40 #[.val (.ref o0), .val (.ref q0), .val .null] []))) st2 ?_
  refine own_go (S' := (T2.setTop (mkF m 42 #[.val (.ref o0), .val (.ref q0), .val .null] [.null, (.ref o0)]))) (fun _ kont => XS.aloadN X2.here hx rfl (hb hby d5_40) rfl rfl (XS.aloadN X2.here hx rfl (hb hby d5_41) rfl rfl kont)) ?_
  obtain ⟨T3, h3, X3, e3, W3, st3⟩ := putF X2 hx hZ hown (host := "") (Or.inl (hw _ (List.mem_of_getElem? (i := 44) rfl))) Via.refl e2 c2_Fo0_error c2_Eo0 (Or.inr ⟨(hw _ (List.mem_of_getElem? (i := 45) rfl)), rfl, hnm⟩) (hw _ (List.mem_of_getElem? (i := 31) rfl)) (ty := (.object "com/example/sealwire/sealwire/ErrorCode")) (by decide) rfl rfl (g := (mkF m 42 #[.val (.ref o0), .val (.ref q0), .val .null] [.null, (.ref o0)])) rfl rfl (hb hby d5_42)
  have c3_Eo0 := c2_Eo0.wr W3
  have c3_Fo0_secretId := c2_Fo0_secretId.other W3 (Or.inr (slot_ne (Or.inr (hw _ (List.mem_of_getElem? (i := 43) rfl))) (Or.inr (hw _ (List.mem_of_getElem? (i := 45) rfl))) (by decide) (by decide : parseFieldDescriptor "Ljava/lang/String;" = some (.object "java/lang/String")) (by decide : parseFieldDescriptor "Lcom/example/sealwire/sealwire/ErrorCode;" = some (.object "com/example/sealwire/sealwire/ErrorCode"))))
  have c3_Fo0_error := c2_Fo0_error.same W3
  have K3 := K2.wr W3 (Or.inl (List.mem_of_getElem? (i := 0) rfl))
  have N3 := Fr.snoc X3 N2 g_o0
  have Z3 : n0 ≤ h3.size := Nat.le_trans Z2 (Nat.le_of_eq W3.size.symm)
  refine own_go (S' := (T3.setTop (mkF m 45 #[.val (.ref o0), .val (.ref q0), .val .null] []))) st3 ?_
  refine own_ret0 X3 hx hlk Bd.returns (hb hby d5_45) (by decide) (by decide) ?_
  rw [e3]
  exact ⟨rfl, N3, K3, c3_Fo0_error⟩
theorem d7_0 : decode prog_44_method_4_code 0 = .ok (.aload_n 0, 1) := by decide +kernel
theorem d7_1 : decode prog_44_method_4_code 1 = .ok (.getfield 20, 3) := by decide +kernel
theorem d7_4 : decode prog_44_method_4_code 4 = .ok (.ifnonnull 7, 3) := by decide +kernel
theorem d7_7 : decode prog_44_method_4_code 7 = .ok (.iconst 1, 1) := by decide +kernel
theorem d7_8 : decode prog_44_method_4_code 8 = .ok (.goto 4, 3) := by decide +kernel
theorem d7_12 : decode prog_44_method_4_code 12 = .ok (.ireturn, 1) := by decide +kernel
theorem ef_rmIA (m : MethodId) (x0 : Addr) : entryFrame m #[(.ref x0)] 1 = mkF m 0 #[.val (.ref x0)] [] := by first | (simp [entryFrame, mkF, argsToLocals, Value.category]; done) | rfl
def Q_rmIA (Z : State) (o0 q0 : Addr) (h0 : Heap) (n0 : Nat) (v : Option Value) (h : Heap) (L : List Loc) : Prop := v = some (.int 1) ∧ h = h0 ∧ L = []
set_option maxRecDepth 65536 in
set_option maxHeartbeats 40000000 in
theorem rmIA (l : Launch) (Z : State) (a0 : Array Value) (hw : ∀ d ∈ tables_1, d.before a0 Z = true) (ws : List Jvm.Cond) (o0 q0 : Addr) (h0 : Heap) (n0 : Nat) (Z0 : n0 ≤ h0.size) (F_o0_error : Fld Z h0 o0 "com/example/sealwire/sealwire/Verification" "error" "Lcom/example/sealwire/sealwire/ErrorCode;" .null) :
    MetFree l (⟨"com/example/sealwire/sealwire/Verification", "isAccepted", "()Z"⟩ : MethodName) (head1 (Jvm.Cond.code (⟨"com/example/sealwire/sealwire/Verification", "isAccepted", "()Z"⟩ : MethodName) prog_44_method_4_code 1 (some .boolean) :: ws) ({ frames := 0, cells := 0, slots := 0, locals := 0 } : Room)) (fun a U => a = #[(.ref o0)] ∧ Z.Warmed39 U.vm ∧ U.heap = h0) (fun _ _ _ _ _ => True) (fun _ U o U' => ∃ v L, o = .returned v ∧ Q_rmIA Z o0 q0 h0 n0 v U'.heap L ∧ FrameEnd U o U' L ({ frames := 0, cells := 0, slots := 0, locals := 0 } : Room).cells ({ frames := 0, cells := 0, slots := 0, locals := 0 } : Room).slots) := by
  refine MetFree.of_bodySF (plainFor_of_name pn_214) hisR ?_
  intro p e s m args below meth c s₁ Bd hml0 hP hK
  obtain ⟨rfl, hZ, hh⟩ := hP
  have hx := Bd.exec
  have hby := Bd.bytes
  have hlk := Bd.notSynchronized
  have hml : c.maxLocals = 1 := hml0
  have hown : s.vm.findClass "com/example/sealwire/sealwire/Verification" = some m.cls := findClass_of_methodNamed Bd.named
  have hnm := (name_of_methodNamed Bd.named Bd.method).1
  have X0 : Stand p l e ({ frames := 0, cells := 0, slots := 0, locals := 0 } : Room) s m #[(.ref o0)] below meth c s₁ [] 0 0 := Stand.of_body Bd
  have e0 : s₁.heap = h0 := by rw [← hh, Bd.state]; rfl
  have N0 := Fr.nil n0
  change own_Go p e below s (Q_rmIA Z o0 q0 h0 n0) ({ frames := 0, cells := 0, slots := 0, locals := 0 } : Room).cells ({ frames := 0, cells := 0, slots := 0, locals := 0 } : Room).slots _
  refine own_go (S' := (s₁.setTop (mkF m 0 #[.val (.ref o0)] []))) (fun _ kont => castTop (ef_rmIA m o0) kont) ?_
  refine own_go (S' := (s₁.setTop (mkF m 1 #[.val (.ref o0)] [(.ref o0)]))) (fun _ kont => XS.aloadN X0.here hx rfl (hb hby d7_0) rfl rfl kont) ?_
  obtain ⟨T1, X1, e1, st1⟩ := getF X0 hx hZ hown (host := "") (Or.inl (hw _ (List.mem_of_getElem? (i := 44) rfl))) Via.refl e0 F_o0_error (g := (mkF m 1 #[.val (.ref o0)] [(.ref o0)])) rfl rfl (hb hby d7_1)
  refine own_go (S' := (T1.setTop (mkF m 4 #[.val (.ref o0)] [.null]))) st1 ?_
  refine own_go (S' := (T1.setTop (mkF m 12 #[.val (.ref o0)] [(.int (1 : Int32))]))) (fun _ kont => XS.ifnonnullNo X1.here hx rfl (hb hby d7_4) rfl (XS.iconst X1.here hx rfl (hb hby d7_7) (XS.goto X1.here hx rfl (pc0 := 8) (pc' := 12) rfl (hb hby d7_8) (by decide) (by decide) kont))) ?_
  refine own_retN (t := .boolean) X1 hx hlk (by simp) Bd.returns (hb hby d7_12) (by decide) (by decide) ?_
  exact ⟨by first | rfl | decide, e1, rfl⟩
theorem d5_8 : decode prog_44_method_1_code 8 = .ok (.iconst 1, 1) := by decide +kernel
theorem d5_9 : decode prog_44_method_1_code 9 = .ok (.goto 4, 3) := by decide +kernel
theorem d5_21 : decode prog_44_method_1_code 21 = .ok (.iconst 0, 1) := by decide +kernel
theorem ef_rmVE (m : MethodId) (x0 : Addr) (x2 : Addr) : entryFrame m #[(.ref x0), .null, (.ref x2)] 3 = mkF m 0 #[.val (.ref x0), .val .null, .val (.ref x2)] [] := by first | (simp [entryFrame, mkF, argsToLocals, Value.category]; done) | rfl
def Q_rmVE (Z : State) (o0 q0 : Addr) (h0 : Heap) (n0 : Nat) (v : Option Value) (h : Heap) (L : List Loc) : Prop := v = none ∧ Fr n0 L ∧ Keep h0 h [o0] ∧ Fld Z h o0 "com/example/sealwire/sealwire/Verification" "error" "Lcom/example/sealwire/sealwire/ErrorCode;" (.ref q0)
set_option maxRecDepth 65536 in
set_option maxHeartbeats 40000000 in
theorem rmVE (l : Launch) (Z : State) (a0 : Array Value) (hw : ∀ d ∈ tables_1, d.before a0 Z = true) (ws : List Jvm.Cond) (o0 q0 : Addr) (h0 : Heap) (n0 : Nat) (Z0 : n0 ≤ h0.size) (E_o0 : Exa Z h0 o0 "com/example/sealwire/sealwire/Verification") (F_o0_secretId : Fld Z h0 o0 "com/example/sealwire/sealwire/Verification" "secretId" "Ljava/lang/String;" .null) (F_o0_error : Fld Z h0 o0 "com/example/sealwire/sealwire/Verification" "error" "Lcom/example/sealwire/sealwire/ErrorCode;" .null) (g_o0 : n0 ≤ o0) :
    MetFree l (⟨"com/example/sealwire/sealwire/Verification", "<init>", "(Ljava/lang/String;Lcom/example/sealwire/sealwire/ErrorCode;)V"⟩ : MethodName) (head1 (Jvm.Cond.code (⟨"com/example/sealwire/sealwire/Verification", "<init>", "(Ljava/lang/String;Lcom/example/sealwire/sealwire/ErrorCode;)V"⟩ : MethodName) prog_44_method_1_code 3 none :: ws) ({ frames := 2, cells := 0, slots := 0, locals := 24 } : Room)) (fun a U => a = #[(.ref o0), .null, (.ref q0)] ∧ Z.Warmed39 U.vm ∧ U.heap = h0) (fun _ _ _ _ _ => True) (fun _ U o U' => ∃ v L, o = .returned v ∧ Q_rmVE Z o0 q0 h0 n0 v U'.heap L ∧ FrameEnd U o U' L ({ frames := 2, cells := 0, slots := 0, locals := 24 } : Room).cells ({ frames := 2, cells := 0, slots := 0, locals := 24 } : Room).slots) := by
  refine MetFree.of_bodySF (plainFor_of_name pn_214) hisR ?_
  intro p e s m args below meth c s₁ Bd hml0 hP hK
  obtain ⟨rfl, hZ, hh⟩ := hP
  have hx := Bd.exec
  have hby := Bd.bytes
  have hlk := Bd.notSynchronized
  have hml : c.maxLocals = 3 := hml0
  have hown : s.vm.findClass "com/example/sealwire/sealwire/Verification" = some m.cls := findClass_of_methodNamed Bd.named
  have hnm := (name_of_methodNamed Bd.named Bd.method).1
  have X0 : Stand p l e ({ frames := 2, cells := 0, slots := 0, locals := 24 } : Room) s m #[(.ref o0), .null, (.ref q0)] below meth c s₁ [] 0 0 := Stand.of_body Bd
  have e0 : s₁.heap = h0 := by rw [← hh, Bd.state]; rfl
  have N0 := Fr.nil n0
  change own_Go p e below s (Q_rmVE Z o0 q0 h0 n0) ({ frames := 2, cells := 0, slots := 0, locals := 24 } : Room).cells ({ frames := 2, cells := 0, slots := 0, locals := 24 } : Room).slots _
  refine own_go (S' := (s₁.setTop (mkF m 0 #[.val (.ref o0), .val .null, .val (.ref q0)] []))) (fun _ kont => castTop (ef_rmVE m o0 q0) kont) ?_
  have K0 := Keep.refl h0 [o0]
  refine own_go (S' := (s₁.setTop (mkF m 1 #[.val (.ref o0), .val .null, .val (.ref q0)] [(.ref o0)]))) (fun _ kont => XS.aloadN X0.here hx rfl (hb hby d5_0) rfl rfl kont) ?_
  obtain ⟨v1, _, ⟨T1, L1, k1, n1⟩, -, X1, ⟨Lc1, hQ1, l1, y1, z1⟩, st1⟩ := X0.specialBack hx (y := (⟨"java/lang/Record", "<init>", "()V"⟩ : MethodName)) rfl hown (mvT hZ (hw _ (List.mem_of_getElem? (i := 36) rfl))) (mvT hZ (hw _ (List.mem_of_getElem? (i := 37) rfl))) (mvT hZ (hw _ (List.mem_of_getElem? (i := 40) rfl))) (by decide) (backOf (W := 0) (rm6 l Z a0 hw [] o0 h0 n0 Z0) hZ (hw _ (List.mem_of_getElem? (i := 40) rfl)) (hw _ (List.mem_of_getElem? (i := 39) rfl)) (by decide) (by decide)) (g := (mkF m 1 #[.val (.ref o0), .val .null, .val (.ref q0)] [(.ref o0)])) rfl (by rw [hml]; rfl) (Steps.refl _) (a := o0) (argsL := []) (rest := []) (lenOf pd_198 rfl) rfl (by show 2 * 0 + _ ≤ _; exact Nat.le_of_eq rfl) (hb hby d5_1) (fun _ _ => ⟨rfl, e0, (by decide : 0 + 0 ≤ _), (by decide : 0 + 0 ≤ _)⟩)
  dsimp only [Pt.U, Pt.locs, Pt.cells, Pt.slots] at X1 l1 y1 z1 st1 hQ1
  subst l1 y1 z1
  obtain ⟨rfl, eh1, rfl⟩ := hQ1
  have N1 := Fr.app N0 (Fr.nil n0)
  refine own_goT (S' := (T1.setTop (mkF m 4 #[.val (.ref o0), .val .null, .val (.ref q0)] []))) st1 ?_
  refine own_go (S' := (T1.setTop (mkF m 35 #[.val (.ref o0), .val .null, .val (.ref q0)] []))) (fun _ kont => XS.aloadN X1.here hx rfl (hb hby d5_4) rfl rfl (XS.ifnonnullNo X1.here hx rfl (hb hby d5_5) rfl (XS.iconst X1.here hx rfl (hb hby d5_8) (XS.goto X1.here hx rfl (pc0 := 9) (pc' := 13) rfl (hb hby d5_9) (by decide) (by decide) (XS.aloadN X1.here hx rfl (hb hby d5_13) rfl rfl (XS.ifnonnullYes X1.here hx rfl (pc0 := 14) (pc' := 21) rfl (hb hby d5_14) rfl (by decide) (by decide) (XS.iconst X1.here hx rfl (hb hby d5_21) (XS.icmpYes X1.here hx rfl (pc0 := 22) (pc' := 35) rfl (hb hby d5_22) rfl (feq (by decide)).2 (by decide) (by decide) kont)))))))) ?_
  refine own_go (S' := (T1.setTop (mkF m 37 #[.val (.ref o0), .val .null, .val (.ref q0)] [.null, (.ref o0)]))) (fun _ kont => XS.aloadN X1.here hx rfl (hb hby d5_35) rfl rfl (XS.aloadN X1.here hx rfl (hb hby d5_36) rfl rfl kont)) ?_
  obtain ⟨T2, h2, X2, e2, W2, st2⟩ := putF X1 hx hZ hown (host := "") (Or.inl (hw _ (List.mem_of_getElem? (i := 42) rfl))) Via.refl eh1 F_o0_secretId E_o0 (Or.inr ⟨(hw _ (List.mem_of_getElem? (i := 43) rfl)), rfl, hnm⟩) (hw _ (List.mem_of_getElem? (i := 31) rfl)) (ty := (.object "java/lang/String")) (by decide) rfl rfl (g := (mkF m 37 #[.val (.ref o0), .val .null, .val (.ref q0)] [.null, (.ref o0)])) rfl rfl (hb hby d5_37)
  have c2_Eo0 := E_o0.wr W2
  have c2_Fo0_secretId := F_o0_secretId.same W2
  have c2_Fo0_error := F_o0_error.other W2 (Or.inr (slot_ne (Or.inr (hw _ (List.mem_of_getElem? (i := 45) rfl))) (Or.inr (hw _ (List.mem_of_getElem? (i := 43) rfl))) (by decide) (by decide : parseFieldDescriptor "Lcom/example/sealwire/sealwire/ErrorCode;" = some (.object "com/example/sealwire/sealwire/ErrorCode")) (by decide : parseFieldDescriptor "Ljava/lang/String;" = some (.object "java/lang/String"))))
  have K2 := K0.wr W2 (Or.inl (List.mem_of_getElem? (i := 0) rfl))
  have N2 := Fr.snoc X2 N1 g_o0
  have Z2 : n0 ≤ h2.size := Nat.le_trans Z0 (Nat.le_of_eq W2.size.symm)
  refine own_go (S' := (T2.setTop (mkF m 40 #[.val (.ref o0), .val .null, .val (.ref q0)] []))) st2 ?_
  refine own_go (S' := (T2.setTop (mkF m 42 #[.val (.ref o0), .val .null, .val (.ref q0)] [(.ref q0), (.ref o0)]))) (fun _ kont => XS.aloadN X2.here hx rfl (hb hby d5_40) rfl rfl (XS.aloadN X2.here hx rfl (hb hby d5_41) rfl rfl kont)) ?_
  obtain ⟨T3, h3, X3, e3, W3, st3⟩ := putF X2 hx hZ hown (host := "") (Or.inl (hw _ (List.mem_of_getElem? (i := 44) rfl))) Via.refl e2 c2_Fo0_error c2_Eo0 (Or.inr ⟨(hw _ (List.mem_of_getElem? (i := 45) rfl)), rfl, hnm⟩) (hw _ (List.mem_of_getElem? (i := 31) rfl)) (ty := (.object "com/example/sealwire/sealwire/ErrorCode")) (by decide) rfl rfl (g := (mkF m 42 #[.val (.ref o0), .val .null, .val (.ref q0)] [(.ref q0), (.ref o0)])) rfl rfl (hb hby d5_42)
  have c3_Eo0 := c2_Eo0.wr W3
  have c3_Fo0_secretId := c2_Fo0_secretId.other W3 (Or.inr (slot_ne (Or.inr (hw _ (List.mem_of_getElem? (i := 43) rfl))) (Or.inr (hw _ (List.mem_of_getElem? (i := 45) rfl))) (by decide) (by decide : parseFieldDescriptor "Ljava/lang/String;" = some (.object "java/lang/String")) (by decide : parseFieldDescriptor "Lcom/example/sealwire/sealwire/ErrorCode;" = some (.object "com/example/sealwire/sealwire/ErrorCode"))))
  have c3_Fo0_error := c2_Fo0_error.same W3
  have K3 := K2.wr W3 (Or.inl (List.mem_of_getElem? (i := 0) rfl))
  have N3 := Fr.snoc X3 N2 g_o0
  have Z3 : n0 ≤ h3.size := Nat.le_trans Z2 (Nat.le_of_eq W3.size.symm)
  refine own_go (S' := (T3.setTop (mkF m 45 #[.val (.ref o0), .val .null, .val (.ref q0)] []))) st3 ?_
  refine own_ret0 X3 hx hlk Bd.returns (hb hby d5_45) (by decide) (by decide) ?_
  rw [e3]
  exact ⟨rfl, N3, K3, c3_Fo0_error⟩
theorem d7_11 : decode prog_44_method_4_code 11 = .ok (.iconst 0, 1) := by decide +kernel
theorem ef_rmIE (m : MethodId) (x0 : Addr) : entryFrame m #[(.ref x0)] 1 = mkF m 0 #[.val (.ref x0)] [] := by first | (simp [entryFrame, mkF, argsToLocals, Value.category]; done) | rfl
def Q_rmIE (Z : State) (o0 q0 : Addr) (h0 : Heap) (n0 : Nat) (v : Option Value) (h : Heap) (L : List Loc) : Prop := v = some (.int 0) ∧ h = h0 ∧ L = []
set_option maxRecDepth 65536 in
set_option maxHeartbeats 40000000 in
theorem rmIE (l : Launch) (Z : State) (a0 : Array Value) (hw : ∀ d ∈ tables_1, d.before a0 Z = true) (ws : List Jvm.Cond) (o0 q0 : Addr) (h0 : Heap) (n0 : Nat) (Z0 : n0 ≤ h0.size) (F_o0_error : Fld Z h0 o0 "com/example/sealwire/sealwire/Verification" "error" "Lcom/example/sealwire/sealwire/ErrorCode;" (.ref q0)) :
    MetFree l (⟨"com/example/sealwire/sealwire/Verification", "isAccepted", "()Z"⟩ : MethodName) (head1 (Jvm.Cond.code (⟨"com/example/sealwire/sealwire/Verification", "isAccepted", "()Z"⟩ : MethodName) prog_44_method_4_code 1 (some .boolean) :: ws) ({ frames := 0, cells := 0, slots := 0, locals := 0 } : Room)) (fun a U => a = #[(.ref o0)] ∧ Z.Warmed39 U.vm ∧ U.heap = h0) (fun _ _ _ _ _ => True) (fun _ U o U' => ∃ v L, o = .returned v ∧ Q_rmIE Z o0 q0 h0 n0 v U'.heap L ∧ FrameEnd U o U' L ({ frames := 0, cells := 0, slots := 0, locals := 0 } : Room).cells ({ frames := 0, cells := 0, slots := 0, locals := 0 } : Room).slots) := by
  refine MetFree.of_bodySF (plainFor_of_name pn_214) hisR ?_
  intro p e s m args below meth c s₁ Bd hml0 hP hK
  obtain ⟨rfl, hZ, hh⟩ := hP
  have hx := Bd.exec
  have hby := Bd.bytes
  have hlk := Bd.notSynchronized
  have hml : c.maxLocals = 1 := hml0
  have hown : s.vm.findClass "com/example/sealwire/sealwire/Verification" = some m.cls := findClass_of_methodNamed Bd.named
  have hnm := (name_of_methodNamed Bd.named Bd.method).1
  have X0 : Stand p l e ({ frames := 0, cells := 0, slots := 0, locals := 0 } : Room) s m #[(.ref o0)] below meth c s₁ [] 0 0 := Stand.of_body Bd
  have e0 : s₁.heap = h0 := by rw [← hh, Bd.state]; rfl
  have N0 := Fr.nil n0
  change own_Go p e below s (Q_rmIE Z o0 q0 h0 n0) ({ frames := 0, cells := 0, slots := 0, locals := 0 } : Room).cells ({ frames := 0, cells := 0, slots := 0, locals := 0 } : Room).slots _
  refine own_go (S' := (s₁.setTop (mkF m 0 #[.val (.ref o0)] []))) (fun _ kont => castTop (ef_rmIE m o0) kont) ?_
  refine own_go (S' := (s₁.setTop (mkF m 1 #[.val (.ref o0)] [(.ref o0)]))) (fun _ kont => XS.aloadN X0.here hx rfl (hb hby d7_0) rfl rfl kont) ?_
  obtain ⟨T1, X1, e1, st1⟩ := getF X0 hx hZ hown (host := "") (Or.inl (hw _ (List.mem_of_getElem? (i := 44) rfl))) Via.refl e0 F_o0_error (g := (mkF m 1 #[.val (.ref o0)] [(.ref o0)])) rfl rfl (hb hby d7_1)
  refine own_go (S' := (T1.setTop (mkF m 4 #[.val (.ref o0)] [(.ref q0)]))) st1 ?_
  refine own_go (S' := (T1.setTop (mkF m 12 #[.val (.ref o0)] [(.int (0 : Int32))]))) (fun _ kont => XS.ifnonnullYes X1.here hx rfl (pc0 := 4) (pc' := 11) rfl (hb hby d7_4) rfl (by decide) (by decide) (XS.iconst X1.here hx rfl (hb hby d7_11) kont)) ?_
  refine own_retN (t := .boolean) X1 hx hlk (by simp) Bd.returns (hb hby d7_12) (by decide) (by decide) ?_
  exact ⟨by first | rfl | decide, e1, rfl⟩
theorem pd_225 : parseMethodDescriptor "(I)Lcom/example/sealwire/sealwire/ErrorCode;" = some ⟨[.int], some (.object "com/example/sealwire/sealwire/ErrorCode")⟩ := by decide +kernel
theorem pd_226 : parseMethodDescriptor "(Ljava/lang/String;Lcom/example/sealwire/sealwire/ErrorCode;)V" = some ⟨[(.object "java/lang/String"), (.object "com/example/sealwire/sealwire/ErrorCode")], none⟩ := by decide +kernel
theorem pd_227 : parseMethodDescriptor "()Z" = some ⟨[], some .boolean⟩ := by decide +kernel
theorem pd_228 : parseMethodDescriptor "([C)V" = some ⟨[(.array .char)], none⟩ := by decide +kernel
theorem ef_rm0 (m : MethodId) (x0 : Int32) (x1 : Int32) (x2 : Int32) (x3 : Int32) : entryFrame m #[(.int x0), (.int x1), (.int x2), (.int x3)] maxLocals = mkF m 0 #[.val (.int x0), .val (.int x1), .val (.int x2), .val (.int x3), .unset, .unset, .unset, .unset, .unset, .unset, .unset] [] := by first | (simp [entryFrame, mkF, argsToLocals, Value.category, maxLocals]; done) | rfl
def Q_rm0 (Z : State) (i0 i1 i2 i3 zc : Int32) (a_MISSING_PARAMETER a_NO_SUCH_VERSION a_SIGNATURE_FAILURE a_INVALID_AUTHORIZATION a_REQUEST_SIZE_LIMIT_EXCEEDED a_UNSUPPORTED_PROTOCOL a_IDENTITY_NOT_EXIST a_IDENTITY_KEY_ERROR a_INVALID_PARAMETER a_IDENTITY_URL_ERROR a_PARAMETER_VALUE a_UNKNOWN_PARAMETER a_RECORD_NOT_EXISTS a_IDENTITY_FULL a_INVALID_PARAMETER_VALUE a_TOKEN_FAILURE a_INVALID_ACTION a_INTERNAL_ERROR a_SECRET_ID_NOT_FOUND a_SIGNATURE_EXPIRE : Addr) (h0 : Heap) (n0 : Nat) (v : Option Value) (h : Heap) (L : List Loc) : Prop := v = some (.int 1) ∧ Fr n0 L
set_option maxRecDepth 65536 in
set_option maxHeartbeats 40000000 in
theorem rm0 (l : Launch) (Z : State) (a0 : Array Value) (hw : ∀ d ∈ tables_1, d.before a0 Z = true) (ws : List Jvm.Cond) (i0 i1 i2 i3 zc : Int32) (a_MISSING_PARAMETER a_NO_SUCH_VERSION a_SIGNATURE_FAILURE a_INVALID_AUTHORIZATION a_REQUEST_SIZE_LIMIT_EXCEEDED a_UNSUPPORTED_PROTOCOL a_IDENTITY_NOT_EXIST a_IDENTITY_KEY_ERROR a_INVALID_PARAMETER a_IDENTITY_URL_ERROR a_PARAMETER_VALUE a_UNKNOWN_PARAMETER a_RECORD_NOT_EXISTS a_IDENTITY_FULL a_INVALID_PARAMETER_VALUE a_TOKEN_FAILURE a_INVALID_ACTION a_INTERNAL_ERROR a_SECRET_ID_NOT_FOUND a_SIGNATURE_EXPIRE : Addr) (h0 : Heap) (n0 : Nat) (Z0 : n0 ≤ h0.size) (S_MISSING_PARAMETER : Sta Z h0 "com/example/sealwire/sealwire/ErrorCode" "MISSING_PARAMETER" "Lcom/example/sealwire/sealwire/ErrorCode;" (.ref a_MISSING_PARAMETER)) (S_NO_SUCH_VERSION : Sta Z h0 "com/example/sealwire/sealwire/ErrorCode" "NO_SUCH_VERSION" "Lcom/example/sealwire/sealwire/ErrorCode;" (.ref a_NO_SUCH_VERSION)) (S_SIGNATURE_FAILURE : Sta Z h0 "com/example/sealwire/sealwire/ErrorCode" "SIGNATURE_FAILURE" "Lcom/example/sealwire/sealwire/ErrorCode;" (.ref a_SIGNATURE_FAILURE)) (S_INVALID_AUTHORIZATION : Sta Z h0 "com/example/sealwire/sealwire/ErrorCode" "INVALID_AUTHORIZATION" "Lcom/example/sealwire/sealwire/ErrorCode;" (.ref a_INVALID_AUTHORIZATION)) (S_REQUEST_SIZE_LIMIT_EXCEEDED : Sta Z h0 "com/example/sealwire/sealwire/ErrorCode" "REQUEST_SIZE_LIMIT_EXCEEDED" "Lcom/example/sealwire/sealwire/ErrorCode;" (.ref a_REQUEST_SIZE_LIMIT_EXCEEDED)) (S_UNSUPPORTED_PROTOCOL : Sta Z h0 "com/example/sealwire/sealwire/ErrorCode" "UNSUPPORTED_PROTOCOL" "Lcom/example/sealwire/sealwire/ErrorCode;" (.ref a_UNSUPPORTED_PROTOCOL)) (S_IDENTITY_NOT_EXIST : Sta Z h0 "com/example/sealwire/sealwire/ErrorCode" "IDENTITY_NOT_EXIST" "Lcom/example/sealwire/sealwire/ErrorCode;" (.ref a_IDENTITY_NOT_EXIST)) (S_IDENTITY_KEY_ERROR : Sta Z h0 "com/example/sealwire/sealwire/ErrorCode" "IDENTITY_KEY_ERROR" "Lcom/example/sealwire/sealwire/ErrorCode;" (.ref a_IDENTITY_KEY_ERROR)) (S_INVALID_PARAMETER : Sta Z h0 "com/example/sealwire/sealwire/ErrorCode" "INVALID_PARAMETER" "Lcom/example/sealwire/sealwire/ErrorCode;" (.ref a_INVALID_PARAMETER)) (S_IDENTITY_URL_ERROR : Sta Z h0 "com/example/sealwire/sealwire/ErrorCode" "IDENTITY_URL_ERROR" "Lcom/example/sealwire/sealwire/ErrorCode;" (.ref a_IDENTITY_URL_ERROR)) (S_PARAMETER_VALUE : Sta Z h0 "com/example/sealwire/sealwire/ErrorCode" "PARAMETER_VALUE" "Lcom/example/sealwire/sealwire/ErrorCode;" (.ref a_PARAMETER_VALUE)) (S_UNKNOWN_PARAMETER : Sta Z h0 "com/example/sealwire/sealwire/ErrorCode" "UNKNOWN_PARAMETER" "Lcom/example/sealwire/sealwire/ErrorCode;" (.ref a_UNKNOWN_PARAMETER)) (S_RECORD_NOT_EXISTS : Sta Z h0 "com/example/sealwire/sealwire/ErrorCode" "RECORD_NOT_EXISTS" "Lcom/example/sealwire/sealwire/ErrorCode;" (.ref a_RECORD_NOT_EXISTS)) (S_IDENTITY_FULL : Sta Z h0 "com/example/sealwire/sealwire/ErrorCode" "IDENTITY_FULL" "Lcom/example/sealwire/sealwire/ErrorCode;" (.ref a_IDENTITY_FULL)) (S_INVALID_PARAMETER_VALUE : Sta Z h0 "com/example/sealwire/sealwire/ErrorCode" "INVALID_PARAMETER_VALUE" "Lcom/example/sealwire/sealwire/ErrorCode;" (.ref a_INVALID_PARAMETER_VALUE)) (S_TOKEN_FAILURE : Sta Z h0 "com/example/sealwire/sealwire/ErrorCode" "TOKEN_FAILURE" "Lcom/example/sealwire/sealwire/ErrorCode;" (.ref a_TOKEN_FAILURE)) (S_INVALID_ACTION : Sta Z h0 "com/example/sealwire/sealwire/ErrorCode" "INVALID_ACTION" "Lcom/example/sealwire/sealwire/ErrorCode;" (.ref a_INVALID_ACTION)) (S_INTERNAL_ERROR : Sta Z h0 "com/example/sealwire/sealwire/ErrorCode" "INTERNAL_ERROR" "Lcom/example/sealwire/sealwire/ErrorCode;" (.ref a_INTERNAL_ERROR)) (S_SECRET_ID_NOT_FOUND : Sta Z h0 "com/example/sealwire/sealwire/ErrorCode" "SECRET_ID_NOT_FOUND" "Lcom/example/sealwire/sealwire/ErrorCode;" (.ref a_SECRET_ID_NOT_FOUND)) (S_SIGNATURE_EXPIRE : Sta Z h0 "com/example/sealwire/sealwire/ErrorCode" "SIGNATURE_EXPIRE" "Lcom/example/sealwire/sealwire/ErrorCode;" (.ref a_SIGNATURE_EXPIRE)) (S_C : Sta Z h0 "java/lang/String" "COMPACT_STRINGS" "Z" (.int zc)) (hzc : ¬ zc = (0 : Int32)) (hcw : Jvm.Lit.compactW.before a0 Z = true) (hlit : Jvm.Lit.constHeld Z "java/lang/String" 7) (hkp : ∀ (b : Addr) (cl : Cell), Z.heap[b]? = some cl → h0[b]? = some cl) (hn0 : n0 = h0.size) (hzh : Z.heap = h0) :
    MetFree l x (head1 (Jvm.Cond.code x code maxLocals ret :: ws) room_1) (fun a U => a = #[(.int i0), (.int i1), (.int i2), (.int i3)] ∧ Z.Warmed39 U.vm ∧ U.heap = h0 ∧ U.vm.interned = Z.vm.interned) (fun _ _ _ _ _ => True) (fun _ U o U' => ∃ v L, o = .returned v ∧ Q_rm0 Z i0 i1 i2 i3 zc a_MISSING_PARAMETER a_NO_SUCH_VERSION a_SIGNATURE_FAILURE a_INVALID_AUTHORIZATION a_REQUEST_SIZE_LIMIT_EXCEEDED a_UNSUPPORTED_PROTOCOL a_IDENTITY_NOT_EXIST a_IDENTITY_KEY_ERROR a_INVALID_PARAMETER a_IDENTITY_URL_ERROR a_PARAMETER_VALUE a_UNKNOWN_PARAMETER a_RECORD_NOT_EXISTS a_IDENTITY_FULL a_INVALID_PARAMETER_VALUE a_TOKEN_FAILURE a_INVALID_ACTION a_INTERNAL_ERROR a_SECRET_ID_NOT_FOUND a_SIGNATURE_EXPIRE h0 n0 v U'.heap L ∧ ReturnedEndW U o U' L room_1.cells room_1.slots) := by
  refine MetFree.of_bodySF (plainFor_of_name pn_191) hisR ?_
  intro p e s m args below meth c s₁ Bd hml0 hP hK
  obtain ⟨rfl, hZ, hh, hI⟩ := hP
  have hx := Bd.exec
  have hby := Bd.bytes
  have hlk := Bd.notSynchronized
  have hml : c.maxLocals = 11 := hml0
  have hown : s.vm.findClass "com/example/sealwire/sealwire/VerificationIsAcceptedPinLaw" = some m.cls := findClass_of_methodNamed Bd.named
  have hnm := (name_of_methodNamed Bd.named Bd.method).1
  have X0 : Stand p l e room_1 s m #[(.int i0), (.int i1), (.int i2), (.int i3)] below meth c s₁ [] 0 0 := Stand.of_body Bd
  have e0 : s₁.heap = h0 := by rw [← hh, Bd.state]; rfl
  have N0 := Fr.nil n0
  change own_GoW p e below s (Q_rm0 Z i0 i1 i2 i3 zc a_MISSING_PARAMETER a_NO_SUCH_VERSION a_SIGNATURE_FAILURE a_INVALID_AUTHORIZATION a_REQUEST_SIZE_LIMIT_EXCEEDED a_UNSUPPORTED_PROTOCOL a_IDENTITY_NOT_EXIST a_IDENTITY_KEY_ERROR a_INVALID_PARAMETER a_IDENTITY_URL_ERROR a_PARAMETER_VALUE a_UNKNOWN_PARAMETER a_RECORD_NOT_EXISTS a_IDENTITY_FULL a_INVALID_PARAMETER_VALUE a_TOKEN_FAILURE a_INVALID_ACTION a_INTERNAL_ERROR a_SECRET_ID_NOT_FOUND a_SIGNATURE_EXPIRE h0 n0) room_1.cells room_1.slots _
  refine own_goW (S' := (s₁.setTop (mkF m 0 #[.val (.int i0), .val (.int i1), .val (.int i2), .val (.int i3), .unset, .unset, .unset, .unset, .unset, .unset, .unset] []))) (fun _ kont => castTop (ef_rm0 m i0 i1 i2 i3) kont) ?_
  have K82 : ∀ (ac ne : Int32) (hac : ac = 0 ∨ ac = 1) (Tk : State) (lk : List Loc) (vk : Vm) (nk : Nat) (b6 b7 b8 : Addr) (Xk : Stand p l e room_1 (s.setVm vk) m #[(.int i0), (.int i1), (.int i2), (.int i3)] below meth c Tk lk 5 10) (hS : s.Since vk nk) (hnk : nk ≤ Tk.heap.size) (hZ : Z.Warmed39 (s.setVm vk).vm) (hown : (s.setVm vk).vm.findClass "com/example/sealwire/sealwire/VerificationIsAcceptedPinLaw" = some m.cls) (Zk : n0 ≤ Tk.heap.size) (Nk : Fr n0 lk), own_GoW p e below s (Q_rm0 Z i0 i1 i2 i3 zc a_MISSING_PARAMETER a_NO_SUCH_VERSION a_SIGNATURE_FAILURE a_INVALID_AUTHORIZATION a_REQUEST_SIZE_LIMIT_EXCEEDED a_UNSUPPORTED_PROTOCOL a_IDENTITY_NOT_EXIST a_IDENTITY_KEY_ERROR a_INVALID_PARAMETER a_IDENTITY_URL_ERROR a_PARAMETER_VALUE a_UNKNOWN_PARAMETER a_RECORD_NOT_EXISTS a_IDENTITY_FULL a_INVALID_PARAMETER_VALUE a_TOKEN_FAILURE a_INVALID_ACTION a_INTERNAL_ERROR a_SECRET_ID_NOT_FOUND a_SIGNATURE_EXPIRE h0 n0) room_1.cells room_1.slots (Tk.setTop (mkF m 82 #[.val (.int i0), .val (.int i1), .val (.int i2), .val (.int i3), .val (.int ac), .val (.int ne), .val (.ref b6), .val (.ref b7), .unset, .unset, .unset] [.ref b8])) := by
    intro ac ne hac Tk lk vk nk b6 b7 b8 Xk hS hnk hZ hown Zk Nk
    have Nsk : Fr (s.setVm vk).heap.size lk := by show Fr s.heap.size lk; rw [hh, ← hn0]; exact Nk
    have Ek : Ext h0 Tk.heap := ⟨by rw [← hn0]; exact Zk, fun b cl q => oldF Xk Nsk b cl (by show s.heap[b]? = some cl; rw [hh]; exact q)⟩
    have S_MISSING_PARAMETER := S_MISSING_PARAMETER.ext Ek
    have S_NO_SUCH_VERSION := S_NO_SUCH_VERSION.ext Ek
    have S_SIGNATURE_FAILURE := S_SIGNATURE_FAILURE.ext Ek
    have S_INVALID_AUTHORIZATION := S_INVALID_AUTHORIZATION.ext Ek
    have S_REQUEST_SIZE_LIMIT_EXCEEDED := S_REQUEST_SIZE_LIMIT_EXCEEDED.ext Ek
    have S_UNSUPPORTED_PROTOCOL := S_UNSUPPORTED_PROTOCOL.ext Ek
    have S_IDENTITY_NOT_EXIST := S_IDENTITY_NOT_EXIST.ext Ek
    have S_IDENTITY_KEY_ERROR := S_IDENTITY_KEY_ERROR.ext Ek
    have S_INVALID_PARAMETER := S_INVALID_PARAMETER.ext Ek
    have S_IDENTITY_URL_ERROR := S_IDENTITY_URL_ERROR.ext Ek
    have S_PARAMETER_VALUE := S_PARAMETER_VALUE.ext Ek
    have S_UNKNOWN_PARAMETER := S_UNKNOWN_PARAMETER.ext Ek
    have S_RECORD_NOT_EXISTS := S_RECORD_NOT_EXISTS.ext Ek
    have S_IDENTITY_FULL := S_IDENTITY_FULL.ext Ek
    have S_INVALID_PARAMETER_VALUE := S_INVALID_PARAMETER_VALUE.ext Ek
    have S_TOKEN_FAILURE := S_TOKEN_FAILURE.ext Ek
    have S_INVALID_ACTION := S_INVALID_ACTION.ext Ek
    have S_INTERNAL_ERROR := S_INTERNAL_ERROR.ext Ek
    have S_SECRET_ID_NOT_FOUND := S_SECRET_ID_NOT_FOUND.ext Ek
    have S_SIGNATURE_EXPIRE := S_SIGNATURE_EXPIRE.ext Ek
    refine own_goW (S' := (Tk.setTop (mkF m 85 #[.val (.int i0), .val (.int i1), .val (.int i2), .val (.int i3), .val (.int ac), .val (.int ne), .val (.ref b6), .val (.ref b7), .val (.ref b8), .unset, .unset] [(.int i3)]))) (fun _ kont => XS.astore Xk.here hx rfl (hb hby at_82) rfl rfl (l' := #[.val (.int i0), .val (.int i1), .val (.int i2), .val (.int i3), .val (.int ac), .val (.int ne), .val (.ref b6), .val (.ref b7), .val (.ref b8), .unset, .unset]) rfl (XS.iloadN Xk.here hx rfl (hb hby at_84) rfl kont)) ?_
    obtain ⟨v1, _, ⟨T1, L1, k1, n1⟩, -, X1, ⟨Lc1, hQ1, l1, y1, z1⟩, st1⟩ := Jvm.LawKit.callS Xk hx (y := (⟨"com/example/sealwire/sealwire/VerificationIsAcceptedPinLaw", "pick", "(I)Lcom/example/sealwire/sealwire/ErrorCode;"⟩ : MethodName)) hown (mvT hZ (hw _ (List.mem_of_getElem? (i := 22) rfl))) (mvT hZ (hw _ (List.mem_of_getElem? (i := 23) rfl))) (mvT hZ (hw _ (List.mem_of_getElem? (i := 24) rfl))) (mvT hZ (hw _ (List.mem_of_getElem? (i := 25) rfl))) (by decide) (backOf (W := 0) (rm4 l Z a0 hw [] i3 a_MISSING_PARAMETER a_NO_SUCH_VERSION a_SIGNATURE_FAILURE a_INVALID_AUTHORIZATION a_REQUEST_SIZE_LIMIT_EXCEEDED a_UNSUPPORTED_PROTOCOL a_IDENTITY_NOT_EXIST a_IDENTITY_KEY_ERROR a_INVALID_PARAMETER a_IDENTITY_URL_ERROR a_PARAMETER_VALUE a_UNKNOWN_PARAMETER a_RECORD_NOT_EXISTS a_IDENTITY_FULL a_INVALID_PARAMETER_VALUE a_TOKEN_FAILURE a_INVALID_ACTION a_INTERNAL_ERROR a_SECRET_ID_NOT_FOUND a_SIGNATURE_EXPIRE Tk.heap n0 Zk S_MISSING_PARAMETER S_NO_SUCH_VERSION S_SIGNATURE_FAILURE S_INVALID_AUTHORIZATION S_REQUEST_SIZE_LIMIT_EXCEEDED S_UNSUPPORTED_PROTOCOL S_IDENTITY_NOT_EXIST S_IDENTITY_KEY_ERROR S_INVALID_PARAMETER S_IDENTITY_URL_ERROR S_PARAMETER_VALUE S_UNKNOWN_PARAMETER S_RECORD_NOT_EXISTS S_IDENTITY_FULL S_INVALID_PARAMETER_VALUE S_TOKEN_FAILURE S_INVALID_ACTION S_INTERNAL_ERROR S_SECRET_ID_NOT_FOUND S_SIGNATURE_EXPIRE) hZ (hw _ (List.mem_of_getElem? (i := 25) rfl)) (hw _ (List.mem_of_getElem? (i := 24) rfl)) (by decide) (by decide)) (g := (mkF m 85 #[.val (.int i0), .val (.int i1), .val (.int i2), .val (.int i3), .val (.int ac), .val (.int ne), .val (.ref b6), .val (.ref b7), .val (.ref b8), .unset, .unset] [(.int i3)])) rfl (by rw [hml]; rfl) (argsL := [(.int i3)]) (rest := []) (lenOf pd_225 rfl) rfl (by show 2 * 0 + _ ≤ _; exact Nat.le_of_eq rfl) (hb hby at_85) (fun _ _ => ⟨rfl, rfl, (by decide : 5 + 0 ≤ _), (by decide : 10 + 0 ≤ _)⟩)
    dsimp only [Pt.U, Pt.locs, Pt.cells, Pt.slots] at X1 l1 y1 z1 st1 hQ1
    subst l1 y1 z1
    obtain ⟨ea1, rfl, eh1, rfl⟩ := hQ1
    have N1 := Fr.app Nk (Fr.nil n0)
    refine own_goW (S' := (T1.setTop (mkF m 88 #[.val (.int i0), .val (.int i1), .val (.int i2), .val (.int i3), .val (.int ac), .val (.int ne), .val (.ref b6), .val (.ref b7), .val (.ref b8), .unset, .unset] [(.ref ea1)]))) st1 ?_
    refine own_goW (S' := (T1.setTop (mkF m 92 #[.val (.int i0), .val (.int i1), .val (.int i2), .val (.int i3), .val (.int ac), .val (.int ne), .val (.ref b6), .val (.ref b7), .val (.ref b8), .val (.ref ea1), .unset] [(.int ac)]))) (fun _ kont => XS.astore X1.here hx rfl (hb hby at_88) rfl rfl (l' := #[.val (.int i0), .val (.int i1), .val (.int i2), .val (.int i3), .val (.int ac), .val (.int ne), .val (.ref b6), .val (.ref b7), .val (.ref b8), .val (.ref ea1), .unset]) rfl (XS.iload X1.here hx rfl (hb hby at_90) rfl kont)) ?_
    rcases hac with rfl | rfl
    · refine own_goW (S' := (T1.setTop (mkF m 110 #[.val (.int i0), .val (.int i1), .val (.int i2), .val (.int i3), .val (.int (0 : Int32)), .val (.int ne), .val (.ref b6), .val (.ref b7), .val (.ref b8), .val (.ref ea1), .unset] []))) (fun _ kont => XS.ifYes X1.here hx rfl (pc0 := 92) (pc' := 110) rfl (hb hby at_92) rfl ((if0 _ _).trans (teq (by decide)).1) (by decide) (by decide) kont) ?_
      obtain ⟨T2, h2, X2, e2, E2, A2, D2, -, st2⟩ := newO X1 hx hZ hown (hw _ (List.mem_of_getElem? (i := 30) rfl)) (hw _ (List.mem_of_getElem? (i := 31) rfl)) (hw _ (List.mem_of_getElem? (i := 32) rfl)) eh1 (g := (mkF m 110 #[.val (.int i0), .val (.int i1), .val (.int i2), .val (.int i3), .val (.int (0 : Int32)), .val (.int ne), .val (.ref b6), .val (.ref b7), .val (.ref b8), .val (.ref ea1), .unset] [])) rfl (hb hby at_110) (by decide) (by decide)
      obtain ⟨b2, gz2⟩ : ∃ z, z = Tk.heap.size := ⟨_, rfl⟩
      rw [← gz2] at A2 D2 st2
      have g_b2 : n0 ≤ b2 := Nat.le_trans Zk (Nat.le_of_eq gz2.symm)
      have F2_secretId : Fld Z h2 b2 "com/example/sealwire/sealwire/Verification" "secretId" "Ljava/lang/String;" .null := D2 (Or.inr (hw _ (List.mem_of_getElem? (i := 43) rfl))) (ty := (.object "java/lang/String")) (by decide)
      have F2_error : Fld Z h2 b2 "com/example/sealwire/sealwire/Verification" "error" "Lcom/example/sealwire/sealwire/ErrorCode;" .null := D2 (Or.inr (hw _ (List.mem_of_getElem? (i := 45) rfl))) (ty := (.object "com/example/sealwire/sealwire/ErrorCode")) (by decide)
      have Z2 : n0 ≤ h2.size := Nat.le_trans Zk E2.1
      have M2 : nk ≤ h2.size := Nat.le_trans hnk E2.1
      refine own_goW (S' := (T2.setTop (mkF m 113 #[.val (.int i0), .val (.int i1), .val (.int i2), .val (.int i3), .val (.int (0 : Int32)), .val (.int ne), .val (.ref b6), .val (.ref b7), .val (.ref b8), .val (.ref ea1), .unset] [(.ref b2)]))) st2 ?_
      refine own_goW (S' := (T2.setTop (mkF m 117 #[.val (.int i0), .val (.int i1), .val (.int i2), .val (.int i3), .val (.int (0 : Int32)), .val (.int ne), .val (.ref b6), .val (.ref b7), .val (.ref b8), .val (.ref ea1), .unset] [(.ref ea1), .null, (.ref b2), (.ref b2)]))) (fun _ kont => XS.dup X2.here hx rfl (hb hby at_113) rfl rfl (XS.aconstNull X2.here hx rfl (hb hby at_114) (XS.aload X2.here hx rfl (hb hby at_115) rfl rfl kont))) ?_
      obtain ⟨v3, _, ⟨T3, L3, k3, n3⟩, -, X3, ⟨Lc3, hQ3, l3, y3, z3⟩, st3⟩ := X2.specialBack hx (y := (⟨"com/example/sealwire/sealwire/Verification", "<init>", "(Ljava/lang/String;Lcom/example/sealwire/sealwire/ErrorCode;)V"⟩ : MethodName)) rfl hown (mvT hZ (hw _ (List.mem_of_getElem? (i := 33) rfl))) (mvT hZ (hw _ (List.mem_of_getElem? (i := 34) rfl))) (mvT hZ (hw _ (List.mem_of_getElem? (i := 35) rfl))) (by decide) (backOf (W := 1) (rmVE l Z a0 hw [] b2 ea1 h2 n0 Z2 A2 F2_secretId F2_error g_b2) hZ (hw _ (List.mem_of_getElem? (i := 35) rfl)) (hw _ (List.mem_of_getElem? (i := 32) rfl)) (by decide) (by decide)) (g := (mkF m 117 #[.val (.int i0), .val (.int i1), .val (.int i2), .val (.int i3), .val (.int (0 : Int32)), .val (.int ne), .val (.ref b6), .val (.ref b7), .val (.ref b8), .val (.ref ea1), .unset] [(.ref ea1), .null, (.ref b2), (.ref b2)])) rfl (by rw [hml]; rfl) (Steps.refl _) (a := b2) (argsL := [.null, (.ref ea1)]) (rest := [(.ref b2)]) (lenOf pd_226 rfl) rfl (by show 2 * 0 + _ ≤ _; exact Nat.le_of_eq rfl) (hb hby at_117) (fun _ _ => ⟨rfl, e2, (by decide : 6 + 0 ≤ _), (by decide : 12 + 0 ≤ _)⟩)
      dsimp only [Pt.U, Pt.locs, Pt.cells, Pt.slots] at X3 l3 y3 z3 st3 hQ3
      subst l3 y3 z3
      obtain ⟨rfl, Nq3, Kc3, Fe3⟩ := hQ3
      have N3 := Fr.app N1 Nq3
      have Z3 : n0 ≤ T3.heap.size := Nat.le_trans Z2 Kc3.1
      have M3 : nk ≤ T3.heap.size := Nat.le_trans M2 Kc3.1
      have c3_Eb2 := A2.keep Kc3
      refine own_goTW (S' := (T3.setTop (mkF m 120 #[.val (.int i0), .val (.int i1), .val (.int i2), .val (.int i3), .val (.int (0 : Int32)), .val (.int ne), .val (.ref b6), .val (.ref b7), .val (.ref b8), .val (.ref ea1), .unset] [(.ref b2)]))) st3 ?_
      refine own_goW (S' := (T3.setTop (mkF m 124 #[.val (.int i0), .val (.int i1), .val (.int i2), .val (.int i3), .val (.int (0 : Int32)), .val (.int ne), .val (.ref b6), .val (.ref b7), .val (.ref b8), .val (.ref ea1), .val (.ref b2)] [(.ref b2)]))) (fun _ kont => XS.astore X3.here hx rfl (hb hby at_120) rfl rfl (l' := #[.val (.int i0), .val (.int i1), .val (.int i2), .val (.int i3), .val (.int (0 : Int32)), .val (.int ne), .val (.ref b6), .val (.ref b7), .val (.ref b8), .val (.ref ea1), .val (.ref b2)]) rfl (XS.aload X3.here hx rfl (hb hby at_122) rfl rfl kont)) ?_
      obtain ⟨cq4, kq4, q4a, q4b, q4c⟩ := isOf hZ rfl c3_Eb2
      obtain ⟨v4, _, ⟨T4, L4, k4, n4⟩, -, X4, ⟨Lc4, hQ4, l4, y4, z4⟩, st4⟩ := X3.virtualBack hx (y := (⟨"com/example/sealwire/sealwire/Verification", "isAccepted", "()Z"⟩ : MethodName)) (z := (⟨"com/example/sealwire/sealwire/Verification", "isAccepted", "()Z"⟩ : MethodName)) hown (mvT hZ (hw _ (List.mem_of_getElem? (i := 46) rfl))) (mvT hZ (hw _ (List.mem_of_getElem? (i := 47) rfl))) (notFace_of_selects (args := #[]) (mvT hZ (hw _ (List.mem_of_getElem? (i := 49) rfl)))) (mvT hZ (hw _ (List.mem_of_getElem? (i := 49) rfl))) (mvT hZ (hw _ (List.mem_of_getElem? (i := 48) rfl))) (by decide) (backOf (W := 0) (rmIE l Z a0 hw [] b2 ea1 T3.heap n0 Z3 Fe3) hZ (hw _ (List.mem_of_getElem? (i := 50) rfl)) (hw _ (List.mem_of_getElem? (i := 32) rfl)) (by decide) (by decide)) q4a q4c (g := (mkF m 124 #[.val (.int i0), .val (.int i1), .val (.int i2), .val (.int i3), .val (.int (0 : Int32)), .val (.int ne), .val (.ref b6), .val (.ref b7), .val (.ref b8), .val (.ref ea1), .val (.ref b2)] [(.ref b2)])) rfl (by rw [hml]; rfl) (Steps.refl _) (argsL := []) (rest := []) (lenOf pd_227 rfl) rfl (by show 2 * 0 + _ ≤ _; exact Nat.le_of_eq rfl) (hb hby at_124) (fun _ _ => ⟨rfl, rfl, (by decide : 6 + 0 ≤ _), (by decide : 12 + 0 ≤ _)⟩)
      dsimp only [Pt.U, Pt.locs, Pt.cells, Pt.slots] at X4 l4 y4 z4 st4 hQ4
      subst l4 y4 z4
      obtain ⟨rfl, eh4, rfl⟩ := hQ4
      have N4 := Fr.app N3 (Fr.nil n0)
      refine own_goTW (S' := (T4.setTop (mkF m 127 #[.val (.int i0), .val (.int i1), .val (.int i2), .val (.int i3), .val (.int (0 : Int32)), .val (.int ne), .val (.ref b6), .val (.ref b7), .val (.ref b8), .val (.ref ea1), .val (.ref b2)] [(.int (0 : Int32))]))) st4 ?_
      refine own_goW (S' := (T4.setTop (mkF m 137 #[.val (.int i0), .val (.int i1), .val (.int i2), .val (.int i3), .val (.int (0 : Int32)), .val (.int ne), .val (.ref b6), .val (.ref b7), .val (.ref b8), .val (.ref ea1), .val (.ref b2)] [(.int (1 : Int32))]))) (fun _ kont => XS.iload X4.here hx rfl (hb hby at_127) rfl (XS.icmpNo X4.here hx rfl (hb hby at_129) rfl (teq (by decide)).2 (XS.iconst X4.here hx rfl (hb hby at_132) (XS.goto X4.here hx rfl (pc0 := 133) (pc' := 137) rfl (hb hby at_133) (by decide) (by decide) kont)))) ?_
      refine own_retNW (t := .boolean) X4 hS (by rw [eh4]; exact M3) hx hlk (by simp) Bd.returns (hb hby at_137) (by decide) (by decide) ?_
      exact ⟨rfl, N4⟩
    · refine own_goW (S' := (T1.setTop (mkF m 95 #[.val (.int i0), .val (.int i1), .val (.int i2), .val (.int i3), .val (.int (1 : Int32)), .val (.int ne), .val (.ref b6), .val (.ref b7), .val (.ref b8), .val (.ref ea1), .unset] []))) (fun _ kont => XS.ifNo X1.here hx rfl (hb hby at_92) rfl ((if0 _ _).trans (feq (by decide)).1) kont) ?_
      obtain ⟨T5, h5, X5, e5, E5, A5, D5, -, st5⟩ := newO X1 hx hZ hown (hw _ (List.mem_of_getElem? (i := 30) rfl)) (hw _ (List.mem_of_getElem? (i := 31) rfl)) (hw _ (List.mem_of_getElem? (i := 32) rfl)) eh1 (g := (mkF m 95 #[.val (.int i0), .val (.int i1), .val (.int i2), .val (.int i3), .val (.int (1 : Int32)), .val (.int ne), .val (.ref b6), .val (.ref b7), .val (.ref b8), .val (.ref ea1), .unset] [])) rfl (hb hby at_95) (by decide) (by decide)
      obtain ⟨b5, gz5⟩ : ∃ z, z = Tk.heap.size := ⟨_, rfl⟩
      rw [← gz5] at A5 D5 st5
      have g_b5 : n0 ≤ b5 := Nat.le_trans Zk (Nat.le_of_eq gz5.symm)
      have F5_secretId : Fld Z h5 b5 "com/example/sealwire/sealwire/Verification" "secretId" "Ljava/lang/String;" .null := D5 (Or.inr (hw _ (List.mem_of_getElem? (i := 43) rfl))) (ty := (.object "java/lang/String")) (by decide)
      have F5_error : Fld Z h5 b5 "com/example/sealwire/sealwire/Verification" "error" "Lcom/example/sealwire/sealwire/ErrorCode;" .null := D5 (Or.inr (hw _ (List.mem_of_getElem? (i := 45) rfl))) (ty := (.object "com/example/sealwire/sealwire/ErrorCode")) (by decide)
      have Z5 : n0 ≤ h5.size := Nat.le_trans Zk E5.1
      have M5 : nk ≤ h5.size := Nat.le_trans hnk E5.1
      refine own_goW (S' := (T5.setTop (mkF m 98 #[.val (.int i0), .val (.int i1), .val (.int i2), .val (.int i3), .val (.int (1 : Int32)), .val (.int ne), .val (.ref b6), .val (.ref b7), .val (.ref b8), .val (.ref ea1), .unset] [(.ref b5)]))) st5 ?_
      refine own_goW (S' := (T5.setTop (mkF m 102 #[.val (.int i0), .val (.int i1), .val (.int i2), .val (.int i3), .val (.int (1 : Int32)), .val (.int ne), .val (.ref b6), .val (.ref b7), .val (.ref b8), .val (.ref ea1), .unset] [.null, (.ref b8), (.ref b5), (.ref b5)]))) (fun _ kont => XS.dup X5.here hx rfl (hb hby at_98) rfl rfl (XS.aload X5.here hx rfl (hb hby at_99) rfl rfl (XS.aconstNull X5.here hx rfl (hb hby at_101) kont))) ?_
      obtain ⟨v6, _, ⟨T6, L6, k6, n6⟩, -, X6, ⟨Lc6, hQ6, l6, y6, z6⟩, st6⟩ := X5.specialBack hx (y := (⟨"com/example/sealwire/sealwire/Verification", "<init>", "(Ljava/lang/String;Lcom/example/sealwire/sealwire/ErrorCode;)V"⟩ : MethodName)) rfl hown (mvT hZ (hw _ (List.mem_of_getElem? (i := 33) rfl))) (mvT hZ (hw _ (List.mem_of_getElem? (i := 34) rfl))) (mvT hZ (hw _ (List.mem_of_getElem? (i := 35) rfl))) (by decide) (backOf (W := 1) (rmVA l Z a0 hw [] b5 b8 h5 n0 Z5 A5 F5_secretId F5_error g_b5) hZ (hw _ (List.mem_of_getElem? (i := 35) rfl)) (hw _ (List.mem_of_getElem? (i := 32) rfl)) (by decide) (by decide)) (g := (mkF m 102 #[.val (.int i0), .val (.int i1), .val (.int i2), .val (.int i3), .val (.int (1 : Int32)), .val (.int ne), .val (.ref b6), .val (.ref b7), .val (.ref b8), .val (.ref ea1), .unset] [.null, (.ref b8), (.ref b5), (.ref b5)])) rfl (by rw [hml]; rfl) (Steps.refl _) (a := b5) (argsL := [(.ref b8), .null]) (rest := [(.ref b5)]) (lenOf pd_226 rfl) rfl (by show 2 * 0 + _ ≤ _; exact Nat.le_of_eq rfl) (hb hby at_102) (fun _ _ => ⟨rfl, e5, (by decide : 6 + 0 ≤ _), (by decide : 12 + 0 ≤ _)⟩)
      dsimp only [Pt.U, Pt.locs, Pt.cells, Pt.slots] at X6 l6 y6 z6 st6 hQ6
      subst l6 y6 z6
      obtain ⟨rfl, Nq6, Kc6, Fe6⟩ := hQ6
      have N6 := Fr.app N1 Nq6
      have Z6 : n0 ≤ T6.heap.size := Nat.le_trans Z5 Kc6.1
      have M6 : nk ≤ T6.heap.size := Nat.le_trans M5 Kc6.1
      have c6_Eb5 := A5.keep Kc6
      refine own_goTW (S' := (T6.setTop (mkF m 105 #[.val (.int i0), .val (.int i1), .val (.int i2), .val (.int i3), .val (.int (1 : Int32)), .val (.int ne), .val (.ref b6), .val (.ref b7), .val (.ref b8), .val (.ref ea1), .unset] [(.ref b5)]))) st6 ?_
      refine own_goW (S' := (T6.setTop (mkF m 124 #[.val (.int i0), .val (.int i1), .val (.int i2), .val (.int i3), .val (.int (1 : Int32)), .val (.int ne), .val (.ref b6), .val (.ref b7), .val (.ref b8), .val (.ref ea1), .val (.ref b5)] [(.ref b5)]))) (fun _ kont => XS.astore X6.here hx rfl (hb hby at_105) rfl rfl (l' := #[.val (.int i0), .val (.int i1), .val (.int i2), .val (.int i3), .val (.int (1 : Int32)), .val (.int ne), .val (.ref b6), .val (.ref b7), .val (.ref b8), .val (.ref ea1), .val (.ref b5)]) rfl (XS.goto X6.here hx rfl (pc0 := 107) (pc' := 122) rfl (hb hby at_107) (by decide) (by decide) (XS.aload X6.here hx rfl (hb hby at_122) rfl rfl kont))) ?_
      obtain ⟨cq7, kq7, q7a, q7b, q7c⟩ := isOf hZ rfl c6_Eb5
      obtain ⟨v7, _, ⟨T7, L7, k7, n7⟩, -, X7, ⟨Lc7, hQ7, l7, y7, z7⟩, st7⟩ := X6.virtualBack hx (y := (⟨"com/example/sealwire/sealwire/Verification", "isAccepted", "()Z"⟩ : MethodName)) (z := (⟨"com/example/sealwire/sealwire/Verification", "isAccepted", "()Z"⟩ : MethodName)) hown (mvT hZ (hw _ (List.mem_of_getElem? (i := 46) rfl))) (mvT hZ (hw _ (List.mem_of_getElem? (i := 47) rfl))) (notFace_of_selects (args := #[]) (mvT hZ (hw _ (List.mem_of_getElem? (i := 49) rfl)))) (mvT hZ (hw _ (List.mem_of_getElem? (i := 49) rfl))) (mvT hZ (hw _ (List.mem_of_getElem? (i := 48) rfl))) (by decide) (backOf (W := 0) (rmIA l Z a0 hw [] b5 b8 T6.heap n0 Z6 Fe6) hZ (hw _ (List.mem_of_getElem? (i := 50) rfl)) (hw _ (List.mem_of_getElem? (i := 32) rfl)) (by decide) (by decide)) q7a q7c (g := (mkF m 124 #[.val (.int i0), .val (.int i1), .val (.int i2), .val (.int i3), .val (.int (1 : Int32)), .val (.int ne), .val (.ref b6), .val (.ref b7), .val (.ref b8), .val (.ref ea1), .val (.ref b5)] [(.ref b5)])) rfl (by rw [hml]; rfl) (Steps.refl _) (argsL := []) (rest := []) (lenOf pd_227 rfl) rfl (by show 2 * 0 + _ ≤ _; exact Nat.le_of_eq rfl) (hb hby at_124) (fun _ _ => ⟨rfl, rfl, (by decide : 6 + 0 ≤ _), (by decide : 12 + 0 ≤ _)⟩)
      dsimp only [Pt.U, Pt.locs, Pt.cells, Pt.slots] at X7 l7 y7 z7 st7 hQ7
      subst l7 y7 z7
      obtain ⟨rfl, eh7, rfl⟩ := hQ7
      have N7 := Fr.app N6 (Fr.nil n0)
      refine own_goTW (S' := (T7.setTop (mkF m 127 #[.val (.int i0), .val (.int i1), .val (.int i2), .val (.int i3), .val (.int (1 : Int32)), .val (.int ne), .val (.ref b6), .val (.ref b7), .val (.ref b8), .val (.ref ea1), .val (.ref b5)] [(.int (1 : Int32))]))) st7 ?_
      refine own_goW (S' := (T7.setTop (mkF m 137 #[.val (.int i0), .val (.int i1), .val (.int i2), .val (.int i3), .val (.int (1 : Int32)), .val (.int ne), .val (.ref b6), .val (.ref b7), .val (.ref b8), .val (.ref ea1), .val (.ref b5)] [(.int (1 : Int32))]))) (fun _ kont => XS.iload X7.here hx rfl (hb hby at_127) rfl (XS.icmpNo X7.here hx rfl (hb hby at_129) rfl (teq (by decide)).2 (XS.iconst X7.here hx rfl (hb hby at_132) (XS.goto X7.here hx rfl (pc0 := 133) (pc' := 137) rfl (hb hby at_133) (by decide) (by decide) kont)))) ?_
      refine own_retNW (t := .boolean) X7 hS (by rw [eh7]; exact M6) hx hlk (by simp) Bd.returns (hb hby at_137) (by decide) (by decide) ?_
      exact ⟨rfl, N7⟩
  have K11 : ∀ (ac : Int32) (hac : ac = 0 ∨ ac = 1), own_GoW p e below s (Q_rm0 Z i0 i1 i2 i3 zc a_MISSING_PARAMETER a_NO_SUCH_VERSION a_SIGNATURE_FAILURE a_INVALID_AUTHORIZATION a_REQUEST_SIZE_LIMIT_EXCEEDED a_UNSUPPORTED_PROTOCOL a_IDENTITY_NOT_EXIST a_IDENTITY_KEY_ERROR a_INVALID_PARAMETER a_IDENTITY_URL_ERROR a_PARAMETER_VALUE a_UNKNOWN_PARAMETER a_RECORD_NOT_EXISTS a_IDENTITY_FULL a_INVALID_PARAMETER_VALUE a_TOKEN_FAILURE a_INVALID_ACTION a_INTERNAL_ERROR a_SECRET_ID_NOT_FOUND a_SIGNATURE_EXPIRE h0 n0) room_1.cells room_1.slots (s₁.setTop (mkF m 11 #[.val (.int i0), .val (.int i1), .val (.int i2), .val (.int i3), .unset, .unset, .unset, .unset, .unset, .unset, .unset] [.int ac])) := by
    intro ac hac
    refine own_goW (S' := (s₁.setTop (mkF m 16 #[.val (.int i0), .val (.int i1), .val (.int i2), .val (.int i3), .val (.int ac), .unset, .unset, .unset, .unset, .unset, .unset] [(.int (i0 &&& (2 : Int32)))]))) (fun _ kont => XS.istore X0.here hx rfl (hb hby at_11) rfl (l' := #[.val (.int i0), .val (.int i1), .val (.int i2), .val (.int i3), .val (.int ac), .unset, .unset, .unset, .unset, .unset, .unset]) rfl (XS.iloadN X0.here hx rfl (hb hby at_13) rfl (XS.iconst X0.here hx rfl (hb hby at_14) (XS.iand X0.here hx rfl (hb hby at_15) rfl kont)))) ?_
    by_cases qn : (i0 &&& (2 : Int32)) = (0 : Int32)
    · refine own_goW (S' := (s₁.setTop (mkF m 27 #[.val (.int i0), .val (.int i1), .val (.int i2), .val (.int i3), .val (.int ac), .val (.int (0 : Int32)), .unset, .unset, .unset, .unset, .unset] [(.int (2 : Int32))]))) (fun _ kont => XS.ifYes X0.here hx rfl (pc0 := 16) (pc' := 23) rfl (hb hby at_16) rfl ((if0 _ _).trans (teq qn).1) (by decide) (by decide) (XS.iconst X0.here hx rfl (hb hby at_23) (XS.istore X0.here hx rfl (hb hby at_24) rfl (l' := #[.val (.int i0), .val (.int i1), .val (.int i2), .val (.int i3), .val (.int ac), .val (.int (0 : Int32)), .unset, .unset, .unset, .unset, .unset]) rfl (XS.iconst X0.here hx rfl (hb hby at_26) kont)))) ?_
      obtain ⟨T8, h8, k8, X8, e8, E8, A8, st8⟩ := newP X0 hx hZ (hw _ (List.mem_of_getElem? (i := 0) rfl)) e0 (g := (mkF m 27 #[.val (.int i0), .val (.int i1), .val (.int i2), .val (.int i3), .val (.int ac), .val (.int (0 : Int32)), .unset, .unset, .unset, .unset, .unset] [(.int (2 : Int32))])) rfl (hb hby at_27) rfl (by decide) (cap := 2) (by decide) (by decide) (by decide) (by decide)
      obtain ⟨b8, gz8⟩ : ∃ z, z = h0.size := ⟨_, rfl⟩
      rw [← gz8] at A8 st8
      have g_b8 : n0 ≤ b8 := Nat.le_trans Z0 (Nat.le_of_eq gz8.symm)
      have V8 := Arv.new A8 (by decide)
      have Z8 : n0 ≤ h8.size := Nat.le_trans Z0 E8.1
      refine own_goW (S' := (T8.setTop (mkF m 29 #[.val (.int i0), .val (.int i1), .val (.int i2), .val (.int i3), .val (.int ac), .val (.int (0 : Int32)), .unset, .unset, .unset, .unset, .unset] [(.ref b8)]))) st8 ?_
      refine own_goW (S' := (T8.setTop (mkF m 40 #[.val (.int i0), .val (.int i1), .val (.int i2), .val (.int i3), .val (.int ac), .val (.int (0 : Int32)), .val (.ref b8), .unset, .unset, .unset, .unset] [(.int ((i1 &&& (255 : Int32)).toUInt32.toUInt16.toUInt32.toInt32)), (.int (0 : Int32)), (.ref b8)]))) (fun _ kont => XS.astore X8.here hx rfl (hb hby at_29) rfl rfl (l' := #[.val (.int i0), .val (.int i1), .val (.int i2), .val (.int i3), .val (.int ac), .val (.int (0 : Int32)), .val (.ref b8), .unset, .unset, .unset, .unset]) rfl (XS.aload X8.here hx rfl (hb hby at_31) rfl rfl (XS.iconst X8.here hx rfl (hb hby at_33) (XS.iloadN X8.here hx rfl (hb hby at_34) rfl (XS.sipush X8.here hx rfl (hb hby at_35) (XS.iand X8.here hx rfl (hb hby at_38) rfl (XS.i2c X8.here hx rfl (hb hby at_39) rfl kont))))))) ?_
      have V9 : Arv Z h8 b8 k8 .char (2 : Int32) [(.int (0 : Int32)), (.int (0 : Int32))] (.int (0 : Int32)) := V8.pad (pad_rep [] (.int (0 : Int32)) 2)
      obtain ⟨cl10, Ar10, qc10, S10, M10, Ha10, Ga10⟩ := id V9
      obtain ⟨T10, h10, X10, e10, W10, st10⟩ := stC X8 hx hZ e8 Ar10 (j := (0 : Int32)) (inb_of S10 ⟨by decide, by decide⟩) (g := (mkF m 40 #[.val (.int i0), .val (.int i1), .val (.int i2), .val (.int i3), .val (.int ac), .val (.int (0 : Int32)), .val (.ref b8), .unset, .unset, .unset, .unset] [(.int ((i1 &&& (255 : Int32)).toUInt32.toUInt16.toUInt32.toInt32)), (.int (0 : Int32)), (.ref b8)])) rfl rfl (hb hby at_40)
      have V10 : Arv Z h10 b8 k8 .char (2 : Int32) [(.int (nar .char ((i1 &&& (255 : Int32)).toUInt32.toUInt16.toUInt32.toInt32))), (.int (0 : Int32))] (.int (0 : Int32)) := Arv.set Ar10 qc10 S10 M10 Ha10 Ga10 (fits_nar_char _) W10 0 (by decide) (Nat.le_of_ble_eq_true rfl)
      have N10 := Fr.snoc X10 N0 g_b8
      have Z10 : n0 ≤ h10.size := Nat.le_trans Z8 (Nat.le_of_eq W10.size.symm)
      refine own_goW (S' := (T10.setTop (mkF m 41 #[.val (.int i0), .val (.int i1), .val (.int i2), .val (.int i3), .val (.int ac), .val (.int (0 : Int32)), .val (.ref b8), .unset, .unset, .unset, .unset] []))) st10 ?_
      refine own_goW (S' := (T10.setTop (mkF m 50 #[.val (.int i0), .val (.int i1), .val (.int i2), .val (.int i3), .val (.int ac), .val (.int (0 : Int32)), .val (.ref b8), .unset, .unset, .unset, .unset] [(.int ((i2 &&& (255 : Int32)).toUInt32.toUInt16.toUInt32.toInt32)), (.int (1 : Int32)), (.ref b8)]))) (fun _ kont => XS.aload X10.here hx rfl (hb hby at_41) rfl rfl (XS.iconst X10.here hx rfl (hb hby at_43) (XS.iloadN X10.here hx rfl (hb hby at_44) rfl (XS.sipush X10.here hx rfl (hb hby at_45) (XS.iand X10.here hx rfl (hb hby at_48) rfl (XS.i2c X10.here hx rfl (hb hby at_49) rfl kont)))))) ?_
      obtain ⟨cl11, Ar11, qc11, S11, M11, Ha11, Ga11⟩ := id V10
      obtain ⟨T11, h11, X11, e11, W11, st11⟩ := stC X10 hx hZ e10 Ar11 (j := (1 : Int32)) (inb_of S11 ⟨by decide, by decide⟩) (g := (mkF m 50 #[.val (.int i0), .val (.int i1), .val (.int i2), .val (.int i3), .val (.int ac), .val (.int (0 : Int32)), .val (.ref b8), .unset, .unset, .unset, .unset] [(.int ((i2 &&& (255 : Int32)).toUInt32.toUInt16.toUInt32.toInt32)), (.int (1 : Int32)), (.ref b8)])) rfl rfl (hb hby at_50)
      have V11 : Arv Z h11 b8 k8 .char (2 : Int32) [(.int (nar .char ((i1 &&& (255 : Int32)).toUInt32.toUInt16.toUInt32.toInt32))), (.int (nar .char ((i2 &&& (255 : Int32)).toUInt32.toUInt16.toUInt32.toInt32)))] (.int (0 : Int32)) := Arv.set Ar11 qc11 S11 M11 Ha11 Ga11 (fits_nar_char _) W11 1 (by decide) (Nat.le_of_ble_eq_true rfl)
      have N11 := Fr.snoc X11 N10 g_b8
      have Z11 : n0 ≤ h11.size := Nat.le_trans Z10 (Nat.le_of_eq W11.size.symm)
      refine own_goW (S' := (T11.setTop (mkF m 51 #[.val (.int i0), .val (.int i1), .val (.int i2), .val (.int i3), .val (.int ac), .val (.int (0 : Int32)), .val (.ref b8), .unset, .unset, .unset, .unset] []))) st11 ?_
      refine own_goW (S' := (T11.setTop (mkF m 52 #[.val (.int i0), .val (.int i1), .val (.int i2), .val (.int i3), .val (.int ac), .val (.int (0 : Int32)), .val (.ref b8), .unset, .unset, .unset, .unset] [(.int (0 : Int32))]))) (fun _ kont => XS.iconst X11.here hx rfl (hb hby at_51) kont) ?_
      obtain ⟨T12, h12, k12, X12, e12, E12, A12, st12⟩ := newP X11 hx hZ (hw _ (List.mem_of_getElem? (i := 0) rfl)) e11 (g := (mkF m 52 #[.val (.int i0), .val (.int i1), .val (.int i2), .val (.int i3), .val (.int ac), .val (.int (0 : Int32)), .val (.ref b8), .unset, .unset, .unset, .unset] [(.int (0 : Int32))])) rfl (hb hby at_52) rfl (by decide) (cap := 0) (by decide) (by decide) (by decide) (by decide)
      obtain ⟨b12, gz12⟩ : ∃ z, z = h11.size := ⟨_, rfl⟩
      rw [← gz12] at A12 st12
      have ne_b8_b12 : b8 ≠ b12 := Nat.ne_of_lt (by rw [gz12]; exact V11.lt)
      have c12_Vb8 := V11.ext E12
      have g_b12 : n0 ≤ b12 := Nat.le_trans Z11 (Nat.le_of_eq gz12.symm)
      have V12 := Arv.new A12 (by decide)
      have Z12 : n0 ≤ h12.size := Nat.le_trans Z11 E12.1
      refine own_goW (S' := (T12.setTop (mkF m 54 #[.val (.int i0), .val (.int i1), .val (.int i2), .val (.int i3), .val (.int ac), .val (.int (0 : Int32)), .val (.ref b8), .unset, .unset, .unset, .unset] [(.ref b12)]))) st12 ?_
      refine own_goW (S' := (T12.setTop (mkF m 73 #[.val (.int i0), .val (.int i1), .val (.int i2), .val (.int i3), .val (.int ac), .val (.int (0 : Int32)), .val (.ref b8), .val (.ref b12), .unset, .unset, .unset] []))) (fun _ kont => XS.astore X12.here hx rfl (hb hby at_54) rfl rfl (l' := #[.val (.int i0), .val (.int i1), .val (.int i2), .val (.int i3), .val (.int ac), .val (.int (0 : Int32)), .val (.ref b8), .val (.ref b12), .unset, .unset, .unset]) rfl (XS.iload X12.here hx rfl (hb hby at_56) rfl (XS.ifYes X12.here hx rfl (pc0 := 58) (pc' := 73) rfl (hb hby at_58) rfl ((if0 _ _).trans (teq (by decide)).1) (by decide) (by decide) kont))) ?_
      obtain ⟨T13, h13, X13, e13, E13, A13, D13, -, st13⟩ := newO X12 hx hZ hown (hw _ (List.mem_of_getElem? (i := 1) rfl)) (hw _ (List.mem_of_getElem? (i := 2) rfl)) (hw _ (List.mem_of_getElem? (i := 3) rfl)) e12 (g := (mkF m 73 #[.val (.int i0), .val (.int i1), .val (.int i2), .val (.int i3), .val (.int ac), .val (.int (0 : Int32)), .val (.ref b8), .val (.ref b12), .unset, .unset, .unset] [])) rfl (hb hby at_73) (by decide) (by decide)
      obtain ⟨b13, gz13⟩ : ∃ z, z = h12.size := ⟨_, rfl⟩
      rw [← gz13] at A13 D13 st13
      have ne_b8_b13 : b8 ≠ b13 := Nat.ne_of_lt (by rw [gz13]; exact c12_Vb8.lt)
      have ne_b12_b13 : b12 ≠ b13 := Nat.ne_of_lt (by rw [gz13]; exact V12.lt)
      have c13_Vb8 := c12_Vb8.ext E13
      have c13_Vb12 := V12.ext E13
      have g_b13 : n0 ≤ b13 := Nat.le_trans Z12 (Nat.le_of_eq gz13.symm)
      have F13_value : Fld Z h13 b13 "java/lang/String" "value" "[B" .null := D13 (Or.inr (hw _ (List.mem_of_getElem? (i := 16) rfl))) (ty := (.array .byte)) (by decide)
      have F13_coder : Fld Z h13 b13 "java/lang/String" "coder" "B" (.int (0 : Int32)) := D13 (Or.inr (hw _ (List.mem_of_getElem? (i := 17) rfl))) (ty := .byte) (by decide)
      have Z13 : n0 ≤ h13.size := Nat.le_trans Z12 E13.1
      refine own_goW (S' := (T13.setTop (mkF m 76 #[.val (.int i0), .val (.int i1), .val (.int i2), .val (.int i3), .val (.int ac), .val (.int (0 : Int32)), .val (.ref b8), .val (.ref b12), .unset, .unset, .unset] [(.ref b13)]))) st13 ?_
      refine own_goW (S' := (T13.setTop (mkF m 79 #[.val (.int i0), .val (.int i1), .val (.int i2), .val (.int i3), .val (.int ac), .val (.int (0 : Int32)), .val (.ref b8), .val (.ref b12), .unset, .unset, .unset] [(.ref b12), (.ref b13), (.ref b13)]))) (fun _ kont => XS.dup X13.here hx rfl (hb hby at_76) rfl rfl (XS.aload X13.here hx rfl (hb hby at_77) rfl rfl kont)) ?_
      have hkp2 : ∀ (b : Addr) (cl : Cell), Z.heap[b]? = some cl → h13[b]? = some cl := fun b cl z => by rw [← e13]; exact oldF X13 (by rw [hh, ← hn0]; exact N11) b cl (by rw [hh, ← hzh]; exact z)
      obtain ⟨v14, _, ⟨T14, L14, k14, n14⟩, -, X14, hS, hg14, ⟨Lc14, hQ14, l14, y14, z14⟩, st14⟩ := X13.specialBackS hx (y := (⟨"java/lang/String", "<init>", "([C)V"⟩ : MethodName)) rfl hown (mvT hZ (hw _ (List.mem_of_getElem? (i := 4) rfl))) (mvT hZ (hw _ (List.mem_of_getElem? (i := 5) rfl))) (mvT hZ (hw _ (List.mem_of_getElem? (i := 6) rfl))) (by decide) (own_backS (W := 1) (rmCe l Z a0 hw [] b13 b12 k12 h13 n0 Z13 A13 F13_value F13_coder g_b13 c13_Vb12 hcw hlit hkp2) hZ hI (hw _ (List.mem_of_getElem? (i := 6) rfl)) (hw _ (List.mem_of_getElem? (i := 3) rfl)) (by decide) (by decide)) (g := (mkF m 79 #[.val (.int i0), .val (.int i1), .val (.int i2), .val (.int i3), .val (.int ac), .val (.int (0 : Int32)), .val (.ref b8), .val (.ref b12), .unset, .unset, .unset] [(.ref b12), (.ref b13), (.ref b13)])) rfl (by rw [hml]; rfl) (Steps.refl _) (a := b13) (argsL := [(.ref b12)]) (rest := [(.ref b13)]) (lenOf pd_228 rfl) rfl (by show 2 * 0 + _ ≤ _; exact Nat.le_of_eq rfl) (hb hby at_79) (fun _ _ => ⟨rfl, e13, (by decide : 3 + 2 ≤ _), (by decide : 6 + 4 ≤ _)⟩)
      dsimp only [Pt.U, Pt.locs, Pt.cells, Pt.slots] at X14 l14 y14 z14 st14 hQ14 hS hg14
      subst l14 y14 z14
      obtain ⟨rfl, Nq14, hz14⟩ := hQ14
      have hZ2 : Z.Warmed39 (s.setVm T14.vm).vm := State.Warmed39.trans hZ hS.1
      have hown2 : (s.setVm T14.vm).vm.findClass "com/example/sealwire/sealwire/VerificationIsAcceptedPinLaw" = some m.cls := by rw [show (s.setVm T14.vm).vm = T14.vm from rfl, hS.1.alike.findClass]; exact hown
      have N14 := Fr.app N11 Nq14
      have Z14 : n0 ≤ T14.heap.size := Nat.le_trans Z13 hz14
      refine own_goTW (S' := (T14.setTop (mkF m 82 #[.val (.int i0), .val (.int i1), .val (.int i2), .val (.int i3), .val (.int ac), .val (.int (0 : Int32)), .val (.ref b8), .val (.ref b12), .unset, .unset, .unset] [(.ref b13)]))) st14 ?_
      exact K82 ac (0 : Int32) hac _ _ _ _ _ _ _ (X14.mono (by decide) (by decide)) hS (Nat.le_refl _) hZ2 hown2 Z14 N14
    · refine own_goW (S' := (s₁.setTop (mkF m 27 #[.val (.int i0), .val (.int i1), .val (.int i2), .val (.int i3), .val (.int ac), .val (.int (1 : Int32)), .unset, .unset, .unset, .unset, .unset] [(.int (2 : Int32))]))) (fun _ kont => XS.ifNo X0.here hx rfl (hb hby at_16) rfl ((if0 _ _).trans (feq qn).1) (XS.iconst X0.here hx rfl (hb hby at_19) (XS.goto X0.here hx rfl (pc0 := 20) (pc' := 24) rfl (hb hby at_20) (by decide) (by decide) (XS.istore X0.here hx rfl (hb hby at_24) rfl (l' := #[.val (.int i0), .val (.int i1), .val (.int i2), .val (.int i3), .val (.int ac), .val (.int (1 : Int32)), .unset, .unset, .unset, .unset, .unset]) rfl (XS.iconst X0.here hx rfl (hb hby at_26) kont))))) ?_
      obtain ⟨T15, h15, k15, X15, e15, E15, A15, st15⟩ := newP X0 hx hZ (hw _ (List.mem_of_getElem? (i := 0) rfl)) e0 (g := (mkF m 27 #[.val (.int i0), .val (.int i1), .val (.int i2), .val (.int i3), .val (.int ac), .val (.int (1 : Int32)), .unset, .unset, .unset, .unset, .unset] [(.int (2 : Int32))])) rfl (hb hby at_27) rfl (by decide) (cap := 2) (by decide) (by decide) (by decide) (by decide)
      obtain ⟨b15, gz15⟩ : ∃ z, z = h0.size := ⟨_, rfl⟩
      rw [← gz15] at A15 st15
      have g_b15 : n0 ≤ b15 := Nat.le_trans Z0 (Nat.le_of_eq gz15.symm)
      have V15 := Arv.new A15 (by decide)
      have Z15 : n0 ≤ h15.size := Nat.le_trans Z0 E15.1
      refine own_goW (S' := (T15.setTop (mkF m 29 #[.val (.int i0), .val (.int i1), .val (.int i2), .val (.int i3), .val (.int ac), .val (.int (1 : Int32)), .unset, .unset, .unset, .unset, .unset] [(.ref b15)]))) st15 ?_
      refine own_goW (S' := (T15.setTop (mkF m 40 #[.val (.int i0), .val (.int i1), .val (.int i2), .val (.int i3), .val (.int ac), .val (.int (1 : Int32)), .val (.ref b15), .unset, .unset, .unset, .unset] [(.int ((i1 &&& (255 : Int32)).toUInt32.toUInt16.toUInt32.toInt32)), (.int (0 : Int32)), (.ref b15)]))) (fun _ kont => XS.astore X15.here hx rfl (hb hby at_29) rfl rfl (l' := #[.val (.int i0), .val (.int i1), .val (.int i2), .val (.int i3), .val (.int ac), .val (.int (1 : Int32)), .val (.ref b15), .unset, .unset, .unset, .unset]) rfl (XS.aload X15.here hx rfl (hb hby at_31) rfl rfl (XS.iconst X15.here hx rfl (hb hby at_33) (XS.iloadN X15.here hx rfl (hb hby at_34) rfl (XS.sipush X15.here hx rfl (hb hby at_35) (XS.iand X15.here hx rfl (hb hby at_38) rfl (XS.i2c X15.here hx rfl (hb hby at_39) rfl kont))))))) ?_
      have V16 : Arv Z h15 b15 k15 .char (2 : Int32) [(.int (0 : Int32)), (.int (0 : Int32))] (.int (0 : Int32)) := V15.pad (pad_rep [] (.int (0 : Int32)) 2)
      obtain ⟨cl17, Ar17, qc17, S17, M17, Ha17, Ga17⟩ := id V16
      obtain ⟨T17, h17, X17, e17, W17, st17⟩ := stC X15 hx hZ e15 Ar17 (j := (0 : Int32)) (inb_of S17 ⟨by decide, by decide⟩) (g := (mkF m 40 #[.val (.int i0), .val (.int i1), .val (.int i2), .val (.int i3), .val (.int ac), .val (.int (1 : Int32)), .val (.ref b15), .unset, .unset, .unset, .unset] [(.int ((i1 &&& (255 : Int32)).toUInt32.toUInt16.toUInt32.toInt32)), (.int (0 : Int32)), (.ref b15)])) rfl rfl (hb hby at_40)
      have V17 : Arv Z h17 b15 k15 .char (2 : Int32) [(.int (nar .char ((i1 &&& (255 : Int32)).toUInt32.toUInt16.toUInt32.toInt32))), (.int (0 : Int32))] (.int (0 : Int32)) := Arv.set Ar17 qc17 S17 M17 Ha17 Ga17 (fits_nar_char _) W17 0 (by decide) (Nat.le_of_ble_eq_true rfl)
      have N17 := Fr.snoc X17 N0 g_b15
      have Z17 : n0 ≤ h17.size := Nat.le_trans Z15 (Nat.le_of_eq W17.size.symm)
      refine own_goW (S' := (T17.setTop (mkF m 41 #[.val (.int i0), .val (.int i1), .val (.int i2), .val (.int i3), .val (.int ac), .val (.int (1 : Int32)), .val (.ref b15), .unset, .unset, .unset, .unset] []))) st17 ?_
      refine own_goW (S' := (T17.setTop (mkF m 50 #[.val (.int i0), .val (.int i1), .val (.int i2), .val (.int i3), .val (.int ac), .val (.int (1 : Int32)), .val (.ref b15), .unset, .unset, .unset, .unset] [(.int ((i2 &&& (255 : Int32)).toUInt32.toUInt16.toUInt32.toInt32)), (.int (1 : Int32)), (.ref b15)]))) (fun _ kont => XS.aload X17.here hx rfl (hb hby at_41) rfl rfl (XS.iconst X17.here hx rfl (hb hby at_43) (XS.iloadN X17.here hx rfl (hb hby at_44) rfl (XS.sipush X17.here hx rfl (hb hby at_45) (XS.iand X17.here hx rfl (hb hby at_48) rfl (XS.i2c X17.here hx rfl (hb hby at_49) rfl kont)))))) ?_
      obtain ⟨cl18, Ar18, qc18, S18, M18, Ha18, Ga18⟩ := id V17
      obtain ⟨T18, h18, X18, e18, W18, st18⟩ := stC X17 hx hZ e17 Ar18 (j := (1 : Int32)) (inb_of S18 ⟨by decide, by decide⟩) (g := (mkF m 50 #[.val (.int i0), .val (.int i1), .val (.int i2), .val (.int i3), .val (.int ac), .val (.int (1 : Int32)), .val (.ref b15), .unset, .unset, .unset, .unset] [(.int ((i2 &&& (255 : Int32)).toUInt32.toUInt16.toUInt32.toInt32)), (.int (1 : Int32)), (.ref b15)])) rfl rfl (hb hby at_50)
      have V18 : Arv Z h18 b15 k15 .char (2 : Int32) [(.int (nar .char ((i1 &&& (255 : Int32)).toUInt32.toUInt16.toUInt32.toInt32))), (.int (nar .char ((i2 &&& (255 : Int32)).toUInt32.toUInt16.toUInt32.toInt32)))] (.int (0 : Int32)) := Arv.set Ar18 qc18 S18 M18 Ha18 Ga18 (fits_nar_char _) W18 1 (by decide) (Nat.le_of_ble_eq_true rfl)
      have N18 := Fr.snoc X18 N17 g_b15
      have Z18 : n0 ≤ h18.size := Nat.le_trans Z17 (Nat.le_of_eq W18.size.symm)
      refine own_goW (S' := (T18.setTop (mkF m 51 #[.val (.int i0), .val (.int i1), .val (.int i2), .val (.int i3), .val (.int ac), .val (.int (1 : Int32)), .val (.ref b15), .unset, .unset, .unset, .unset] []))) st18 ?_
      refine own_goW (S' := (T18.setTop (mkF m 52 #[.val (.int i0), .val (.int i1), .val (.int i2), .val (.int i3), .val (.int ac), .val (.int (1 : Int32)), .val (.ref b15), .unset, .unset, .unset, .unset] [(.int (0 : Int32))]))) (fun _ kont => XS.iconst X18.here hx rfl (hb hby at_51) kont) ?_
      obtain ⟨T19, h19, k19, X19, e19, E19, A19, st19⟩ := newP X18 hx hZ (hw _ (List.mem_of_getElem? (i := 0) rfl)) e18 (g := (mkF m 52 #[.val (.int i0), .val (.int i1), .val (.int i2), .val (.int i3), .val (.int ac), .val (.int (1 : Int32)), .val (.ref b15), .unset, .unset, .unset, .unset] [(.int (0 : Int32))])) rfl (hb hby at_52) rfl (by decide) (cap := 0) (by decide) (by decide) (by decide) (by decide)
      obtain ⟨b19, gz19⟩ : ∃ z, z = h18.size := ⟨_, rfl⟩
      rw [← gz19] at A19 st19
      have ne_b15_b19 : b15 ≠ b19 := Nat.ne_of_lt (by rw [gz19]; exact V18.lt)
      have c19_Vb15 := V18.ext E19
      have g_b19 : n0 ≤ b19 := Nat.le_trans Z18 (Nat.le_of_eq gz19.symm)
      have V19 := Arv.new A19 (by decide)
      have Z19 : n0 ≤ h19.size := Nat.le_trans Z18 E19.1
      refine own_goW (S' := (T19.setTop (mkF m 54 #[.val (.int i0), .val (.int i1), .val (.int i2), .val (.int i3), .val (.int ac), .val (.int (1 : Int32)), .val (.ref b15), .unset, .unset, .unset, .unset] [(.ref b19)]))) st19 ?_
      refine own_goW (S' := (T19.setTop (mkF m 61 #[.val (.int i0), .val (.int i1), .val (.int i2), .val (.int i3), .val (.int ac), .val (.int (1 : Int32)), .val (.ref b15), .val (.ref b19), .unset, .unset, .unset] []))) (fun _ kont => XS.astore X19.here hx rfl (hb hby at_54) rfl rfl (l' := #[.val (.int i0), .val (.int i1), .val (.int i2), .val (.int i3), .val (.int ac), .val (.int (1 : Int32)), .val (.ref b15), .val (.ref b19), .unset, .unset, .unset]) rfl (XS.iload X19.here hx rfl (hb hby at_56) rfl (XS.ifNo X19.here hx rfl (hb hby at_58) rfl ((if0 _ _).trans (feq (by decide)).1) kont))) ?_
      obtain ⟨T20, h20, X20, e20, E20, A20, D20, -, st20⟩ := newO X19 hx hZ hown (hw _ (List.mem_of_getElem? (i := 1) rfl)) (hw _ (List.mem_of_getElem? (i := 2) rfl)) (hw _ (List.mem_of_getElem? (i := 3) rfl)) e19 (g := (mkF m 61 #[.val (.int i0), .val (.int i1), .val (.int i2), .val (.int i3), .val (.int ac), .val (.int (1 : Int32)), .val (.ref b15), .val (.ref b19), .unset, .unset, .unset] [])) rfl (hb hby at_61) (by decide) (by decide)
      obtain ⟨b20, gz20⟩ : ∃ z, z = h19.size := ⟨_, rfl⟩
      rw [← gz20] at A20 D20 st20
      have ne_b15_b20 : b15 ≠ b20 := Nat.ne_of_lt (by rw [gz20]; exact c19_Vb15.lt)
      have ne_b19_b20 : b19 ≠ b20 := Nat.ne_of_lt (by rw [gz20]; exact V19.lt)
      have c20_Vb15 := c19_Vb15.ext E20
      have c20_Vb19 := V19.ext E20
      have g_b20 : n0 ≤ b20 := Nat.le_trans Z19 (Nat.le_of_eq gz20.symm)
      have F20_value : Fld Z h20 b20 "java/lang/String" "value" "[B" .null := D20 (Or.inr (hw _ (List.mem_of_getElem? (i := 16) rfl))) (ty := (.array .byte)) (by decide)
      have F20_coder : Fld Z h20 b20 "java/lang/String" "coder" "B" (.int (0 : Int32)) := D20 (Or.inr (hw _ (List.mem_of_getElem? (i := 17) rfl))) (ty := .byte) (by decide)
      have Z20 : n0 ≤ h20.size := Nat.le_trans Z19 E20.1
      refine own_goW (S' := (T20.setTop (mkF m 64 #[.val (.int i0), .val (.int i1), .val (.int i2), .val (.int i3), .val (.int ac), .val (.int (1 : Int32)), .val (.ref b15), .val (.ref b19), .unset, .unset, .unset] [(.ref b20)]))) st20 ?_
      refine own_goW (S' := (T20.setTop (mkF m 67 #[.val (.int i0), .val (.int i1), .val (.int i2), .val (.int i3), .val (.int ac), .val (.int (1 : Int32)), .val (.ref b15), .val (.ref b19), .unset, .unset, .unset] [(.ref b15), (.ref b20), (.ref b20)]))) (fun _ kont => XS.dup X20.here hx rfl (hb hby at_64) rfl rfl (XS.aload X20.here hx rfl (hb hby at_65) rfl rfl kont)) ?_
      have hh2 : Ext h0 h20 := ⟨by rw [← hn0]; exact Z20, fun b cl z => by rw [← e20]; exact oldF X20 (by rw [hh, ← hn0]; exact N18) b cl (by rw [hh]; exact z)⟩
      obtain ⟨v21, _, ⟨T21, L21, k21, n21⟩, -, X21, ⟨Lc21, hQ21, l21, y21, z21⟩, st21⟩ := X20.specialBack hx (y := (⟨"java/lang/String", "<init>", "([C)V"⟩ : MethodName)) rfl hown (mvT hZ (hw _ (List.mem_of_getElem? (i := 4) rfl))) (mvT hZ (hw _ (List.mem_of_getElem? (i := 5) rfl))) (mvT hZ (hw _ (List.mem_of_getElem? (i := 6) rfl))) (by decide) (backOf (W := 1) (rmCb l Z a0 hw [] b20 zc b15 k15 _ _ h20 n0 Z20 A20 F20_value F20_coder g_b20 c20_Vb15 (own_le255 i1) (own_le255 i2) (S_C.ext hh2) hzc) hZ (hw _ (List.mem_of_getElem? (i := 6) rfl)) (hw _ (List.mem_of_getElem? (i := 3) rfl)) (by decide) (by decide)) (g := (mkF m 67 #[.val (.int i0), .val (.int i1), .val (.int i2), .val (.int i3), .val (.int ac), .val (.int (1 : Int32)), .val (.ref b15), .val (.ref b19), .unset, .unset, .unset] [(.ref b15), (.ref b20), (.ref b20)])) rfl (by rw [hml]; rfl) (Steps.refl _) (a := b20) (argsL := [(.ref b15)]) (rest := [(.ref b20)]) (lenOf pd_228 rfl) rfl (by show 2 * 0 + _ ≤ _; exact Nat.le_of_eq rfl) (hb hby at_67) (fun _ _ => ⟨rfl, e20, (by decide : 3 + 1 ≤ _), (by decide : 6 + 2 ≤ _)⟩)
      dsimp only [Pt.U, Pt.locs, Pt.cells, Pt.slots] at X21 l21 y21 z21 st21 hQ21
      subst l21 y21 z21
      obtain ⟨rfl, Nq21, hz21⟩ := hQ21
      have N21 := Fr.app N18 Nq21
      have Z21 : n0 ≤ T21.heap.size := Nat.le_trans Z20 hz21
      refine own_goTW (S' := (T21.setTop (mkF m 70 #[.val (.int i0), .val (.int i1), .val (.int i2), .val (.int i3), .val (.int ac), .val (.int (1 : Int32)), .val (.ref b15), .val (.ref b19), .unset, .unset, .unset] [(.ref b20)]))) st21 ?_
      refine own_goW (S' := (T21.setTop (mkF m 82 #[.val (.int i0), .val (.int i1), .val (.int i2), .val (.int i3), .val (.int ac), .val (.int (1 : Int32)), .val (.ref b15), .val (.ref b19), .unset, .unset, .unset] [(.ref b20)]))) (fun _ kont => XS.goto X21.here hx rfl (pc0 := 70) (pc' := 82) rfl (hb hby at_70) (by decide) (by decide) kont) ?_
      exact K82 ac (1 : Int32) hac _ _ s.vm 0 _ _ _ (show Stand p l e room_1 (s.setVm s.vm) m #[(.int i0), (.int i1), (.int i2), (.int i3)] below meth c T21 _ 5 10 from X21.mono (by decide) (by decide)) ((State.WarmedH.refl s).since 0) (Nat.zero_le _) hZ hown Z21 N21
  refine own_goW (S' := (s₁.setTop (mkF m 3 #[.val (.int i0), .val (.int i1), .val (.int i2), .val (.int i3), .unset, .unset, .unset, .unset, .unset, .unset, .unset] [(.int (i0 &&& (1 : Int32)))]))) (fun _ kont => XS.iloadN X0.here hx rfl (hb hby at_0) rfl (XS.iconst X0.here hx rfl (hb hby at_1) (XS.iand X0.here hx rfl (hb hby at_2) rfl kont))) ?_
  by_cases qa : (i0 &&& (1 : Int32)) = (0 : Int32)
  · refine own_goW (S' := (s₁.setTop (mkF m 11 #[.val (.int i0), .val (.int i1), .val (.int i2), .val (.int i3), .unset, .unset, .unset, .unset, .unset, .unset, .unset] [(.int (0 : Int32))]))) (fun _ kont => XS.ifYes X0.here hx rfl (pc0 := 3) (pc' := 10) rfl (hb hby at_3) rfl ((if0 _ _).trans (teq qa).1) (by decide) (by decide) (XS.iconst X0.here hx rfl (hb hby at_10) kont)) ?_
    exact K11 _ (Or.inl rfl)
  · refine own_goW (S' := (s₁.setTop (mkF m 11 #[.val (.int i0), .val (.int i1), .val (.int i2), .val (.int i3), .unset, .unset, .unset, .unset, .unset, .unset, .unset] [(.int (1 : Int32))]))) (fun _ kont => XS.ifNo X0.here hx rfl (hb hby at_3) rfl ((if0 _ _).trans (feq qa).1) (XS.iconst X0.here hx rfl (hb hby at_6) (XS.goto X0.here hx rfl (pc0 := 7) (pc' := 11) rfl (hb hby at_7) (by decide) (by decide) kont))) ?_
    exact K11 _ (Or.inr rfl)
set_option maxRecDepth 65536 in
set_option maxHeartbeats 40000000 in
theorem comes_1 {Post : Tables → Env → Array Value → State → Outcome → State → Prop} (hpost : ∀ tb e args s v u, (limb_1_1.after args s (.returned v) u = true ∧ limb_1_2.after args s (.returned v) u = true ∧ True) → ReturnedEndW s (.returned v) u (Jvm.fieldLocs frame_1_writes args s ++ Jvm.arrayLocs frame_1_arrays args s ++ Jvm.staticLocs frame_1_statics s) 24 1152 → Post tb e args s (.returned v) u) :
    ArmFor flags0 classFile x code maxLocals ret World_1 tables_1 room_1 Calls_1 rest_1 Pre_1 Post := by
  intro l hfl _ _ p e ha hc hk s m args below hf hA hF happ hP
  obtain ⟨hcalls, hrest, hpre⟩ := hP
  obtain ⟨-, -, -, hnamed, -, -, -, hat⟩ := (Spec.applies_iff hf).mp happ
  obtain ⟨hg, hn⟩ := and_e (Cond.before_iff.mp (show (Jvm.Cond.and given_1 narrow_1).before args s = true from hpre))
  obtain ⟨h1, h2⟩ := and_e hg
  obtain ⟨w0, w1, w2, w3, rfl⟩ : ∃ w0 w1 w2 w3 : Value, args = #[w0, w1, w2, w3] := by
    have hs : args.size = 4 := by simpa [Cond.value, given_1] using h1
    obtain ⟨L⟩ := args
    match L, hs with
    | [w0, w1, w2, w3], _ => exact ⟨w0, w1, w2, w3, rfl⟩
  have hw := fun d (hd : d ∈ tables_1) => atoms_spec (ws := Jvm.Cond.code x code maxLocals ret :: tables_1) hat d (List.mem_cons_of_mem _ hd)
  have hfit : Fit s := fun {y c} hc i hi => by
    obtain ⟨ha, rfl⟩ := Array.getElem?_eq_some_iff.mp hc
    have q := List.all_eq_true.mp ((Array.all_eq_true_iff_forall_mem.mp hF) _ (Array.getElem_mem ha)) i (List.mem_range.mpr hi)
    simpa [Array.getElem?_eq_getElem hi] using q
  obtain ⟨hk0, hr0⟩ := and_e h2
  obtain ⟨i0, ev0⟩ := is_v hk0
  obtain rfl : w0 = (.int i0) := Option.some.inj ev0
  obtain ⟨hk1, hr1⟩ := and_e hr0
  obtain ⟨i1, ev1⟩ := is_v hk1
  obtain rfl : w1 = (.int i1) := Option.some.inj ev1
  obtain ⟨hk2, hr2⟩ := and_e hr1
  obtain ⟨i2, ev2⟩ := is_v hk2
  obtain rfl : w2 = (.int i2) := Option.some.inj ev2
  obtain ⟨i3, ev3⟩ := is_v hr2
  obtain rfl : w3 = (.int i3) := Option.some.inj ev3
  obtain ⟨nw0, nr0⟩ := and_e hn
  obtain ⟨nw1, nr1⟩ := and_e nr0
  obtain ⟨nw2, nr2⟩ := and_e nr1
  obtain ⟨nw3, nr3⟩ := and_e nr2
  obtain ⟨nw4, nr4⟩ := and_e nr3
  obtain ⟨nw5, nr5⟩ := and_e nr4
  obtain ⟨nw6, nr6⟩ := and_e nr5
  obtain ⟨nw7, nr7⟩ := and_e nr6
  obtain ⟨nw8, nr8⟩ := and_e nr7
  obtain ⟨nw9, nr9⟩ := and_e nr8
  obtain ⟨nw10, nr10⟩ := and_e nr9
  obtain ⟨nw11, nr11⟩ := and_e nr10
  obtain ⟨nw12, nr12⟩ := and_e nr11
  obtain ⟨nw13, nr13⟩ := and_e nr12
  obtain ⟨nw14, nr14⟩ := and_e nr13
  obtain ⟨nw15, nr15⟩ := and_e nr14
  obtain ⟨nw16, nr16⟩ := and_e nr15
  obtain ⟨nw17, nr17⟩ := and_e nr16
  obtain ⟨nw18, nr18⟩ := and_e nr17
  obtain ⟨a_MISSING_PARAMETER, ev_MISSING_PARAMETER⟩ := exa_v nw0
  have E_MISSING_PARAMETER := Exa.start ev_MISSING_PARAMETER nw0
  have S_MISSING_PARAMETER := Sta.start ev_MISSING_PARAMETER (Or.inr ⟨(hw _ (List.mem_of_getElem? (i := 28) rfl)), (hw _ (List.mem_of_getElem? (i := 29) rfl))⟩)
  obtain ⟨a_NO_SUCH_VERSION, ev_NO_SUCH_VERSION⟩ := exa_v nw1
  have E_NO_SUCH_VERSION := Exa.start ev_NO_SUCH_VERSION nw1
  have S_NO_SUCH_VERSION := Sta.start ev_NO_SUCH_VERSION (Or.inr ⟨(hw _ (List.mem_of_getElem? (i := 28) rfl)), (hw _ (List.mem_of_getElem? (i := 52) rfl))⟩)
  obtain ⟨a_SIGNATURE_FAILURE, ev_SIGNATURE_FAILURE⟩ := exa_v nw2
  have E_SIGNATURE_FAILURE := Exa.start ev_SIGNATURE_FAILURE nw2
  have S_SIGNATURE_FAILURE := Sta.start ev_SIGNATURE_FAILURE (Or.inr ⟨(hw _ (List.mem_of_getElem? (i := 28) rfl)), (hw _ (List.mem_of_getElem? (i := 65) rfl))⟩)
  obtain ⟨a_INVALID_AUTHORIZATION, ev_INVALID_AUTHORIZATION⟩ := exa_v nw3
  have E_INVALID_AUTHORIZATION := Exa.start ev_INVALID_AUTHORIZATION nw3
  have S_INVALID_AUTHORIZATION := Sta.start ev_INVALID_AUTHORIZATION (Or.inr ⟨(hw _ (List.mem_of_getElem? (i := 28) rfl)), (hw _ (List.mem_of_getElem? (i := 67) rfl))⟩)
  obtain ⟨a_REQUEST_SIZE_LIMIT_EXCEEDED, ev_REQUEST_SIZE_LIMIT_EXCEEDED⟩ := exa_v nw4
  have E_REQUEST_SIZE_LIMIT_EXCEEDED := Exa.start ev_REQUEST_SIZE_LIMIT_EXCEEDED nw4
  have S_REQUEST_SIZE_LIMIT_EXCEEDED := Sta.start ev_REQUEST_SIZE_LIMIT_EXCEEDED (Or.inr ⟨(hw _ (List.mem_of_getElem? (i := 28) rfl)), (hw _ (List.mem_of_getElem? (i := 69) rfl))⟩)
  obtain ⟨a_UNSUPPORTED_PROTOCOL, ev_UNSUPPORTED_PROTOCOL⟩ := exa_v nw5
  have E_UNSUPPORTED_PROTOCOL := Exa.start ev_UNSUPPORTED_PROTOCOL nw5
  have S_UNSUPPORTED_PROTOCOL := Sta.start ev_UNSUPPORTED_PROTOCOL (Or.inr ⟨(hw _ (List.mem_of_getElem? (i := 28) rfl)), (hw _ (List.mem_of_getElem? (i := 71) rfl))⟩)
  obtain ⟨a_IDENTITY_NOT_EXIST, ev_IDENTITY_NOT_EXIST⟩ := exa_v nw6
  have E_IDENTITY_NOT_EXIST := Exa.start ev_IDENTITY_NOT_EXIST nw6
  have S_IDENTITY_NOT_EXIST := Sta.start ev_IDENTITY_NOT_EXIST (Or.inr ⟨(hw _ (List.mem_of_getElem? (i := 28) rfl)), (hw _ (List.mem_of_getElem? (i := 73) rfl))⟩)
  obtain ⟨a_IDENTITY_KEY_ERROR, ev_IDENTITY_KEY_ERROR⟩ := exa_v nw7
  have E_IDENTITY_KEY_ERROR := Exa.start ev_IDENTITY_KEY_ERROR nw7
  have S_IDENTITY_KEY_ERROR := Sta.start ev_IDENTITY_KEY_ERROR (Or.inr ⟨(hw _ (List.mem_of_getElem? (i := 28) rfl)), (hw _ (List.mem_of_getElem? (i := 75) rfl))⟩)
  obtain ⟨a_INVALID_PARAMETER, ev_INVALID_PARAMETER⟩ := exa_v nw8
  have E_INVALID_PARAMETER := Exa.start ev_INVALID_PARAMETER nw8
  have S_INVALID_PARAMETER := Sta.start ev_INVALID_PARAMETER (Or.inr ⟨(hw _ (List.mem_of_getElem? (i := 28) rfl)), (hw _ (List.mem_of_getElem? (i := 77) rfl))⟩)
  obtain ⟨a_IDENTITY_URL_ERROR, ev_IDENTITY_URL_ERROR⟩ := exa_v nw9
  have E_IDENTITY_URL_ERROR := Exa.start ev_IDENTITY_URL_ERROR nw9
  have S_IDENTITY_URL_ERROR := Sta.start ev_IDENTITY_URL_ERROR (Or.inr ⟨(hw _ (List.mem_of_getElem? (i := 28) rfl)), (hw _ (List.mem_of_getElem? (i := 79) rfl))⟩)
  obtain ⟨a_PARAMETER_VALUE, ev_PARAMETER_VALUE⟩ := exa_v nw10
  have E_PARAMETER_VALUE := Exa.start ev_PARAMETER_VALUE nw10
  have S_PARAMETER_VALUE := Sta.start ev_PARAMETER_VALUE (Or.inr ⟨(hw _ (List.mem_of_getElem? (i := 28) rfl)), (hw _ (List.mem_of_getElem? (i := 81) rfl))⟩)
  obtain ⟨a_UNKNOWN_PARAMETER, ev_UNKNOWN_PARAMETER⟩ := exa_v nw11
  have E_UNKNOWN_PARAMETER := Exa.start ev_UNKNOWN_PARAMETER nw11
  have S_UNKNOWN_PARAMETER := Sta.start ev_UNKNOWN_PARAMETER (Or.inr ⟨(hw _ (List.mem_of_getElem? (i := 28) rfl)), (hw _ (List.mem_of_getElem? (i := 83) rfl))⟩)
  obtain ⟨a_RECORD_NOT_EXISTS, ev_RECORD_NOT_EXISTS⟩ := exa_v nw12
  have E_RECORD_NOT_EXISTS := Exa.start ev_RECORD_NOT_EXISTS nw12
  have S_RECORD_NOT_EXISTS := Sta.start ev_RECORD_NOT_EXISTS (Or.inr ⟨(hw _ (List.mem_of_getElem? (i := 28) rfl)), (hw _ (List.mem_of_getElem? (i := 85) rfl))⟩)
  obtain ⟨a_IDENTITY_FULL, ev_IDENTITY_FULL⟩ := exa_v nw13
  have E_IDENTITY_FULL := Exa.start ev_IDENTITY_FULL nw13
  have S_IDENTITY_FULL := Sta.start ev_IDENTITY_FULL (Or.inr ⟨(hw _ (List.mem_of_getElem? (i := 28) rfl)), (hw _ (List.mem_of_getElem? (i := 87) rfl))⟩)
  obtain ⟨a_INVALID_PARAMETER_VALUE, ev_INVALID_PARAMETER_VALUE⟩ := exa_v nw14
  have E_INVALID_PARAMETER_VALUE := Exa.start ev_INVALID_PARAMETER_VALUE nw14
  have S_INVALID_PARAMETER_VALUE := Sta.start ev_INVALID_PARAMETER_VALUE (Or.inr ⟨(hw _ (List.mem_of_getElem? (i := 28) rfl)), (hw _ (List.mem_of_getElem? (i := 89) rfl))⟩)
  obtain ⟨a_TOKEN_FAILURE, ev_TOKEN_FAILURE⟩ := exa_v nw15
  have E_TOKEN_FAILURE := Exa.start ev_TOKEN_FAILURE nw15
  have S_TOKEN_FAILURE := Sta.start ev_TOKEN_FAILURE (Or.inr ⟨(hw _ (List.mem_of_getElem? (i := 28) rfl)), (hw _ (List.mem_of_getElem? (i := 91) rfl))⟩)
  obtain ⟨a_INVALID_ACTION, ev_INVALID_ACTION⟩ := exa_v nw16
  have E_INVALID_ACTION := Exa.start ev_INVALID_ACTION nw16
  have S_INVALID_ACTION := Sta.start ev_INVALID_ACTION (Or.inr ⟨(hw _ (List.mem_of_getElem? (i := 28) rfl)), (hw _ (List.mem_of_getElem? (i := 93) rfl))⟩)
  obtain ⟨a_INTERNAL_ERROR, ev_INTERNAL_ERROR⟩ := exa_v nw17
  have E_INTERNAL_ERROR := Exa.start ev_INTERNAL_ERROR nw17
  have S_INTERNAL_ERROR := Sta.start ev_INTERNAL_ERROR (Or.inr ⟨(hw _ (List.mem_of_getElem? (i := 28) rfl)), (hw _ (List.mem_of_getElem? (i := 95) rfl))⟩)
  obtain ⟨a_SECRET_ID_NOT_FOUND, ev_SECRET_ID_NOT_FOUND⟩ := exa_v nw18
  have E_SECRET_ID_NOT_FOUND := Exa.start ev_SECRET_ID_NOT_FOUND nw18
  have S_SECRET_ID_NOT_FOUND := Sta.start ev_SECRET_ID_NOT_FOUND (Or.inr ⟨(hw _ (List.mem_of_getElem? (i := 28) rfl)), (hw _ (List.mem_of_getElem? (i := 97) rfl))⟩)
  obtain ⟨a_SIGNATURE_EXPIRE, ev_SIGNATURE_EXPIRE⟩ := exa_v nr18
  have E_SIGNATURE_EXPIRE := Exa.start ev_SIGNATURE_EXPIRE nr18
  have S_SIGNATURE_EXPIRE := Sta.start ev_SIGNATURE_EXPIRE (Or.inr ⟨(hw _ (List.mem_of_getElem? (i := 28) rfl)), (hw _ (List.mem_of_getElem? (i := 99) rfl))⟩)
  obtain ⟨j0, jr0⟩ := and_e (Cond.before_iff.mp (show rest_1_c.before _ s = true from hrest))
  obtain ⟨j1, jr1⟩ := and_e jr0
  obtain ⟨j2, jr2⟩ := and_e jr1
  obtain ⟨zc, evc⟩ := is_v j1
  have hzc := own_neInt evc j2
  have S_C := Sta.start evc (Or.inl (Cond.before_iff.mpr j0))
  have hlit : Jvm.Lit.constHeld s "java/lang/String" 7 := hcalls.1 ("java/lang/String", 7) (by simp [consts_1])
  obtain ⟨n, o, h1, h2, h3, _, L, rfl, ⟨rfl, N⟩, hq⟩ := rm0 l s _ hw tables_1 i0 i1 i2 i3 zc a_MISSING_PARAMETER a_NO_SUCH_VERSION a_SIGNATURE_FAILURE a_INVALID_AUTHORIZATION a_REQUEST_SIZE_LIMIT_EXCEEDED a_UNSUPPORTED_PROTOCOL a_IDENTITY_NOT_EXIST a_IDENTITY_KEY_ERROR a_INVALID_PARAMETER a_IDENTITY_URL_ERROR a_PARAMETER_VALUE a_UNKNOWN_PARAMETER a_RECORD_NOT_EXISTS a_IDENTITY_FULL a_INVALID_PARAMETER_VALUE a_TOKEN_FAILURE a_INVALID_ACTION a_INTERNAL_ERROR a_SECRET_ID_NOT_FOUND a_SIGNATURE_EXPIRE s.heap s.heap.size (Nat.le_refl _) S_MISSING_PARAMETER S_NO_SUCH_VERSION S_SIGNATURE_FAILURE S_INVALID_AUTHORIZATION S_REQUEST_SIZE_LIMIT_EXCEEDED S_UNSUPPORTED_PROTOCOL S_IDENTITY_NOT_EXIST S_IDENTITY_KEY_ERROR S_INVALID_PARAMETER S_IDENTITY_URL_ERROR S_PARAMETER_VALUE S_UNKNOWN_PARAMETER S_RECORD_NOT_EXISTS S_IDENTITY_FULL S_INVALID_PARAMETER_VALUE S_TOKEN_FAILURE S_INVALID_ACTION S_INTERNAL_ERROR S_SECRET_ID_NOT_FOUND S_SIGNATURE_EXPIRE S_C hzc (Cond.before_iff.mpr j2) hlit (fun _ _ q => q) rfl rfl p e ha hc hk s m _ below hf ((Spec.applies_iff_loose hf).mp happ).1 ⟨rfl, State.Warmed39.refl s, rfl, rfl⟩ trivial
  refine ⟨n, _, h1, h2, h3, hpost _ _ _ _ _ _ ⟨Cond.after_iff.mpr rfl, Cond.after_iff.mpr (eq_i res_at (Term.int_eval (1)) rfl), trivial⟩ ⟨hq.1, hq.2.1, hq.2.2.1, (hq.2.2.2.sift fun y hy => Or.inr (N y hy)).mono (by decide) (by decide)⟩⟩
theorem main_1_1 : Claimed_1_1 := comes_1 fun _ _ _ _ _ _ h hF => ⟨h.1, hF⟩
theorem main_1_2 : Claimed_1_2 := comes_1 fun _ _ _ _ _ _ h hF => ⟨h.2.1, hF⟩
end Jvm.Pilot.@@N@@
namespace Jvm.Pilot.@@N@@
open Jvm Jvm.ClassFile Sem Op Lib Jvm.Free Jvm.Stand Jvm.Pilot.@@N@@.Jvm.D
/-! MADE BY PROGRAM (witnessworld.py) out of the Statement's table words and the real class files: 23 classes; the members and pool entries that the words name. The judged class is class 1, her method 2. -/
namespace start1
open Jvm.ClassFile
def u (s : String) : CpInfo := .utf8 (stringToUtf16 s)
/-- a pool by its gaps: so many unusable entries, then the entry; so many at the end -/
def gap : Nat → List CpInfo → List CpInfo
  | 0, r => r
  | n + 1, r => .unusable :: gap n r
def poolList (es : List (Nat × CpInfo)) (last : Nat) : List CpInfo := es.foldr (fun e r => gap e.1 (e.2 :: r)) (gap last [])
def pool (es : List (Nat × CpInfo)) (last : Nat) : Array CpInfo := ⟨poolList es last⟩
def fileOf (pool : Array CpInfo) (this : Nat) (attrs : Array Attribute := #[]) (ms : Array MethodInfo := #[]) (fl : Nat := 33) (sup : Nat := 0) (ifs : Array Nat := #[]) (fds : Array FieldInfo := #[]) : ClassFile where
  minorVersion := 0
  majorVersion := 65
  constantPool := pool
  accessFlags := fl
  thisClass := this
  superClass := sup
  interfaces := ifs
  fields := fds
  methods := ms
  attributes := attrs
def plain (name : String) (sup : Option ClassId) : Class where
  name := name
  kind := .ordinary
  loader := none
  accessFlags := 33
  super := sup
  interfaces := #[]
  cf := none
  fields := #[]
  methods := #[]
  instanceTypes := #[]
  staticTypes := #[]
  resolved := #[]
  callSites := []
  init := .initialized
  statics := none
  mirror := none

def pool0 : Array CpInfo := pool [(5, u "<init>"), (0, u "()V"), (1, .class_ 10), (1, u "java/lang/Object")] 113

def k0c0 : Code := { maxStack := 0, maxLocals := 1, code := object_method_1_code, exceptionTable := #[], attributes := #[] }
def k0m0 : Method := { name := "<init>", desc := "()V", sig := { parameters := [], returnType := none }, accessFlags := 1, code := some k0c0 }
/-- java/lang/Object -/
def k0 : Class := { plain "java/lang/Object" none with
  accessFlags := 33
  interfaces := #[]
  cf := some (fileOf pool0 8 #[] #[{ accessFlags := 1, nameIndex := 5, descriptorIndex := 6, attributes := #[] }] 33 0 #[] #[])
  fields := #[]
  methods := #[k0m0]
  instanceTypes := #[]
  staticTypes := #[]
  resolved := Array.replicate 124 none
  statics := none }

def pool1 : Array CpInfo := pool [(2, .class_ 4), (1, u "java/lang/Object"), (0, u "<init>"), (0, u "()V"), (0, .integer 2147483647), (0, .fieldref 9 10), (0, .class_ 11), (0, .nameAndType 12 13), (0, u "com/example/sealwire/sealwire/ErrorCode"), (0, u "INVALID_AUTHORIZATION"), (0, u "Lcom/example/sealwire/sealwire/ErrorCode;"), (0, .fieldref 9 15), (0, .nameAndType 16 13), (0, u "MISSING_PARAMETER"), (0, .fieldref 9 18), (0, .nameAndType 19 13), (0, u "INVALID_PARAMETER"), (0, .fieldref 9 21), (0, .nameAndType 22 13), (0, u "SECRET_ID_NOT_FOUND"), (0, .fieldref 9 24), (0, .nameAndType 25 13), (0, u "SIGNATURE_EXPIRE"), (0, .fieldref 9 27), (0, .nameAndType 28 13), (0, u "TOKEN_FAILURE"), (0, .fieldref 9 30), (0, .nameAndType 31 13), (0, u "SIGNATURE_FAILURE"), (0, .fieldref 9 33), (0, .nameAndType 34 13), (0, u "UNSUPPORTED_PROTOCOL"), (0, .fieldref 9 36), (0, .nameAndType 37 13), (0, u "REQUEST_SIZE_LIMIT_EXCEEDED"), (0, .fieldref 9 39), (0, .nameAndType 40 13), (0, u "INVALID_ACTION"), (0, .fieldref 9 42), (0, .nameAndType 43 13), (0, u "NO_SUCH_VERSION"), (0, .fieldref 9 45), (0, .nameAndType 46 13), (0, u "UNKNOWN_PARAMETER"), (0, .fieldref 9 48), (0, .nameAndType 49 13), (0, u "PARAMETER_VALUE"), (0, .fieldref 9 51), (0, .nameAndType 52 13), (0, u "INVALID_PARAMETER_VALUE"), (0, .fieldref 9 54), (0, .nameAndType 55 13), (0, u "IDENTITY_URL_ERROR"), (0, .fieldref 9 57), (0, .nameAndType 58 13), (0, u "IDENTITY_KEY_ERROR"), (0, .fieldref 9 60), (0, .nameAndType 61 13), (0, u "RECORD_NOT_EXISTS"), (0, .fieldref 9 63), (0, .nameAndType 64 13), (0, u "IDENTITY_NOT_EXIST"), (0, .fieldref 9 66), (0, .nameAndType 67 13), (0, u "IDENTITY_FULL"), (0, .fieldref 9 69), (0, .nameAndType 70 13), (0, u "INTERNAL_ERROR"), (0, .class_ 72), (0, u "java/lang/String"), (0, .methodref 71 74), (0, .nameAndType 5 75), (0, u "([C)V"), (0, .methodref 77 78), (0, .class_ 79), (0, .nameAndType 80 81), (0, u "com/example/sealwire/sealwire/VerificationIsAcceptedPinLaw"), (0, u "pick"), (0, u "(I)Lcom/example/sealwire/sealwire/ErrorCode;"), (0, .class_ 83), (0, u "com/example/sealwire/sealwire/Verification"), (0, .methodref 82 85), (0, .nameAndType 5 86), (0, u "(Ljava/lang/String;Lcom/example/sealwire/sealwire/ErrorCode;)V"), (0, .methodref 82 88), (0, .nameAndType 89 90), (0, u "isAccepted"), (0, u "()Z"), (3, u "law"), (0, u "(IIII)Z")] 4

def k1m0 : Method := { name := "<init>", desc := "()V", sig := { parameters := [], returnType := none }, accessFlags := 1, code := none }
def k1c1 : Code := { maxStack := 2, maxLocals := 2, code := method_2_code, exceptionTable := #[], attributes := #[] }
def k1m1 : Method := { name := "pick", desc := "(I)Lcom/example/sealwire/sealwire/ErrorCode;", sig := { parameters := [.int], returnType := some (.object "com/example/sealwire/sealwire/ErrorCode") }, accessFlags := 10, code := some k1c1 }
def k1c2 : Code := { maxStack := 4, maxLocals := 11, code := code, exceptionTable := #[], attributes := #[] }
def k1m2 : Method := { name := "law", desc := "(IIII)Z", sig := { parameters := [.int, .int, .int, .int], returnType := some .boolean }, accessFlags := 9, code := some k1c2 }
/-- com/example/sealwire/sealwire/VerificationIsAcceptedPinLaw -/
def k1 : Class := { plain "com/example/sealwire/sealwire/VerificationIsAcceptedPinLaw" (some 0) with
  accessFlags := 49
  interfaces := #[]
  cf := some (fileOf pool1 77 #[] #[{ accessFlags := 1, nameIndex := 5, descriptorIndex := 6, attributes := #[] }, { accessFlags := 10, nameIndex := 80, descriptorIndex := 81, attributes := #[] }, { accessFlags := 9, nameIndex := 94, descriptorIndex := 95, attributes := #[] }] 49 2 #[] #[])
  fields := #[]
  methods := #[k1m0, k1m1, k1m2]
  instanceTypes := #[]
  staticTypes := #[]
  resolved := Array.replicate 100 none
  statics := none }

def pool2 : Array CpInfo := pool [(1, .class_ 2), (0, u "java/io/Serializable"), (0, .class_ 4), (0, u "java/lang/Object")] 2

/-- java/io/Serializable -/
def k2 : Class := { plain "java/io/Serializable" (some 0) with
  accessFlags := 1537
  interfaces := #[]
  cf := some (fileOf pool2 1 #[] #[] 1537 3 #[] #[])
  fields := #[]
  methods := #[]
  instanceTypes := #[]
  staticTypes := #[]
  resolved := Array.replicate 7 none
  statics := none }

def pool3 : Array CpInfo := pool [(1, .class_ 2), (0, u "java/lang/Comparable"), (0, .class_ 4), (0, u "java/lang/Object")] 7

/-- java/lang/Comparable -/
def k3 : Class := { plain "java/lang/Comparable" (some 0) with
  accessFlags := 1537
  interfaces := #[]
  cf := some (fileOf pool3 1 #[] #[] 1537 3 #[] #[])
  fields := #[]
  methods := #[]
  instanceTypes := #[]
  staticTypes := #[]
  resolved := Array.replicate 12 none
  statics := none }

def pool4 : Array CpInfo := pool [(2, .class_ 4), (1, u "java/lang/CharSequence"), (42, .class_ 48), (0, u "java/lang/CharSequence$1CodePointIterator"), (10, .class_ 60), (0, u "java/lang/CharSequence$1CharIterator"), (5, .class_ 67), (0, u "java/lang/Object")] 63

/-- java/lang/CharSequence -/
def k4 : Class := { plain "java/lang/CharSequence" (some 0) with
  accessFlags := 1537
  interfaces := #[]
  cf := some (fileOf pool4 2 #[.nestMembers #[47, 59]] #[] 1537 66 #[] #[])
  fields := #[]
  methods := #[]
  instanceTypes := #[]
  staticTypes := #[]
  resolved := Array.replicate 131 none
  statics := none }

def pool5 : Array CpInfo := pool [(1, .class_ 2), (0, u "java/lang/constant/Constable"), (0, .class_ 4), (0, u "java/lang/Object")] 6

/-- java/lang/constant/Constable -/
def k5 : Class := { plain "java/lang/constant/Constable" (some 0) with
  accessFlags := 1537
  interfaces := #[]
  cf := some (fileOf pool5 1 #[] #[] 1537 3 #[] #[])
  fields := #[]
  methods := #[]
  instanceTypes := #[]
  staticTypes := #[]
  resolved := Array.replicate 11 none
  statics := none }

def pool6 : Array CpInfo := pool [(1, .class_ 2), (0, u "java/lang/constant/ConstantDesc"), (0, .class_ 4), (0, u "java/lang/Object")] 32

/-- java/lang/constant/ConstantDesc -/
def k6 : Class := { plain "java/lang/constant/ConstantDesc" (some 0) with
  accessFlags := 1537
  interfaces := #[]
  cf := some (fileOf pool6 1 #[] #[] 1537 3 #[] #[])
  fields := #[]
  methods := #[]
  instanceTypes := #[]
  staticTypes := #[]
  resolved := Array.replicate 37 none
  statics := none }

def pool7 : Array CpInfo := pool [(1, .methodref 2 3), (0, .class_ 4), (0, .nameAndType 5 6), (0, u "java/lang/Object"), (0, u "<init>"), (0, u "()V"), (0, .string 8), (0, u ""), (0, .fieldref 10 11), (0, .class_ 12), (0, .nameAndType 13 14), (0, u "java/lang/String"), (0, u "value"), (0, u "[B"), (0, .fieldref 10 16), (0, .nameAndType 17 18), (0, u "coder"), (0, u "B"), (2, u "hash"), (0, u "I"), (2, u "hashIsZero"), (0, u "Z"), (0, .methodref 10 28), (0, .nameAndType 5 29), (0, u "([CIILjava/lang/Void;)V"), (8, .fieldref 10 39), (0, .nameAndType 40 26), (0, u "COMPACT_STRINGS"), (1, .class_ 44), (1, u "java/lang/StringUTF16"), (0, u "compress"), (1, .methodref 42 48), (0, .nameAndType 49 50), (0, u "coderFromArrayLen"), (0, u "([BI)B"), (126, .methodref 42 178), (0, .nameAndType 45 179), (0, u "([CII)[B"), (395, .class_ 576), (0, u "java/lang/CharSequence"), (22, u "CASE_INSENSITIVE_ORDER"), (0, u "Ljava/util/Comparator;"), (409, u "([C)V"), (90, u "serialPersistentFields"), (0, u "[Ljava/io/ObjectStreamField;"), (0, .class_ 1104), (0, u "java/lang/String$CaseInsensitiveComparator"), (1, .class_ 1107), (0, u "java/io/Serializable"), (0, .class_ 1109), (0, u "java/lang/Comparable"), (0, .class_ 1111), (0, u "java/lang/constant/Constable"), (0, .class_ 1113), (0, u "java/lang/constant/ConstantDesc"), (2, u "serialVersionUID"), (0, u "J"), (3, u "REPL"), (0, u "C"), (2, u "LATIN1"), (1, u "UTF16")] 323

def k7m0 : Method := { name := "<init>", desc := "()V", sig := { parameters := [], returnType := none }, accessFlags := 1, code := none }
def k7c1 : Code := { maxStack := 5, maxLocals := 2, code := jdk_42_method_3_code, exceptionTable := #[], attributes := #[] }
def k7m1 : Method := { name := "<init>", desc := "([C)V", sig := { parameters := [(.array .char)], returnType := none }, accessFlags := 1, code := some k7c1 }
def k7c2 : Code := { maxStack := 4, maxLocals := 6, code := jdk_42_method_149_code, exceptionTable := #[], attributes := #[] }
def k7m2 : Method := { name := "<init>", desc := "([CIILjava/lang/Void;)V", sig := { parameters := [(.array .char), .int, .int, (.object "java/lang/Void")], returnType := none }, accessFlags := 2, code := some k7c2 }
/-- java/lang/String -/
def k7 : Class := { plain "java/lang/String" (some 0) with
  accessFlags := 49
  interfaces := #[2, 3, 4, 5, 6]
  cf := some (fileOf pool7 10 #[.nestMembers #[1103]] #[{ accessFlags := 1, nameIndex := 5, descriptorIndex := 6, attributes := #[] }, { accessFlags := 1, nameIndex := 5, descriptorIndex := 1010, attributes := #[] }, { accessFlags := 2, nameIndex := 5, descriptorIndex := 29, attributes := #[] }] 49 2 #[1106, 1108, 575, 1110, 1112] #[{ accessFlags := 18, nameIndex := 13, descriptorIndex := 14, attributes := #[] }, { accessFlags := 18, nameIndex := 17, descriptorIndex := 18, attributes := #[] }, { accessFlags := 2, nameIndex := 21, descriptorIndex := 22, attributes := #[] }, { accessFlags := 2, nameIndex := 25, descriptorIndex := 26, attributes := #[] }, { accessFlags := 26, nameIndex := 1116, descriptorIndex := 1117, attributes := #[] }, { accessFlags := 24, nameIndex := 40, descriptorIndex := 26, attributes := #[] }, { accessFlags := 26, nameIndex := 1101, descriptorIndex := 1102, attributes := #[] }, { accessFlags := 26, nameIndex := 1121, descriptorIndex := 1122, attributes := #[] }, { accessFlags := 25, nameIndex := 599, descriptorIndex := 600, attributes := #[] }, { accessFlags := 24, nameIndex := 1125, descriptorIndex := 18, attributes := #[] }, { accessFlags := 24, nameIndex := 1127, descriptorIndex := 18, attributes := #[] }])
  fields := #[{ name := "value", type := (.array .byte), accessFlags := 18, slot := 0, constantValue := 0 }, { name := "coder", type := .byte, accessFlags := 18, slot := 1, constantValue := 0 }, { name := "hash", type := .int, accessFlags := 2, slot := 2, constantValue := 0 }, { name := "hashIsZero", type := .boolean, accessFlags := 2, slot := 3, constantValue := 0 }, { name := "serialVersionUID", type := .long, accessFlags := 26, slot := 0, constantValue := 0 }, { name := "COMPACT_STRINGS", type := .boolean, accessFlags := 24, slot := 1, constantValue := 0 }, { name := "serialPersistentFields", type := (.array (.object "java/io/ObjectStreamField")), accessFlags := 26, slot := 2, constantValue := 0 }, { name := "REPL", type := .char, accessFlags := 26, slot := 3, constantValue := 0 }, { name := "CASE_INSENSITIVE_ORDER", type := (.object "java/util/Comparator"), accessFlags := 25, slot := 4, constantValue := 0 }, { name := "LATIN1", type := .byte, accessFlags := 24, slot := 5, constantValue := 0 }, { name := "UTF16", type := .byte, accessFlags := 24, slot := 6, constantValue := 0 }]
  methods := #[k7m0, k7m1, k7m2]
  instanceTypes := #[(.array .byte), .byte, .int, .boolean]
  staticTypes := #[.long, .boolean, (.array (.object "java/io/ObjectStreamField")), .char, (.object "java/util/Comparator"), .byte, .byte]
  resolved := Array.replicate 1451 none
  statics := some 0 }

def pool8 : Array CpInfo := pool [(2, .class_ 4), (1, u "java/lang/Enum"), (0, u "name"), (0, u "Ljava/lang/String;"), (2, u "ordinal"), (0, u "I"), (1, .class_ 14), (1, u "java/lang/Object"), (4, u "hash"), (86, .class_ 108), (1, u "java/lang/Enum$EnumDesc"), (2, .class_ 112), (0, u "java/lang/constant/Constable"), (0, .class_ 114), (0, u "java/lang/Comparable"), (0, .class_ 116), (0, u "java/io/Serializable")] 87

/-- java/lang/Enum -/
def k8 : Class := { plain "java/lang/Enum" (some 0) with
  accessFlags := 1057
  interfaces := #[5, 3, 2]
  cf := some (fileOf pool8 2 #[.nestMembers #[106]] #[] 1057 12 #[111, 113, 115] #[{ accessFlags := 18, nameIndex := 5, descriptorIndex := 6, attributes := #[] }, { accessFlags := 18, nameIndex := 9, descriptorIndex := 10, attributes := #[] }, { accessFlags := 2, nameIndex := 19, descriptorIndex := 10, attributes := #[] }])
  fields := #[{ name := "name", type := (.object "java/lang/String"), accessFlags := 18, slot := 0, constantValue := 0 }, { name := "ordinal", type := .int, accessFlags := 18, slot := 1, constantValue := 0 }, { name := "hash", type := .int, accessFlags := 2, slot := 2, constantValue := 0 }]
  methods := #[]
  instanceTypes := #[(.object "java/lang/String"), .int, .int]
  staticTypes := #[]
  resolved := Array.replicate 204 none
  statics := none }

def pool9 : Array CpInfo := pool [(1, .class_ 2), (0, u "com/example/sealwire/sealwire/ErrorCode"), (2, u "INVALID_AUTHORIZATION"), (0, u "Lcom/example/sealwire/sealwire/ErrorCode;"), (2, u "MISSING_PARAMETER"), (2, u "INVALID_PARAMETER"), (2, u "SECRET_ID_NOT_FOUND"), (2, u "SIGNATURE_EXPIRE"), (2, u "TOKEN_FAILURE"), (2, u "SIGNATURE_FAILURE"), (2, u "UNSUPPORTED_PROTOCOL"), (2, u "REQUEST_SIZE_LIMIT_EXCEEDED"), (2, u "INVALID_ACTION"), (2, u "NO_SUCH_VERSION"), (2, u "UNKNOWN_PARAMETER"), (2, u "PARAMETER_VALUE"), (2, u "INVALID_PARAMETER_VALUE"), (2, u "IDENTITY_URL_ERROR"), (2, u "IDENTITY_KEY_ERROR"), (2, u "RECORD_NOT_EXISTS"), (2, u "IDENTITY_NOT_EXIST"), (2, u "IDENTITY_FULL"), (2, u "INTERNAL_ERROR"), (2, u "$VALUES"), (0, u "[Lcom/example/sealwire/sealwire/ErrorCode;"), (6, .class_ 76), (1, u "java/lang/Enum"), (8, u "code"), (0, u "Ljava/lang/String;"), (2, u "message")] 120

/-- com/example/sealwire/sealwire/ErrorCode -/
def k9 : Class := { plain "com/example/sealwire/sealwire/ErrorCode" (some 8) with
  accessFlags := 16433
  interfaces := #[]
  cf := some (fileOf pool9 1 #[] #[] 16433 74 #[] #[{ accessFlags := 16409, nameIndex := 5, descriptorIndex := 6, attributes := #[] }, { accessFlags := 16409, nameIndex := 9, descriptorIndex := 6, attributes := #[] }, { accessFlags := 16409, nameIndex := 12, descriptorIndex := 6, attributes := #[] }, { accessFlags := 16409, nameIndex := 15, descriptorIndex := 6, attributes := #[] }, { accessFlags := 16409, nameIndex := 18, descriptorIndex := 6, attributes := #[] }, { accessFlags := 16409, nameIndex := 21, descriptorIndex := 6, attributes := #[] }, { accessFlags := 16409, nameIndex := 24, descriptorIndex := 6, attributes := #[] }, { accessFlags := 16409, nameIndex := 27, descriptorIndex := 6, attributes := #[] }, { accessFlags := 16409, nameIndex := 30, descriptorIndex := 6, attributes := #[] }, { accessFlags := 16409, nameIndex := 33, descriptorIndex := 6, attributes := #[] }, { accessFlags := 16409, nameIndex := 36, descriptorIndex := 6, attributes := #[] }, { accessFlags := 16409, nameIndex := 39, descriptorIndex := 6, attributes := #[] }, { accessFlags := 16409, nameIndex := 42, descriptorIndex := 6, attributes := #[] }, { accessFlags := 16409, nameIndex := 45, descriptorIndex := 6, attributes := #[] }, { accessFlags := 16409, nameIndex := 48, descriptorIndex := 6, attributes := #[] }, { accessFlags := 16409, nameIndex := 51, descriptorIndex := 6, attributes := #[] }, { accessFlags := 16409, nameIndex := 54, descriptorIndex := 6, attributes := #[] }, { accessFlags := 16409, nameIndex := 57, descriptorIndex := 6, attributes := #[] }, { accessFlags := 16409, nameIndex := 60, descriptorIndex := 6, attributes := #[] }, { accessFlags := 16409, nameIndex := 63, descriptorIndex := 6, attributes := #[] }, { accessFlags := 18, nameIndex := 85, descriptorIndex := 86, attributes := #[] }, { accessFlags := 18, nameIndex := 89, descriptorIndex := 86, attributes := #[] }, { accessFlags := 4122, nameIndex := 66, descriptorIndex := 67, attributes := #[] }])
  fields := #[{ name := "INVALID_AUTHORIZATION", type := (.object "com/example/sealwire/sealwire/ErrorCode"), accessFlags := 16409, slot := 0, constantValue := 0 }, { name := "MISSING_PARAMETER", type := (.object "com/example/sealwire/sealwire/ErrorCode"), accessFlags := 16409, slot := 1, constantValue := 0 }, { name := "INVALID_PARAMETER", type := (.object "com/example/sealwire/sealwire/ErrorCode"), accessFlags := 16409, slot := 2, constantValue := 0 }, { name := "SECRET_ID_NOT_FOUND", type := (.object "com/example/sealwire/sealwire/ErrorCode"), accessFlags := 16409, slot := 3, constantValue := 0 }, { name := "SIGNATURE_EXPIRE", type := (.object "com/example/sealwire/sealwire/ErrorCode"), accessFlags := 16409, slot := 4, constantValue := 0 }, { name := "TOKEN_FAILURE", type := (.object "com/example/sealwire/sealwire/ErrorCode"), accessFlags := 16409, slot := 5, constantValue := 0 }, { name := "SIGNATURE_FAILURE", type := (.object "com/example/sealwire/sealwire/ErrorCode"), accessFlags := 16409, slot := 6, constantValue := 0 }, { name := "UNSUPPORTED_PROTOCOL", type := (.object "com/example/sealwire/sealwire/ErrorCode"), accessFlags := 16409, slot := 7, constantValue := 0 }, { name := "REQUEST_SIZE_LIMIT_EXCEEDED", type := (.object "com/example/sealwire/sealwire/ErrorCode"), accessFlags := 16409, slot := 8, constantValue := 0 }, { name := "INVALID_ACTION", type := (.object "com/example/sealwire/sealwire/ErrorCode"), accessFlags := 16409, slot := 9, constantValue := 0 }, { name := "NO_SUCH_VERSION", type := (.object "com/example/sealwire/sealwire/ErrorCode"), accessFlags := 16409, slot := 10, constantValue := 0 }, { name := "UNKNOWN_PARAMETER", type := (.object "com/example/sealwire/sealwire/ErrorCode"), accessFlags := 16409, slot := 11, constantValue := 0 }, { name := "PARAMETER_VALUE", type := (.object "com/example/sealwire/sealwire/ErrorCode"), accessFlags := 16409, slot := 12, constantValue := 0 }, { name := "INVALID_PARAMETER_VALUE", type := (.object "com/example/sealwire/sealwire/ErrorCode"), accessFlags := 16409, slot := 13, constantValue := 0 }, { name := "IDENTITY_URL_ERROR", type := (.object "com/example/sealwire/sealwire/ErrorCode"), accessFlags := 16409, slot := 14, constantValue := 0 }, { name := "IDENTITY_KEY_ERROR", type := (.object "com/example/sealwire/sealwire/ErrorCode"), accessFlags := 16409, slot := 15, constantValue := 0 }, { name := "RECORD_NOT_EXISTS", type := (.object "com/example/sealwire/sealwire/ErrorCode"), accessFlags := 16409, slot := 16, constantValue := 0 }, { name := "IDENTITY_NOT_EXIST", type := (.object "com/example/sealwire/sealwire/ErrorCode"), accessFlags := 16409, slot := 17, constantValue := 0 }, { name := "IDENTITY_FULL", type := (.object "com/example/sealwire/sealwire/ErrorCode"), accessFlags := 16409, slot := 18, constantValue := 0 }, { name := "INTERNAL_ERROR", type := (.object "com/example/sealwire/sealwire/ErrorCode"), accessFlags := 16409, slot := 19, constantValue := 0 }, { name := "code", type := (.object "java/lang/String"), accessFlags := 18, slot := 3, constantValue := 0 }, { name := "message", type := (.object "java/lang/String"), accessFlags := 18, slot := 4, constantValue := 0 }, { name := "$VALUES", type := (.array (.object "com/example/sealwire/sealwire/ErrorCode")), accessFlags := 4122, slot := 20, constantValue := 0 }]
  methods := #[]
  instanceTypes := #[(.object "java/lang/String"), .int, .int, (.object "java/lang/String"), (.object "java/lang/String")]
  staticTypes := #[(.object "com/example/sealwire/sealwire/ErrorCode"), (.object "com/example/sealwire/sealwire/ErrorCode"), (.object "com/example/sealwire/sealwire/ErrorCode"), (.object "com/example/sealwire/sealwire/ErrorCode"), (.object "com/example/sealwire/sealwire/ErrorCode"), (.object "com/example/sealwire/sealwire/ErrorCode"), (.object "com/example/sealwire/sealwire/ErrorCode"), (.object "com/example/sealwire/sealwire/ErrorCode"), (.object "com/example/sealwire/sealwire/ErrorCode"), (.object "com/example/sealwire/sealwire/ErrorCode"), (.object "com/example/sealwire/sealwire/ErrorCode"), (.object "com/example/sealwire/sealwire/ErrorCode"), (.object "com/example/sealwire/sealwire/ErrorCode"), (.object "com/example/sealwire/sealwire/ErrorCode"), (.object "com/example/sealwire/sealwire/ErrorCode"), (.object "com/example/sealwire/sealwire/ErrorCode"), (.object "com/example/sealwire/sealwire/ErrorCode"), (.object "com/example/sealwire/sealwire/ErrorCode"), (.object "com/example/sealwire/sealwire/ErrorCode"), (.object "com/example/sealwire/sealwire/ErrorCode"), (.array (.object "com/example/sealwire/sealwire/ErrorCode"))]
  resolved := Array.replicate 210 none
  statics := some 1 }

def pool10 : Array CpInfo := pool [(1, .methodref 2 3), (0, .class_ 4), (0, .nameAndType 5 6), (0, u "java/lang/Object"), (0, u "<init>"), (0, u "()V"), (0, .class_ 8), (0, u "java/lang/Record")] 13

def k10c0 : Code := { maxStack := 1, maxLocals := 1, code := jdk_30_method_1_code, exceptionTable := #[], attributes := #[] }
def k10m0 : Method := { name := "<init>", desc := "()V", sig := { parameters := [], returnType := none }, accessFlags := 4, code := some k10c0 }
/-- java/lang/Record -/
def k10 : Class := { plain "java/lang/Record" (some 0) with
  accessFlags := 1057
  interfaces := #[]
  cf := some (fileOf pool10 7 #[] #[{ accessFlags := 4, nameIndex := 5, descriptorIndex := 6, attributes := #[] }] 1057 2 #[] #[])
  fields := #[]
  methods := #[k10m0]
  instanceTypes := #[]
  staticTypes := #[]
  resolved := Array.replicate 22 none
  statics := none }

def pool11 : Array CpInfo := pool [(1, .methodref 2 3), (0, .class_ 4), (0, .nameAndType 5 6), (0, u "java/lang/Record"), (0, u "<init>"), (0, u "()V"), (7, .fieldref 15 16), (0, .class_ 17), (0, .nameAndType 18 19), (0, u "com/example/sealwire/sealwire/Verification"), (0, u "secretId"), (0, u "Ljava/lang/String;"), (0, .fieldref 15 21), (0, .nameAndType 22 23), (0, u "error"), (0, u "Lcom/example/sealwire/sealwire/ErrorCode;"), (2, u "(Ljava/lang/String;Lcom/example/sealwire/sealwire/ErrorCode;)V"), (24, u "isAccepted"), (0, u "()Z")] 25

def k11c0 : Code := { maxStack := 3, maxLocals := 3, code := prog_44_method_1_code, exceptionTable := #[], attributes := #[] }
def k11m0 : Method := { name := "<init>", desc := "(Ljava/lang/String;Lcom/example/sealwire/sealwire/ErrorCode;)V", sig := { parameters := [(.object "java/lang/String"), (.object "com/example/sealwire/sealwire/ErrorCode")], returnType := none }, accessFlags := 1, code := some k11c0 }
def k11c1 : Code := { maxStack := 1, maxLocals := 1, code := prog_44_method_4_code, exceptionTable := #[], attributes := #[] }
def k11m1 : Method := { name := "isAccepted", desc := "()Z", sig := { parameters := [], returnType := some .boolean }, accessFlags := 1, code := some k11c1 }
/-- com/example/sealwire/sealwire/Verification -/
def k11 : Class := { plain "com/example/sealwire/sealwire/Verification" (some 10) with
  accessFlags := 49
  interfaces := #[]
  cf := some (fileOf pool11 15 #[] #[{ accessFlags := 1, nameIndex := 5, descriptorIndex := 26, attributes := #[] }, { accessFlags := 1, nameIndex := 51, descriptorIndex := 52, attributes := #[] }] 49 2 #[] #[{ accessFlags := 18, nameIndex := 18, descriptorIndex := 19, attributes := #[] }, { accessFlags := 18, nameIndex := 22, descriptorIndex := 23, attributes := #[] }])
  fields := #[{ name := "secretId", type := (.object "java/lang/String"), accessFlags := 18, slot := 0, constantValue := 0 }, { name := "error", type := (.object "com/example/sealwire/sealwire/ErrorCode"), accessFlags := 18, slot := 1, constantValue := 0 }]
  methods := #[k11m0, k11m1]
  instanceTypes := #[(.object "java/lang/String"), (.object "com/example/sealwire/sealwire/ErrorCode")]
  staticTypes := #[]
  resolved := Array.replicate 78 none
  statics := none }

def pool12 : Array CpInfo := pool [(6, .class_ 8), (1, u "java/lang/Object"), (0, u "<init>"), (0, u "()V"), (1, .class_ 14), (1, u "java/lang/StringUTF16"), (31, u "$assertionsDisabled"), (0, u "Z"), (13, u "HI_BYTE_SHIFT"), (0, u "I"), (2, u "LO_BYTE_SHIFT"), (49, .methodref 12 116), (0, .nameAndType 117 118), (0, u "compress"), (0, u "([CI[BII)I"), (3, u "([CII)[B"), (138, u "coderFromArrayLen"), (0, u "([BI)B"), (106, .class_ 371), (1, u "java/lang/StringUTF16$LinesSpliterator"), (58, u "MAX_LENGTH"), (196, .class_ 628), (0, u "java/lang/StringUTF16$CodePointsSpliterator"), (0, .class_ 630), (0, u "java/lang/StringUTF16$CharsSpliterator")] 4

def k12m0 : Method := { name := "<init>", desc := "()V", sig := { parameters := [], returnType := none }, accessFlags := 0, code := none }
def k12c1 : Code := { maxStack := 2, maxLocals := 2, code := jdk_52_method_15_code, exceptionTable := #[], attributes := #[] }
def k12m1 : Method := { name := "coderFromArrayLen", desc := "([BI)B", sig := { parameters := [(.array .byte), .int], returnType := some .byte }, accessFlags := 8, code := some k12c1 }
def k12c2 : Code := { maxStack := 5, maxLocals := 6, code := jdk_52_method_16_code, exceptionTable := #[], attributes := #[] }
def k12m2 : Method := { name := "compress", desc := "([CII)[B", sig := { parameters := [(.array .char), .int, .int], returnType := some (.array .byte) }, accessFlags := 9, code := some k12c2 }
def k12c3 : Code := { maxStack := 3, maxLocals := 7, code := jdk_52_method_21_code, exceptionTable := #[], attributes := #[] }
def k12m3 : Method := { name := "compress", desc := "([CI[BII)I", sig := { parameters := [(.array .char), .int, (.array .byte), .int, .int], returnType := some .int }, accessFlags := 9, code := some k12c3 }
/-- java/lang/StringUTF16 -/
def k12 : Class := { plain "java/lang/StringUTF16" (some 0) with
  accessFlags := 48
  interfaces := #[]
  cf := some (fileOf pool12 12 #[.nestMembers #[627, 629, 369]] #[{ accessFlags := 0, nameIndex := 9, descriptorIndex := 10, attributes := #[] }, { accessFlags := 8, nameIndex := 261, descriptorIndex := 262, attributes := #[] }, { accessFlags := 9, nameIndex := 117, descriptorIndex := 122, attributes := #[] }, { accessFlags := 9, nameIndex := 117, descriptorIndex := 118, attributes := #[] }] 48 6 #[] #[{ accessFlags := 26, nameIndex := 61, descriptorIndex := 62, attributes := #[] }, { accessFlags := 26, nameIndex := 65, descriptorIndex := 62, attributes := #[] }, { accessFlags := 24, nameIndex := 430, descriptorIndex := 62, attributes := #[] }, { accessFlags := 4120, nameIndex := 46, descriptorIndex := 47, attributes := #[] }])
  fields := #[{ name := "HI_BYTE_SHIFT", type := .int, accessFlags := 26, slot := 0, constantValue := 0 }, { name := "LO_BYTE_SHIFT", type := .int, accessFlags := 26, slot := 1, constantValue := 0 }, { name := "MAX_LENGTH", type := .int, accessFlags := 24, slot := 2, constantValue := 0 }, { name := "$assertionsDisabled", type := .boolean, accessFlags := 4120, slot := 3, constantValue := 0 }]
  methods := #[k12m0, k12m1, k12m2, k12m3]
  instanceTypes := #[]
  staticTypes := #[.int, .int, .int, .boolean]
  resolved := Array.replicate 635 none
  statics := none }

def pool13 : Array CpInfo := pool [(4, .class_ 6), (1, u "java/lang/Object"), (0, u "<init>"), (0, u "()V"), (5, .class_ 16), (1, u "java/lang/StringLatin1"), (104, u "$assertionsDisabled"), (0, u "Z"), (98, .class_ 223), (1, u "java/lang/StringLatin1$LinesSpliterator"), (166, .class_ 391), (0, u "java/lang/StringLatin1$CharsSpliterator")] 3

def k13m0 : Method := { name := "<init>", desc := "()V", sig := { parameters := [], returnType := none }, accessFlags := 0, code := none }
/-- java/lang/StringLatin1 -/
def k13 : Class := { plain "java/lang/StringLatin1" (some 0) with
  accessFlags := 48
  interfaces := #[]
  cf := some (fileOf pool13 14 #[.nestMembers #[390, 221]] #[{ accessFlags := 0, nameIndex := 7, descriptorIndex := 8, attributes := #[] }] 48 4 #[] #[{ accessFlags := 4120, nameIndex := 121, descriptorIndex := 122, attributes := #[] }])
  fields := #[{ name := "$assertionsDisabled", type := .boolean, accessFlags := 4120, slot := 0, constantValue := 0 }]
  methods := #[k13m0]
  instanceTypes := #[]
  staticTypes := #[.boolean]
  resolved := Array.replicate 395 none
  statics := none }

def pool14 : Array CpInfo := pool [(2, .class_ 4), (1, u "java/lang/Object"), (0, u "<init>"), (0, u "()V"), (17, .class_ 26), (1, u "jdk/internal/util/Preconditions"), (28, .class_ 56), (0, u "jdk/internal/util/Preconditions$4"), (57, .class_ 115), (0, u "jdk/internal/util/Preconditions$1"), (7, u "SIOOBE_FORMATTER"), (0, u "Ljava/util/function/BiFunction;"), (0, .class_ 126), (0, u "jdk/internal/util/Preconditions$2"), (3, u "AIOOBE_FORMATTER"), (0, .class_ 132), (0, u "jdk/internal/util/Preconditions$3"), (3, u "IOOBE_FORMATTER")] 57

def k14m0 : Method := { name := "<init>", desc := "()V", sig := { parameters := [], returnType := none }, accessFlags := 1, code := none }
/-- jdk/internal/util/Preconditions -/
def k14 : Class := { plain "jdk/internal/util/Preconditions" (some 0) with
  accessFlags := 33
  interfaces := #[]
  cf := some (fileOf pool14 24 #[.nestMembers #[55, 131, 125, 114]] #[{ accessFlags := 1, nameIndex := 5, descriptorIndex := 6, attributes := #[] }] 33 2 #[] #[{ accessFlags := 25, nameIndex := 123, descriptorIndex := 124, attributes := #[] }, { accessFlags := 25, nameIndex := 130, descriptorIndex := 124, attributes := #[] }, { accessFlags := 25, nameIndex := 136, descriptorIndex := 124, attributes := #[] }])
  fields := #[{ name := "SIOOBE_FORMATTER", type := (.object "java/util/function/BiFunction"), accessFlags := 25, slot := 0, constantValue := 0 }, { name := "AIOOBE_FORMATTER", type := (.object "java/util/function/BiFunction"), accessFlags := 25, slot := 1, constantValue := 0 }, { name := "IOOBE_FORMATTER", type := (.object "java/util/function/BiFunction"), accessFlags := 25, slot := 2, constantValue := 0 }]
  methods := #[k14m0]
  instanceTypes := #[]
  staticTypes := #[(.object "java/util/function/BiFunction"), (.object "java/util/function/BiFunction"), (.object "java/util/function/BiFunction")]
  resolved := Array.replicate 194 none
  statics := some 2 }

def pool15 : Array CpInfo := pool [(9, u "<init>"), (6, .class_ 18), (1, u "java/lang/Object"), (0, u "()V"), (1, .class_ 23), (1, u "jdk/internal/util/ArraysSupport"), (0, u "LOG2_ARRAY_LONG_INDEX_SCALE"), (0, u "I"), (2, u "U"), (0, u "Ljdk/internal/misc/Unsafe;"), (8, u "BIG_ENDIAN"), (0, u "Z"), (8, u "LOG2_BYTE_BIT_SIZE"), (4, u "LOG2_ARRAY_INT_INDEX_SCALE"), (54, u "JLA"), (0, u "Ljdk/internal/access/JavaLangAccess;"), (11, u "LOG2_ARRAY_BOOLEAN_INDEX_SCALE"), (9, u "LOG2_ARRAY_BYTE_INDEX_SCALE"), (5, u "LOG2_ARRAY_CHAR_INDEX_SCALE"), (5, u "LOG2_ARRAY_SHORT_INDEX_SCALE"), (18, u "LOG2_ARRAY_FLOAT_INDEX_SCALE"), (24, u "LOG2_ARRAY_DOUBLE_INDEX_SCALE"), (89, u "T_BOOLEAN"), (2, u "T_CHAR"), (1, u "T_FLOAT"), (1, u "T_DOUBLE"), (1, u "T_BYTE"), (1, u "T_SHORT"), (1, u "T_INT"), (1, u "T_LONG"), (1, u "SOFT_MAX_ARRAY_LENGTH")] 83

def k15m0 : Method := { name := "<init>", desc := "()V", sig := { parameters := [], returnType := none }, accessFlags := 2, code := none }
/-- jdk/internal/util/ArraysSupport -/
def k15 : Class := { plain "jdk/internal/util/ArraysSupport" (some 0) with
  accessFlags := 33
  interfaces := #[]
  cf := some (fileOf pool15 21 #[] #[{ accessFlags := 2, nameIndex := 9, descriptorIndex := 19, attributes := #[] }] 33 16 #[] #[{ accessFlags := 24, nameIndex := 28, descriptorIndex := 29, attributes := #[] }, { accessFlags := 26, nameIndex := 38, descriptorIndex := 39, attributes := #[] }, { accessFlags := 25, nameIndex := 121, descriptorIndex := 25, attributes := #[] }, { accessFlags := 25, nameIndex := 131, descriptorIndex := 25, attributes := #[] }, { accessFlags := 25, nameIndex := 137, descriptorIndex := 25, attributes := #[] }, { accessFlags := 25, nameIndex := 143, descriptorIndex := 25, attributes := #[] }, { accessFlags := 25, nameIndex := 53, descriptorIndex := 25, attributes := #[] }, { accessFlags := 25, nameIndex := 24, descriptorIndex := 25, attributes := #[] }, { accessFlags := 25, nameIndex := 162, descriptorIndex := 25, attributes := #[] }, { accessFlags := 25, nameIndex := 187, descriptorIndex := 25, attributes := #[] }, { accessFlags := 26, nameIndex := 48, descriptorIndex := 25, attributes := #[] }, { accessFlags := 25, nameIndex := 277, descriptorIndex := 25, attributes := #[] }, { accessFlags := 25, nameIndex := 280, descriptorIndex := 25, attributes := #[] }, { accessFlags := 25, nameIndex := 282, descriptorIndex := 25, attributes := #[] }, { accessFlags := 25, nameIndex := 284, descriptorIndex := 25, attributes := #[] }, { accessFlags := 25, nameIndex := 286, descriptorIndex := 25, attributes := #[] }, { accessFlags := 25, nameIndex := 288, descriptorIndex := 25, attributes := #[] }, { accessFlags := 25, nameIndex := 290, descriptorIndex := 25, attributes := #[] }, { accessFlags := 25, nameIndex := 292, descriptorIndex := 25, attributes := #[] }, { accessFlags := 26, nameIndex := 108, descriptorIndex := 109, attributes := #[] }, { accessFlags := 25, nameIndex := 294, descriptorIndex := 25, attributes := #[] }])
  fields := #[{ name := "U", type := (.object "jdk/internal/misc/Unsafe"), accessFlags := 24, slot := 0, constantValue := 0 }, { name := "BIG_ENDIAN", type := .boolean, accessFlags := 26, slot := 1, constantValue := 0 }, { name := "LOG2_ARRAY_BOOLEAN_INDEX_SCALE", type := .int, accessFlags := 25, slot := 2, constantValue := 0 }, { name := "LOG2_ARRAY_BYTE_INDEX_SCALE", type := .int, accessFlags := 25, slot := 3, constantValue := 0 }, { name := "LOG2_ARRAY_CHAR_INDEX_SCALE", type := .int, accessFlags := 25, slot := 4, constantValue := 0 }, { name := "LOG2_ARRAY_SHORT_INDEX_SCALE", type := .int, accessFlags := 25, slot := 5, constantValue := 0 }, { name := "LOG2_ARRAY_INT_INDEX_SCALE", type := .int, accessFlags := 25, slot := 6, constantValue := 0 }, { name := "LOG2_ARRAY_LONG_INDEX_SCALE", type := .int, accessFlags := 25, slot := 7, constantValue := 0 }, { name := "LOG2_ARRAY_FLOAT_INDEX_SCALE", type := .int, accessFlags := 25, slot := 8, constantValue := 0 }, { name := "LOG2_ARRAY_DOUBLE_INDEX_SCALE", type := .int, accessFlags := 25, slot := 9, constantValue := 0 }, { name := "LOG2_BYTE_BIT_SIZE", type := .int, accessFlags := 26, slot := 10, constantValue := 0 }, { name := "T_BOOLEAN", type := .int, accessFlags := 25, slot := 11, constantValue := 0 }, { name := "T_CHAR", type := .int, accessFlags := 25, slot := 12, constantValue := 0 }, { name := "T_FLOAT", type := .int, accessFlags := 25, slot := 13, constantValue := 0 }, { name := "T_DOUBLE", type := .int, accessFlags := 25, slot := 14, constantValue := 0 }, { name := "T_BYTE", type := .int, accessFlags := 25, slot := 15, constantValue := 0 }, { name := "T_SHORT", type := .int, accessFlags := 25, slot := 16, constantValue := 0 }, { name := "T_INT", type := .int, accessFlags := 25, slot := 17, constantValue := 0 }, { name := "T_LONG", type := .int, accessFlags := 25, slot := 18, constantValue := 0 }, { name := "JLA", type := (.object "jdk/internal/access/JavaLangAccess"), accessFlags := 26, slot := 19, constantValue := 0 }, { name := "SOFT_MAX_ARRAY_LENGTH", type := .int, accessFlags := 25, slot := 20, constantValue := 0 }]
  methods := #[k15m0]
  instanceTypes := #[]
  staticTypes := #[(.object "jdk/internal/misc/Unsafe"), .boolean, .int, .int, .int, .int, .int, .int, .int, .int, .int, .int, .int, .int, .int, .int, .int, .int, .int, (.object "jdk/internal/access/JavaLangAccess"), .int]
  resolved := Array.replicate 378 none
  statics := none }

def pool16 : Array CpInfo := pool [(1, u "java/lang/Cloneable"), (0, .class_ 1), (0, u "java/lang/Object"), (0, .class_ 3)] 3

/-- java/lang/Cloneable -/
def k16 : Class := { plain "java/lang/Cloneable" (some 0) with
  accessFlags := 1537
  interfaces := #[]
  cf := some (fileOf pool16 2 #[] #[] 1537 4 #[] #[])
  fields := #[]
  methods := #[]
  instanceTypes := #[]
  staticTypes := #[]
  resolved := Array.replicate 8 none
  statics := none }

/-- the primitive byte -/
def k17 : Class := { plain "byte" none with kind := .primitive 'B', accessFlags := 0x411 }
/-- [B -/
def k18 : Class := { plain "[B" (some 0) with kind := .array 17 .byte, interfaces := #[16, 2], accessFlags := 1041 }

/-- the primitive char -/
def k19 : Class := { plain "char" none with kind := .primitive 'C', accessFlags := 0x411 }
/-- [C -/
def k20 : Class := { plain "[C" (some 0) with kind := .array 19 .char, interfaces := #[16, 2], accessFlags := 1041 }

/-- the primitive int -/
def k21 : Class := { plain "int" none with kind := .primitive 'I', accessFlags := 0x411 }
/-- [I -/
def k22 : Class := { plain "[I" (some 0) with kind := .array 21 .int, interfaces := #[16, 2], accessFlags := 1041 }

def heap : Heap := #[{ cls := 7, slots := #[.long 0, .int 1, .null, .int 0, .null, .int 0, .int 0], vm := .statics 7 },
  { cls := 9, slots := #[.ref 6, .ref 3, .ref 11, .ref 21, .ref 22, .ref 18, .ref 5, .ref 8, .ref 7, .ref 19, .ref 4, .ref 14, .ref 13, .ref 17, .ref 12, .ref 10, .ref 15, .ref 9, .ref 16, .ref 20, .null], vm := .statics 9 },
  { cls := 14, slots := #[.null, .null, .null], vm := .statics 14 },
  { cls := 9, slots := #[.null, .int 0, .int 0, .null, .null], vm := .none },
  { cls := 9, slots := #[.null, .int 0, .int 0, .null, .null], vm := .none },
  { cls := 9, slots := #[.null, .int 0, .int 0, .null, .null], vm := .none },
  { cls := 9, slots := #[.null, .int 0, .int 0, .null, .null], vm := .none },
  { cls := 9, slots := #[.null, .int 0, .int 0, .null, .null], vm := .none },
  { cls := 9, slots := #[.null, .int 0, .int 0, .null, .null], vm := .none },
  { cls := 9, slots := #[.null, .int 0, .int 0, .null, .null], vm := .none },
  { cls := 9, slots := #[.null, .int 0, .int 0, .null, .null], vm := .none },
  { cls := 9, slots := #[.null, .int 0, .int 0, .null, .null], vm := .none },
  { cls := 9, slots := #[.null, .int 0, .int 0, .null, .null], vm := .none },
  { cls := 9, slots := #[.null, .int 0, .int 0, .null, .null], vm := .none },
  { cls := 9, slots := #[.null, .int 0, .int 0, .null, .null], vm := .none },
  { cls := 9, slots := #[.null, .int 0, .int 0, .null, .null], vm := .none },
  { cls := 9, slots := #[.null, .int 0, .int 0, .null, .null], vm := .none },
  { cls := 9, slots := #[.null, .int 0, .int 0, .null, .null], vm := .none },
  { cls := 9, slots := #[.null, .int 0, .int 0, .null, .null], vm := .none },
  { cls := 9, slots := #[.null, .int 0, .int 0, .null, .null], vm := .none },
  { cls := 9, slots := #[.null, .int 0, .int 0, .null, .null], vm := .none },
  { cls := 9, slots := #[.null, .int 0, .int 0, .null, .null], vm := .none },
  { cls := 9, slots := #[.null, .int 0, .int 0, .null, .null], vm := .none }]
def classes : Array Class := #[k0, k1, k2, k3, k4, k5, k6, k7, k8, k9, k10, k11, k12, k13, k14, k15, k16, k17, k18, k19, k20, k21, k22]
def interned : List (Array UInt16 × Addr) := []
def slotsUsed : Nat := 131
def theMethod : MethodId := ⟨1, 2⟩
def args0 : Array Value := #[.int 3, .int 65, .int 66, .int 7]
def aboutOver (below : List Frame) : State where
  vm := { classes := classes, interned := interned.toArray }
  heap := heap
  slotsUsed := slotsUsed
  threads := #[{ frames := .invoking theMethod args0 :: below }]
def below0 : List Frame := [.native { method := ⟨0, 0⟩, args := #[] }]
def about1 : State := aboutOver below0
def p0 : Program := .bare "" "" ""
def e0 : Env := launch0.env 0 0 0
theorem w_frames : about1.frames = Frame.invoking theMethod args0 :: below0 := rfl
set_option maxRecDepth 65536 in
theorem w_args : argsFit about1.vm theMethod args0 = true := by decide +kernel
set_option maxRecDepth 65536 in
theorem w_heap : heapFits about1 = true := by decide +kernel
set_option maxRecDepth 65536 in
theorem w_runnable : about1.curStatus? = some .runnable := by decide +kernel
set_option maxRecDepth 65536 in
theorem w_alone : about1.alone = true := by decide +kernel
set_option maxRecDepth 65536 in
theorem w_named : about1.methodNamed? x = some theMethod := by decide +kernel
set_option maxRecDepth 65536 in
theorem w_hears : about1.hears theMethod below0 = true := by decide +kernel
set_option maxRecDepth 65536 in
theorem w_ripe : about1.ripe theMethod args0 below0 = true := by decide +kernel
theorem w_running : about1.status = .running := rfl
set_option maxRecDepth 65536 in
theorem w_room : about1.hasRoom e0.platform room_1 = true :=
  launch0.hasRoom_least _ room_1 (by decide +kernel) (by decide +kernel) (by decide +kernel) (by decide +kernel) (by decide +kernel) (by decide +kernel)
theorem allAtoms_all (ts : List Jvm.Cond) (a : Array Jvm.Value) (st : Jvm.State) : (allAtoms ts).before a st = ts.all (fun c => c.before a st) := by
  induction ts with
  | nil => rfl
  | cons c t ih =>
    show (Jvm.Cond.and c (allAtoms t)).before a st = _
    rw [Jvm.Cond.before_and, ih, List.all_cons]
def words1 : List Jvm.Cond := Jvm.Cond.code x code maxLocals ret :: tables_1
/-- a 'code' word, met by the world's own term for the bytes: nothing is compared byte by byte -/
theorem code_word {y : MethodName} {bytes : ByteArray} {mx : Nat} {rt : Option FieldType} {a : Array Value} {s : State} {m : MethodId} {meth : Method} {c : Code} (h1 : s.methodNamed? y = some m) (h2 : s.vm.method? m = some meth) (h3 : meth.code = some c) (h4 : c.code = bytes)
    (h5 : (c.maxLocals == mx && c.exceptionTable.isEmpty && decide (c.maxStack ≤ mostOperands) && decide (meth.sig.returnType = rt) && !meth.locks && decide (parseMethodDescriptor y.desc = some meth.sig)) = true) : (Jvm.Cond.code y bytes mx rt).before a s = true := by
  simp only [Bool.and_eq_true, beq_iff_eq, Bool.not_eq_true', decide_eq_true_eq] at h5
  obtain ⟨⟨⟨⟨⟨g1, g2⟩, g3⟩, g4⟩, g5⟩, g6⟩ := h5
  simp [Cond.before, Cond.holds, Cond.value, h1, h2, h3, h4, g1, g2, g3, g4, g5, g6]
def isCode : Jvm.Cond → Bool
  | .code _ _ _ _ => true
  | _ => false
theorem all_split {L : List Jvm.Cond} {P : Jvm.Cond → Bool} (h1 : L.all (fun c => isCode c || P c) = true) (h2 : ∀ c ∈ L.filter isCode, P c = true) : L.all P = true := by
  refine List.all_eq_true.mpr fun c hc => ?_
  have h := List.all_eq_true.mp h1 c hc
  rcases Bool.eq_false_or_eq_true (isCode c) with hi | hi
  · exact h2 c (List.mem_filter.mpr ⟨hc, hi⟩)
  · simpa [hi] using h
set_option maxRecDepth 65536 in
theorem w_c0 : (Jvm.Cond.code x code maxLocals ret).before args0 about1 = true := code_word (m := ⟨1, 2⟩) (meth := k1m2) (c := k1c2) (by decide +kernel) rfl rfl rfl (by decide +kernel)
set_option maxRecDepth 65536 in
theorem w_c1 : (Jvm.Cond.code ({ cls := "java/lang/String", name := "<init>", desc := "([C)V" } : Jvm.MethodName) jdk_42_method_3_code (2 : Nat) (Option.none : Option Jvm.ClassFile.FieldType)).before args0 about1 = true := code_word (m := ⟨7, 1⟩) (meth := k7m1) (c := k7c1) (by decide +kernel) rfl rfl rfl (by decide +kernel)
set_option maxRecDepth 65536 in
theorem w_c2 : (Jvm.Cond.code ({ cls := "java/lang/String", name := "<init>", desc := "([CIILjava/lang/Void;)V" } : Jvm.MethodName) jdk_42_method_149_code (6 : Nat) (Option.none : Option Jvm.ClassFile.FieldType)).before args0 about1 = true := code_word (m := ⟨7, 2⟩) (meth := k7m2) (c := k7c2) (by decide +kernel) rfl rfl rfl (by decide +kernel)
set_option maxRecDepth 65536 in
theorem w_c3 : (Jvm.Cond.code ({ cls := "java/lang/Object", name := "<init>", desc := "()V" } : Jvm.MethodName) object_method_1_code (1 : Nat) (Option.none : Option Jvm.ClassFile.FieldType)).before args0 about1 = true := code_word (m := ⟨0, 0⟩) (meth := k0m0) (c := k0c0) (by decide +kernel) rfl rfl rfl (by decide +kernel)
set_option maxRecDepth 65536 in
theorem w_c4 : (Jvm.Cond.code ({ cls := "com/example/sealwire/sealwire/VerificationIsAcceptedPinLaw", name := "pick", desc := "(I)Lcom/example/sealwire/sealwire/ErrorCode;" } : Jvm.MethodName) method_2_code (2 : Nat) (Option.some (Jvm.ClassFile.FieldType.object "com/example/sealwire/sealwire/ErrorCode"))).before args0 about1 = true := code_word (m := ⟨1, 1⟩) (meth := k1m1) (c := k1c1) (by decide +kernel) rfl rfl rfl (by decide +kernel)
set_option maxRecDepth 65536 in
theorem w_c5 : (Jvm.Cond.code ({ cls := "com/example/sealwire/sealwire/Verification", name := "<init>", desc := "(Ljava/lang/String;Lcom/example/sealwire/sealwire/ErrorCode;)V" } : Jvm.MethodName) prog_44_method_1_code (3 : Nat) (Option.none : Option Jvm.ClassFile.FieldType)).before args0 about1 = true := code_word (m := ⟨11, 0⟩) (meth := k11m0) (c := k11c0) (by decide +kernel) rfl rfl rfl (by decide +kernel)
set_option maxRecDepth 65536 in
theorem w_c6 : (Jvm.Cond.code ({ cls := "java/lang/Record", name := "<init>", desc := "()V" } : Jvm.MethodName) jdk_30_method_1_code (1 : Nat) (Option.none : Option Jvm.ClassFile.FieldType)).before args0 about1 = true := code_word (m := ⟨10, 0⟩) (meth := k10m0) (c := k10c0) (by decide +kernel) rfl rfl rfl (by decide +kernel)
set_option maxRecDepth 65536 in
theorem w_c7 : (Jvm.Cond.code ({ cls := "com/example/sealwire/sealwire/Verification", name := "isAccepted", desc := "()Z" } : Jvm.MethodName) prog_44_method_4_code (1 : Nat) (Option.some Jvm.ClassFile.FieldType.boolean)).before args0 about1 = true := code_word (m := ⟨11, 1⟩) (meth := k11m1) (c := k11c1) (by decide +kernel) rfl rfl rfl (by decide +kernel)
set_option maxRecDepth 65536 in
theorem w_c8 : (Jvm.Cond.code ({ cls := "java/lang/StringUTF16", name := "compress", desc := "([CII)[B" } : Jvm.MethodName) jdk_52_method_16_code (6 : Nat) (Option.some (Jvm.ClassFile.FieldType.array Jvm.ClassFile.FieldType.byte))).before args0 about1 = true := code_word (m := ⟨12, 2⟩) (meth := k12m2) (c := k12c2) (by decide +kernel) rfl rfl rfl (by decide +kernel)
set_option maxRecDepth 65536 in
theorem w_c9 : (Jvm.Cond.code ({ cls := "java/lang/StringUTF16", name := "compress", desc := "([CI[BII)I" } : Jvm.MethodName) jdk_52_method_21_code (7 : Nat) (Option.some Jvm.ClassFile.FieldType.int)).before args0 about1 = true := code_word (m := ⟨12, 3⟩) (meth := k12m3) (c := k12c3) (by decide +kernel) rfl rfl rfl (by decide +kernel)
set_option maxRecDepth 65536 in
theorem w_c10 : (Jvm.Cond.code ({ cls := "java/lang/StringUTF16", name := "coderFromArrayLen", desc := "([BI)B" } : Jvm.MethodName) jdk_52_method_15_code (2 : Nat) (Option.some Jvm.ClassFile.FieldType.byte)).before args0 about1 = true := code_word (m := ⟨12, 1⟩) (meth := k12m1) (c := k12c1) (by decide +kernel) rfl rfl rfl (by decide +kernel)
def codes1 : List Jvm.Cond := [Jvm.Cond.code x code maxLocals ret, Jvm.Cond.code ({ cls := "java/lang/String", name := "<init>", desc := "([C)V" } : Jvm.MethodName) jdk_42_method_3_code (2 : Nat) (Option.none : Option Jvm.ClassFile.FieldType), Jvm.Cond.code ({ cls := "java/lang/String", name := "<init>", desc := "([CIILjava/lang/Void;)V" } : Jvm.MethodName) jdk_42_method_149_code (6 : Nat) (Option.none : Option Jvm.ClassFile.FieldType), Jvm.Cond.code ({ cls := "java/lang/Object", name := "<init>", desc := "()V" } : Jvm.MethodName) object_method_1_code (1 : Nat) (Option.none : Option Jvm.ClassFile.FieldType), Jvm.Cond.code ({ cls := "com/example/sealwire/sealwire/VerificationIsAcceptedPinLaw", name := "pick", desc := "(I)Lcom/example/sealwire/sealwire/ErrorCode;" } : Jvm.MethodName) method_2_code (2 : Nat) (Option.some (Jvm.ClassFile.FieldType.object "com/example/sealwire/sealwire/ErrorCode")), Jvm.Cond.code ({ cls := "com/example/sealwire/sealwire/Verification", name := "<init>", desc := "(Ljava/lang/String;Lcom/example/sealwire/sealwire/ErrorCode;)V" } : Jvm.MethodName) prog_44_method_1_code (3 : Nat) (Option.none : Option Jvm.ClassFile.FieldType), Jvm.Cond.code ({ cls := "java/lang/Record", name := "<init>", desc := "()V" } : Jvm.MethodName) jdk_30_method_1_code (1 : Nat) (Option.none : Option Jvm.ClassFile.FieldType), Jvm.Cond.code ({ cls := "com/example/sealwire/sealwire/Verification", name := "isAccepted", desc := "()Z" } : Jvm.MethodName) prog_44_method_4_code (1 : Nat) (Option.some Jvm.ClassFile.FieldType.boolean), Jvm.Cond.code ({ cls := "java/lang/StringUTF16", name := "compress", desc := "([CII)[B" } : Jvm.MethodName) jdk_52_method_16_code (6 : Nat) (Option.some (Jvm.ClassFile.FieldType.array Jvm.ClassFile.FieldType.byte)), Jvm.Cond.code ({ cls := "java/lang/StringUTF16", name := "compress", desc := "([CI[BII)I" } : Jvm.MethodName) jdk_52_method_21_code (7 : Nat) (Option.some Jvm.ClassFile.FieldType.int), Jvm.Cond.code ({ cls := "java/lang/StringUTF16", name := "coderFromArrayLen", desc := "([BI)B" } : Jvm.MethodName) jdk_52_method_15_code (2 : Nat) (Option.some Jvm.ClassFile.FieldType.byte)]
set_option maxRecDepth 65536 in
theorem codes_eq : words1.filter isCode = codes1 := rfl
theorem w_codes : ∀ c ∈ words1.filter isCode, c.before args0 about1 = true := by
  rw [codes_eq]
  intro c hc
  simp only [codes1, List.mem_cons, List.not_mem_nil, or_false] at hc
  rcases hc with rfl | rfl | rfl | rfl | rfl | rfl | rfl | rfl | rfl | rfl | rfl
  · exact w_c0
  · exact w_c1
  · exact w_c2
  · exact w_c3
  · exact w_c4
  · exact w_c5
  · exact w_c6
  · exact w_c7
  · exact w_c8
  · exact w_c9
  · exact w_c10
set_option maxRecDepth 65536 in
theorem w_t1 : (words1.take 24).all (fun c => isCode c || c.before args0 about1) = true := by decide +kernel
set_option maxRecDepth 65536 in
theorem w_t2 : ((words1.drop 24).take 24).all (fun c => isCode c || c.before args0 about1) = true := by decide +kernel
set_option maxRecDepth 65536 in
theorem w_t3 : (((words1.drop 24).drop 24).take 24).all (fun c => isCode c || c.before args0 about1) = true := by decide +kernel
set_option maxRecDepth 65536 in
theorem w_t4 : ((((words1.drop 24).drop 24).drop 24).take 24).all (fun c => isCode c || c.before args0 about1) = true := by decide +kernel
set_option maxRecDepth 65536 in
theorem w_t5 : ((((words1.drop 24).drop 24).drop 24).drop 24).all (fun c => isCode c || c.before args0 about1) = true := by decide +kernel
theorem w_tables : (allAtoms (Jvm.Cond.code x code maxLocals ret :: tables_1)).before args0 about1 = true := by
  rw [allAtoms_all]
  show words1.all (fun c => c.before args0 about1) = true
  refine all_split ?_ w_codes
  rw [← List.take_append_drop 24 words1, List.all_append, w_t1, ← List.take_append_drop 24 (words1.drop 24), List.all_append, w_t2, ← List.take_append_drop 24 ((words1.drop 24).drop 24), List.all_append, w_t3, ← List.take_append_drop 24 (((words1.drop 24).drop 24).drop 24), List.all_append, w_t4, w_t5]
  rfl
set_option maxRecDepth 65536 in
theorem w_rest : rest_1_c.before args0 about1 = true := by decide +kernel
set_option maxRecDepth 65536 in
theorem w_case : (Jvm.Cond.and given_1 narrow_1).before args0 about1 = true := by decide +kernel
set_option maxRecDepth 65536 in
theorem w_consts : constsHeld consts_1 about1 := Jvm.Lit.constsHeldB_iff.mp (by decide +kernel)
theorem w_applies : (headSpec (Jvm.Cond.code x code maxLocals ret :: tables_1) room_1).applies x e0.platform about1 = true :=
  (Spec.applies_iff w_frames).mpr ⟨w_running, w_runnable, w_alone, w_named, w_hears, w_ripe, w_room, w_tables⟩
theorem atStart : AtStart classFile x code maxLocals ret World_1 tables_1 room_1 Calls_1 rest_1 Pre_1 launch0 p0 e0 about1 theMethod args0 below0 :=
  ⟨lists_1, trivial, launch0.admits_env _ _ _, launch0.least_env, fairChoices_fair.cas, fairChoices_fair.clock, w_frames, w_args, w_heap, w_applies, ⟨w_consts, trivial⟩, w_rest, w_case⟩
end start1
theorem witness_1 : WitnessClaimed_1 := ⟨start1.p0, start1.e0, start1.about1, start1.theMethod, start1.args0, start1.below0, start1.atStart⟩
end Jvm.Pilot.@@N@@
