import JvmDerived
import JvmDerived.Pilot.@@N@@Statement
import JvmDerived.Pilot.@@N@@Code
set_option linter.unusedVariables false
set_option linter.unusedSimpArgs false
namespace Jvm.RoadKit
open Sem ClassFile Op Lib Jvm.Stand Jvm.Free Jvm.LawKit
section New
variable {p : Program} {l : Launch} {e : Env} {R : Room} {s : State} {m : MethodId} {args : Array Value} {below : List Frame} {meth : Method} {c : Code} {T : State} {locs : List Loc} {cells slots : Nat}
theorem retI (X : Stand p l e R s m args below meth c T locs cells slots) (hx : p.tables.exec = Jvm.exec) {pc : Nat} {Ls : Array Slot} {z : Int32} {rest : List Value} (hret : meth.sig.returnType = some .int) (hd : decode c.code pc = .ok (.ireturn, 1)) {fs : List Frame}
    (hl : ∀ (f : JFrame) (acts : List Action), f.method = m → f.locked = none → f.entered = [] → (doReturn e (T.setTop f) acts (some (.int z))).1 = T.setFrames fs) : Steps p.tables e below (T.setTop (mkF m pc Ls (.int z :: rest))) (T.setFrames fs) := by
  have hm' : T.vm.method? m = some meth := X.method'
  have hn : narrow .int (.int z) = .int z := rfl
  show Steps p.tables e below (T.setTop { method := m, pc := pc, locals := Ls, stack := _ :: rest, locked := none }) _
  jvm_step X.here [X.here.top, hx, hd, hm', hret, hn]
  first | (intro acts; rw [hl _ acts rfl rfl rfl]) | rw [hl _ _ rfl rfl rfl]
  exact Steps.refl _
end New
end Jvm.RoadKit
namespace Jvm.Pilot.@@N@@
open Jvm Jvm.ClassFile Sem Op Lib Jvm.Free Jvm.Stand Jvm.LawKit Jvm.RoadKit Bundle Jvm.Pilot.@@N@@.Jvm.D
section OwnGo
variable {p : Program} {l : Launch} {e : Env} {R : Room} {s : State} {m : MethodId} {args : Array Value} {below : List Frame} {meth : Method} {c : Code} {T : State} {locs : List Loc} {cells slots : Nat} {Q : Option Value → Heap → List Loc → Prop} {ck sk : Nat}
/-- from the state S the body comes to its end, and what it returns and leaves meets Q -/
def own_Go (p : Program) (e : Env) (below : List Frame) (s : State) (Q : Option Value → Heap → List Loc → Prop) (ck sk : Nat) (S : State) : Prop :=
  ∃ s₂ o, Steps p.tables e below S s₂ ∧ s₂.status = .running ∧ Ended s₂ below o ∧ ∃ v L, o = .returned v ∧ Q v s₂.heap L ∧ FrameEnd s o s₂ L ck sk
theorem own_go {S S' : State} (st : ∀ t, Steps p.tables e below S' t → Steps p.tables e below S t) (k : own_Go p e below s Q ck sk S') : own_Go p e below s Q ck sk S := by
  obtain ⟨a, b, h, r⟩ := k; exact ⟨a, b, st _ h, r⟩
theorem own_goT {S S' : State} (st : Steps p.tables e below S S') (k : own_Go p e below s Q ck sk S') : own_Go p e below s Q ck sk S := own_go (fun _ h => st.trans h) k
theorem own_retI (X : Stand p l e R s m args below meth c T locs cells slots) (hx : p.tables.exec = Jvm.exec) (hlk : meth.locks = false) {pc : Nat} {Ls : Array Slot} {z : Int32} {rest : List Value} (hret : meth.sig.returnType = some .int) (hd : decode c.code pc = .ok (.ireturn, 1)) (hc : cells ≤ ck) (hs : slots ≤ sk)
    (q : Q (some (.int z)) T.heap locs) : own_Go p e below s Q ck sk (T.setTop (mkF m pc Ls (.int z :: rest))) := by
  obtain ⟨fs, hr, hrun, hended, hW, hsame⟩ := X.leave (v := some (.int z)) (fun h => by rw [hret] at h; cases h) hlk
  exact ⟨_, _, retI X hx hret hd hr, hrun, hended, _, _, rfl, q, ⟨_, rfl⟩, hW, hsame.mono hc hs⟩
theorem own_retN (X : Stand p l e R s m args below meth c T locs cells slots) (hx : p.tables.exec = Jvm.exec) (hlk : meth.locks = false) {t : FieldType} {pc : Nat} {Ls : Array Slot} {z : Int32} {rest : List Value} (ht : t = .boolean ∨ t = .byte ∨ t = .char ∨ t = .short) (hret : meth.sig.returnType = some t) (hd : decode c.code pc = .ok (.ireturn, 1)) (hc : cells ≤ ck) (hs : slots ≤ sk)
    (q : Q (some (.int (nar t z))) T.heap locs) : own_Go p e below s Q ck sk (T.setTop (mkF m pc Ls (.int z :: rest))) := by
  obtain ⟨fs, hr, hrun, hended, hW, hsame⟩ := X.leave (v := some (.int (nar t z))) (fun h => by rw [hret] at h; cases h) hlk
  exact ⟨_, _, retN X hx hret ht hd hr, hrun, hended, _, _, rfl, q, ⟨_, rfl⟩, hW, hsame.mono hc hs⟩
theorem own_ret0 (X : Stand p l e R s m args below meth c T locs cells slots) (hx : p.tables.exec = Jvm.exec) (hlk : meth.locks = false) {pc : Nat} {Ls : Array Slot} (hret : meth.sig.returnType = none) (hd : decode c.code pc = .ok (.return_, 1)) (hc : cells ≤ ck) (hs : slots ≤ sk)
    (q : Q none T.heap locs) : own_Go p e below s Q ck sk (T.setTop (mkF m pc Ls [])) := by
  obtain ⟨fs, hr, hrun, hended, hW, hsame⟩ := X.leave (v := none) (fun _ => rfl) hlk
  exact ⟨_, _, X.returnOut hx hret hd hr, hrun, hended, _, _, rfl, q, ⟨_, rfl⟩, hW, hsame.mono hc hs⟩
theorem own_retA (X : Stand p l e R s m args below meth c T locs cells slots) (hx : p.tables.exec = Jvm.exec) (hlk : meth.locks = false) {t : FieldType} {pc : Nat} {Ls : Array Slot} {w : Value} (hw : w.isRef = true) (ht : t.isReference = true) (hret : meth.sig.returnType = some t) (hd : decode c.code pc = .ok (.areturn, 1)) (hc : cells ≤ ck) (hs : slots ≤ sk)
    (q : Q (some w) T.heap locs) : own_Go p e below s Q ck sk (T.setTop (mkF m pc Ls [w])) := by
  obtain ⟨fs, hr, hrun, hended, hW, hsame⟩ := X.leave (v := some w) (fun h => by rw [hret] at h; cases h) hlk
  exact ⟨_, _, X.areturnOut hx hw hret ht hd hr, hrun, hended, _, _, rfl, q, ⟨_, rfl⟩, hW, hsame.mono hc hs⟩
theorem own_retJ (X : Stand p l e R s m args below meth c T locs cells slots) (hx : p.tables.exec = Jvm.exec) (hlk : meth.locks = false) {pc : Nat} {Ls : Array Slot} {w : Int64} (hret : meth.sig.returnType = some .long) (hd : decode c.code pc = .ok (.lreturn, 1)) (hc : cells ≤ ck) (hs : slots ≤ sk)
    (q : Q (some (.long w)) T.heap locs) : own_Go p e below s Q ck sk (T.setTop (mkF m pc Ls [.long w])) := by
  obtain ⟨fs, hr, hrun, hended, hW, hsame⟩ := X.leave (v := some (.long w)) (fun h => by rw [hret] at h; cases h) hlk
  exact ⟨_, _, X.lreturnOut hx hret hd hr, hrun, hended, _, _, rfl, q, ⟨_, rfl⟩, hW, hsame.mono hc hs⟩
end OwnGo
theorem own_retD {p : Program} {l : Launch} {e : Env} {R : Room} {s : State} {m : MethodId} {args : Array Value} {below : List Frame} {meth : Method} {c : Code} {T : State} {locs : List Loc} {cells slots : Nat} {Q : Option Value → Heap → List Loc → Prop} {ck sk : Nat} (X : Stand p l e R s m args below meth c T locs cells slots) (hx : p.tables.exec = Jvm.exec) (hlk : meth.locks = false) {pc : Nat} {Ls : Array Slot} {w : UInt64} (hret : meth.sig.returnType = some .double) (hd : decode c.code pc = .ok (.dreturn, 1)) (hc : cells ≤ ck) (hs : slots ≤ sk)
    (q : Q (some (.double w)) T.heap locs) : own_Go p e below s Q ck sk (T.setTop (mkF m pc Ls [.double w])) := by
  obtain ⟨fs, hr, hrun, hended, hW, hsame⟩ := X.leave (v := some (.double w)) (fun h => by rw [hret] at h; cases h) hlk
  exact ⟨_, _, retOut X hx hret rfl (Or.inr (Or.inr (Or.inl ⟨rfl, rfl, _, rfl⟩))) hd hr, hrun, hended, _, _, rfl, q, ⟨_, rfl⟩, hW, hsame.mono hc hs⟩
theorem own_leq {x y : Int64} (h : x = y) : lcmpW x y = 0 := (lw_eq x y).mpr h
theorem own_lne {x y : Int64} (h : ¬ x = y) : ¬ lcmpW x y = 0 := fun q => h ((lw_eq x y).mp q)
theorem own_llt {x y : Int64} (h : x < y) : lcmpW x y < 0 := (lw_lt x y).mpr h
theorem own_lnlt {x y : Int64} (h : ¬ x < y) : ¬ lcmpW x y < 0 := fun q => h ((lw_lt x y).mp q)
theorem own_lgt {x y : Int64} (h : y < x) : 0 < lcmpW x y := (lw_gt x y).mpr h
theorem own_lngt {x y : Int64} (h : ¬ y < x) : ¬ 0 < lcmpW x y := fun q => h ((lw_gt x y).mp q)
theorem own_ltr {x y : Int32} {k : Int} (h : x < y) (e : y.toInt = k) : x.toInt < k := by rw [← e]; exact Int32.lt_iff_toInt_lt.mp h
theorem own_ltl {x y : Int32} {k : Int} (h : x < y) (e : x.toInt = k) : k < y.toInt := by rw [← e]; exact Int32.lt_iff_toInt_lt.mp h
theorem own_nltr {x y : Int32} {k : Int} (h : ¬ x < y) (e : y.toInt = k) : k ≤ x.toInt := by rw [← e]; exact Int.not_lt.mp fun q => h (Int32.lt_iff_toInt_lt.mpr q)
theorem own_nltl {x y : Int32} {k : Int} (h : ¬ x < y) (e : x.toInt = k) : y.toInt ≤ k := by rw [← e]; exact Int.not_lt.mp fun q => h (Int32.lt_iff_toInt_lt.mpr q)
theorem own_eqr {x y : Int32} {k : Int} (h : x = y) (e : y.toInt = k) : x.toInt = k := by rw [← e, h]
theorem own_neqr {x y : Int32} {k : Int} (h : ¬ x = y) (e : y.toInt = k) : ¬ x.toInt = k := by rw [← e]; exact fun q => h (Int32.toInt_inj.mp q)
theorem own_selP {s : State} {args : Array Value} {y : MethodName} {n : Nat} (wi : (Jvm.Cond.instantiable y.cls n).before args s = true) (wp : (Jvm.Cond.privateMethod y).before args s = true) (wn : (Jvm.Cond.instanceMethod y).before args s = true) (hy : y.cls ≠ "java/lang/invoke/MethodHandle" ∧ y.cls ≠ "java/lang/invoke/VarHandle") : (Jvm.Cond.selects y.cls y y).before args s = true := by
  obtain ⟨c, k, h1, h2, -, h4, -⟩ := Cond.instantiable_spec wi
  exact Jvm.Stand.selects_self_of_private h1 h2 (Bool.or_eq_false_iff.mp h4).1 (Cond.privateMethod_at wp) wn hy
theorem own_eqInt {t : Term} {k : Int32} {args : Array Value} {s : State} (h : (Jvm.Cond.eq t (Term.int k)).value args s none s [] = some true) : t.eval args s none [] s = some (.int k) := by
  have hk : (Term.int k).eval args s none [] s = some (.int k) := rfl
  cases ht : t.eval args s none [] s with
  | none => simp [Jvm.Cond.value, ht] at h
  | some v => cases v <;> simp [Jvm.Cond.value, ht, hk] at h; rw [h]
theorem oH {a0 : Array Value} {Z : State} (hw : ∀ d ∈ tables_1, d.before a0 Z = true) (i : Nat) {d : Jvm.Cond} (h : tables_1[i]? = some d) : d.before a0 Z = true := hw _ (List.mem_of_getElem? h)
section OwnRef
variable {p : Program} {l : Launch} {e : Env} {R : Room} {s : State} {m : MethodId} {args : Array Value} {below : List Frame} {meth : Method} {c : Code} {T : State} {locs : List Loc} {cells slots : Nat} {Z : State} {h : Heap} {a0 : Array Value}
theorem own_fld_ready (hZ : Z.Warmed39 T.vm) {own O n d : String} {index : Nat} {cur : ClassId} (hown : T.vm.findClass own = some cur) (w : (Cond.fieldRef own index O n d).before a0 Z = true) {cf : ClassId} {k : Class} {i : Nat} {f : Field} (h2 : Z.fieldFound? O n d = some (cf, k, i, f)) : T.vm.fieldReady cur index cf f := by
  have wT := Cond.fieldRef_warmed39 hZ w
  obtain ⟨c2, k2, i2, f2, q1, q2⟩ := Cond.fieldRef_spec (s := Z.setVm T.vm) (cur := cur) hown wT
  obtain ⟨k', hi, -⟩ := State.fieldFound?_setVm (s := Z) hZ.alike h2
  cases q1.symm.trans hi
  exact q2
theorem own_foundT (X : Stand p l e R s m args below meth c T locs cells slots) {own : String} (hown : s.vm.findClass own = some m.cls) : T.vm.findClass own = some m.cls := by rw [X.warmed.alike.findClass]; exact hown
/-- getfield through an entry that is resolved -/
theorem own_getFR (X : Stand p l e R s m args below meth c T locs cells slots) (hx : p.tables.exec = Jvm.exec) (hZ : Z.Warmed39 s.vm) {own O n d : String} {index : Nat} (hown : s.vm.findClass own = some m.cls) (w : (Cond.fieldRef own index O n d).before a0 Z = true)
    (eT : T.heap = h) {a : Addr} {v : Value} (F : Fld Z h a O n d v) {g : JFrame} (hg : g.method = m) {rest : List Value} (hs : g.stack = .ref a :: rest) (hd : decode c.code g.pc = .ok (.getfield index, 3)) : ∃ T', Stand p l e R s m args below meth c T' locs cells slots ∧ T'.heap = h ∧ ∀ target, Steps p.tables e below (T'.setTop { g with pc := g.pc + 3, stack := v :: rest }) target → Steps p.tables e below (T.setTop g) target := by
  obtain ⟨cell, cf, k, i, f, h1, h2, h3, h4, -, -, h7⟩ := F
  have q2 := own_fld_ready (wtrans hZ X.warmed) (own_foundT X hown) w h2
  refine ⟨T, X, eT, fun target hrest => ?_⟩
  subst hg
  jvm_step X.here [hx, hd, Op.getfield.wp_ready (e := e) (s := T) (f := g) X.here.top q2 h3 hs (by rw [eT]; exact h1) h4 h7]
  exact hrest
/-- getstatic through an entry that is resolved -/
theorem own_getSR (X : Stand p l e R s m args below meth c T locs cells slots) (hx : p.tables.exec = Jvm.exec) (hZ : Z.Warmed39 s.vm) {own O n d : String} {index : Nat} (hown : s.vm.findClass own = some m.cls) (w : (Cond.fieldRef own index O n d).before a0 Z = true)
    (eT : T.heap = h) {v : Value} (F : Sta Z h O n d v) {g : JFrame} (hg : g.method = m) (hd : decode c.code g.pc = .ok (.getstatic index, 3)) : ∃ T', Stand p l e R s m args below meth c T' locs cells slots ∧ T'.heap = h ∧ ∀ target, Steps p.tables e below (T'.setTop { g with pc := g.pc + 3, stack := v :: g.stack }) target → Steps p.tables e below (T.setTop g) target := by
  obtain ⟨cf, i, k, f, st, cell, h1, h2, h3, h4, h5, h6, h7⟩ := F
  have hU : Z.Warmed39 T.vm := wtrans hZ X.warmed
  have q2 := own_fld_ready hU (own_foundT X hown) w h1
  obtain ⟨k', hi, ek⟩ := State.fieldFound?_setVm (s := Z) hU.alike h1
  have hk : T.vm.classes[cf]? = some k' := (State.fieldFound?_spec hi).1
  refine ⟨T, X, eT, fun target hrest => ?_⟩
  subst hg
  jvm_step X.here [hx, hd, Op.getstatic.wp_ready (e := e) (s := T) (f := g) (a := st) X.here.top q2 h2 hk (by rw [ek]; exact h3) (by rw [ek]; exact h4) (by rw [eT]; exact h5) (fun q => by rw [q] at h6; cases h6) h7]
  exact hrest
/-- putfield through an entry that is resolved, of a field that isn't final -/
theorem own_putFR (X : Stand p l e R s m args below meth c T locs cells slots) (hx : p.tables.exec = Jvm.exec) (hZ : Z.Warmed39 s.vm) {own O n d C : String} {index kk : Nat} {ty : FieldType} (hown : s.vm.findClass own = some m.cls) (w : (Cond.fieldRef own index O n d).before a0 Z = true)
    (eT : T.heap = h) {a : Addr} {v v' old : Value} (F : Fld Z h a O n d old) (E : Exa Z h a C) (L : (Cond.lays C O n d).before a0 Z = true) (wi : (Cond.instantiable C kk).before a0 Z = true)
    (hty : parseFieldDescriptor d = some ty) (hn : narrow ty v = v') (hf : fits ty v' = true) {g : JFrame} (hg : g.method = m) {rest : List Value} (hs : g.stack = v :: .ref a :: rest) (hd : decode c.code g.pc = .ok (.putfield index, 3)) :
    ∃ T' h', Stand p l e R s m args below meth c T' (locs ++ [⟨a, Jvm.RoadKit.slotOf Z O n d⟩]) cells slots ∧ T'.heap = h' ∧ Wr h h' a (Jvm.RoadKit.slotOf Z O n d) v' ∧ ∀ target, Steps p.tables e below (T'.setTop { g with pc := g.pc + 3, stack := rest }) target → Steps p.tables e below (T.setTop g) target := by
  obtain ⟨cell, cf, k, i, f, h1, h2, h3, h4, h5, -, h7⟩ := F
  obtain ⟨cell', kc, e1, e2, e3, -⟩ := E
  have hce : cell' = cell := Option.some.inj (e1.symm.trans h1)
  subst hce
  obtain ⟨c1, k1, cf1, kf1, i1, f1, a1, a2, a3, -, a5, -, a7, -⟩ := Cond.lays_spec L
  obtain ⟨c2, k2, b1, b2, b3, -⟩ := Cond.instantiable_spec wi
  cases h2.symm.trans a3
  have hc1 : c1 = cell'.cls := Option.some.inj (a1.symm.trans e2)
  subst hc1
  have hc2 : c2 = cell'.cls := Option.some.inj (b1.symm.trans e2)
  subst hc2
  have hk2 : k2 = k1 := Option.some.inj (b2.symm.trans a2)
  subst hk2
  have ht : f.type = ty := (State.fieldFound?_type h2 hty).2
  have hsl : Z.slotType? cell'.cls cell'.vm f.slot = some ty := by
    simp only [State.slotType?, a2, Option.bind_eq_bind, Option.bind_some, b3]
    cases hq : cell'.vm <;> first | (rw [hq] at h5; exact Bool.noConfusion h5) | (rw [a7, ht])
  have hfZ : Z.fitsSlot cell'.cls cell'.vm f.slot v' = true := by simp [State.fitsSlot, hsl, hf]
  have hU : Z.Warmed39 T.vm := wtrans hZ X.warmed
  have hfT : T.fitsSlot cell'.cls cell'.vm f.slot v' = true := by
    show (Z.setVm T.vm).fitsSlot cell'.cls cell'.vm f.slot v' = true
    rw [State.fitsSlot_setVm hU.alike]; exact hfZ
  have q2 := own_fld_ready hU (own_foundT X hown) w h2
  have hcell : T.heap[a]? = some cell' := by rw [eT]; exact h1
  have hlt : f.slot < cell'.slots.size := (Array.getElem?_eq_some_iff.mp h7).1
  have hnar : narrow f.type v = v' := by rw [ht]; exact hn
  have es : Jvm.RoadKit.slotOf Z O n d = f.slot := by simp [Jvm.RoadKit.slotOf, h2]
  rw [es]
  refine ⟨_, _, X.stored hcell f.slot v', rfl, ⟨cell', h1, h5, hlt, by rw [← eT]; rfl⟩, fun target hrest => ?_⟩
  subst hg
  jvm_step X.here [hx, hd, Op.putfield.wp_ready (e := e) (s := T) (f := g) X.here.top q2 h3 a5 hs hcell h4, hnar, hlt, hfT]
  exact hrest
/-- invokespecial of a constructor through an entry that is resolved -/
theorem own_specialR (X : Stand p l e R s m args below meth c T locs cells slots) (hx : p.tables.exec = Jvm.exec) (hZ : Z.Warmed39 s.vm) {own : String} {index : Nat} {y : MethodName} (hy1 : y.name = "<init>") (hown : s.vm.findClass own = some m.cls) (w : (Cond.methodRef own index y).before a0 Z = true) (wi : (Cond.instanceMethod y).before a0 Z = true)
    {bytes : ByteArray} {maxL : Nat} (wc : (Cond.code y bytes maxL none).before a0 Z = true) (hy : y.cls ≠ "java/lang/invoke/MethodHandle" ∧ y.cls ≠ "java/lang/invoke/VarHandle")
    {W : Nat} {Pre : Pt → Array Value → Prop} {Post : Pt → Array Value → Option Value → Pt → Prop} (hK : Back l R p e below s args y 3 W Pre Post)
    {g : JFrame} (hg : g.method = m) (hsize : g.locals.size = c.maxLocals) {a : Addr} {argsL rest : List Value} (hlen : ∀ sig, parseMethodDescriptor y.desc = some sig → argsL.length = sig.parameters.length) (hstack : g.stack = argsL.reverse ++ .ref a :: rest) (hW : 2 * g.monitorRoom + (rest.map fun v => v.category).sum ≤ W)
    (hdg : decode c.code g.pc = .ok (.invokespecial index, 3)) (hpre : ∀ vm₁, s.WarmedH vm₁ → Pre ⟨T.setVm vm₁, locs, cells, slots⟩ (.ref a :: argsL).toArray) :
    ∃ (v : Option Value) (vm₁ : Vm) (B : Pt), s.WarmedH vm₁ ∧ Stand p l e R s m args below meth c B.U B.locs B.cells B.slots ∧ Post ⟨T.setVm vm₁, locs, cells, slots⟩ (.ref a :: argsL).toArray v B ∧
      Steps p.tables e below (T.setTop g) (B.U.setTop { g with pc := g.pc + 3, stack := v.toList ++ rest }) := by
  have hU : Z.Warmed39 T.vm := wtrans hZ X.warmed
  have wcT : (Cond.code y bytes maxL none).before a0 T = true := mv hU wc
  obtain ⟨obj, methO, hnO, hmO, hstO, habO⟩ := Cond.instanceMethod_spec (mv (args := a0) hU wi)
  obtain ⟨o1, m1, hn1, -⟩ := Cond.instanceMethod_spec wi
  obtain ⟨methO', cO, hmO', -, -, -, -, -, -, hsigO⟩ := Cond.code_spec hnO wcT
  cases hmO.symm.trans hmO'
  obtain ⟨kO, hkO, -⟩ := className_of_methodNamed hnO
  obtain ⟨hnameMO, hdescO⟩ := name_of_methodNamed hnO hmO
  have hcO := findClass_of_methodNamed hnO
  obtain ⟨mf, c', hfound, hready, hfind, hnr⟩ := Cond.methodRef_named e (s := Z.setVm T.vm) (cur := m.cls) (own_foundT X hown) (Cond.methodRef_warmed39 hU hn1 hy w)
  have hcc : c' = obj.cls := Option.some.inj (hfind.symm.trans hcO)
  subst hcc
  have hnZ : (Z.setVm T.vm).methodNamed? y = some obj := hnO
  have hmf : mf = obj := Option.some.inj (hfound.symm.trans (State.methodFound?_of_named hnZ hy))
  subst hmf
  have hls : lookupSpecial T.vm mf.cls "<init>" methO.desc = .method mf := by rw [hdescO, ← hy1]; exact lookupSpecial_of_named hnO hmO hstO
  have step : ∀ target, (∀ acts, Steps p.tables e below (doInvoke e (T.setTop { g with stack := rest }) acts mf (.ref a :: argsL).toArray).1 target) → Steps p.tables e below (T.setTop g) target := by
    intro target hrest
    subst hg
    jvm_step X.here [hx, hdg, Op.invokespecial.wp_init (e := e) (s := T) (k := kO) (meth := methO) (m := mf) (a := a) (args := argsL) (rest := rest) (f := g) X.here.top hnr hready hkO hmO (by rw [hnameMO]; exact hy1) hstO habO hls (hlen _ hsigO) hstack]
    exact hrest
  obtain ⟨v, B, X', hpost, hsteps⟩ := hK m meth c ⟨T, locs, cells, slots⟩ { g with stack := rest } (.invokespecial index) mf (Value.ref a :: argsL).toArray X hg hsize hdg hW hnO (show Pre ⟨T, locs, cells, slots⟩ (Value.ref a :: argsL).toArray from hpre T.vm X.warmed)
  exact ⟨v, T.vm, B, X.warmed, X', hpost, (step _ fun acts => by rw [doInvoke_state]; exact Steps.refl _).trans hsteps⟩
end OwnRef
def own_Kp (n0 : Nat) (h0 h : Heap) : Prop := h0.size ≤ h.size ∧ ∀ (x : Addr) (c : Cell), x < n0 → h0[x]? = some c → h[x]? = some c
theorem own_Kp.refl (n0 : Nat) (h : Heap) : own_Kp n0 h h := ⟨Nat.le_refl _, fun _ _ _ q => q⟩
theorem own_Kp.trans {n0 : Nat} {a b d : Heap} (K : own_Kp n0 a b) (L : own_Kp n0 b d) : own_Kp n0 a d := ⟨Nat.le_trans K.1 L.1, fun x c q r => L.2 x c q (K.2 x c q r)⟩
theorem own_Kp.ext {n0 : Nat} {a b : Heap} (E : Ext a b) : own_Kp n0 a b := ⟨E.1, fun x c _ r => E.2 x c r⟩
theorem own_Kp.keep {n0 : Nat} {a b : Heap} {ws : List Addr} (K : Keep a b ws) (q : ∀ x ∈ ws, n0 ≤ x) : own_Kp n0 a b := ⟨K.1, fun x c hx r => K.2.1 x c r fun hm => absurd hx (Nat.not_lt.mpr (q x hm))⟩
theorem own_Kp.wr {n0 : Nat} {a b : Heap} {x : Addr} {sl : Nat} {v : Value} (W : Wr a b x sl v) (q : n0 ≤ x) : own_Kp n0 a b := own_Kp.keep (Keep.of_wr W) fun y hy => by cases List.mem_singleton.mp hy; exact q
theorem own_g0 {n0 : Nat} : ∀ x ∈ ([] : List Addr), n0 ≤ x := fun _ q => nomatch q
theorem own_gS {n0 : Nat} {a : Addr} {ws : List Addr} (q : n0 ≤ a) (r : ∀ x ∈ ws, n0 ≤ x) : ∀ x ∈ a :: ws, n0 ≤ x := fun x hx => (List.mem_cons.mp hx).elim (fun e => by rw [e]; exact q) (r x)
theorem own_Fld.kp {Z : State} {n0 : Nat} {h h' : Heap} {a : Addr} {C n d : String} {v : Value} (F : Fld Z h a C n d v) (K : own_Kp n0 h h') (q : a < n0) : Fld Z h' a C n d v := by
  obtain ⟨cell, cf, k, i, f, h1, r⟩ := F; exact ⟨cell, cf, k, i, f, K.2 _ _ q h1, r⟩
theorem own_Exa.kp {Z : State} {n0 : Nat} {h h' : Heap} {a : Addr} {C : String} (F : Exa Z h a C) (K : own_Kp n0 h h') (q : a < n0) : Exa Z h' a C := by
  obtain ⟨cell, k, h1, r⟩ := F; exact ⟨cell, k, K.2 _ _ q h1, r⟩
theorem own_arv0 {s : State} {args : Array Value} {t : Term} {a : Addr} (hf : Fit s) (ev : t.eval args s none [] s = some (.ref a)) (ha : (Jvm.Cond.arrayOf t .int).value args s none s [] = some true) (hl : (Term.length t).eval args s none [] s = some (.int 0)) : ∃ k, Arv s s.heap a k .int (0 : Int32) [] (.int 0) := by
  obtain ⟨cl, A⟩ := Arr.start ev ha
  obtain ⟨a', cell, e1, e2, e3⟩ := Term.length_spec hl
  have hat : s.arrayAt? a = some cl := Arr.fin (U := s) (State.Warmed39.refl s).alike A
  have haa : a' = a := Value.ref.inj (Option.some.inj (e1.symm.trans ev))
  subst haa
  have hcc : cell = cl := Option.some.inj (e2.symm.trans hat)
  subst hcc
  have h31 := SBG.length_lt ev hat hl
  exact ⟨_, Arv.start hf A (by omega) (Value.int.inj e3).symm (by decide) rfl trivial⟩
def own_S (Z : State) (h : Heap) (st : Addr) (nm cnt idc : Int32) (aN aI : Addr) : Prop := Exa Z h st "com/example/otaniemi/otaniemi/State" ∧ Fld Z h st "com/example/otaniemi/otaniemi/State" "number" "I" (.int nm) ∧ Fld Z h st "com/example/otaniemi/otaniemi/State" "predicateDepth" "I" (.int 0) ∧ Fld Z h st "com/example/otaniemi/otaniemi/State" "idCount" "I" (.int idc) ∧ Fld Z h st "com/example/otaniemi/otaniemi/State" "parent" "Lcom/example/otaniemi/otaniemi/State;" .null ∧ (idc = 0 → Fld Z h st "com/example/otaniemi/otaniemi/State" "ids" "[I" (.ref aI)) ∧ ∃ pp, Fld Z h st "com/example/otaniemi/otaniemi/State" "predicateParts" "Lcom/example/otaniemi/otaniemi/State$PredicateParts;" (.ref pp) ∧ Exa Z h pp "com/example/otaniemi/otaniemi/State$PredicateParts" ∧ Fld Z h pp "com/example/otaniemi/otaniemi/State$PredicateParts" "counted" "Z" (.int cnt) ∧ (cnt = 0 → pp = aN)
def own_T (Z : State) (n0 : Nat) (h : Heap) (st : Addr) (nm cnt idc : Int32) : Prop := st < n0 ∧ Exa Z h st "com/example/otaniemi/otaniemi/State" ∧ Fld Z h st "com/example/otaniemi/otaniemi/State" "number" "I" (.int nm) ∧ Fld Z h st "com/example/otaniemi/otaniemi/State" "predicateDepth" "I" (.int 0) ∧ Fld Z h st "com/example/otaniemi/otaniemi/State" "idCount" "I" (.int idc) ∧ ∃ pp, pp < n0 ∧ Fld Z h st "com/example/otaniemi/otaniemi/State" "predicateParts" "Lcom/example/otaniemi/otaniemi/State$PredicateParts;" (.ref pp) ∧ Exa Z h pp "com/example/otaniemi/otaniemi/State$PredicateParts" ∧ Fld Z h pp "com/example/otaniemi/otaniemi/State$PredicateParts" "counted" "Z" (.int cnt)
theorem own_S.lt {Z : State} {h : Heap} {st : Addr} {nm cnt idc : Int32} {aN aI : Addr} (S : own_S Z h st nm cnt idc aN aI) : st < h.size := S.1.lt
theorem own_S.ext {Z : State} {h h' : Heap} {st : Addr} {nm cnt idc : Int32} {aN aI : Addr} (S : own_S Z h st nm cnt idc aN aI) (E : Ext h h') : own_S Z h' st nm cnt idc aN aI := by
  obtain ⟨q1, q2, q3, q4, q5, q6, pp, q7, q8, q9, q10⟩ := S
  exact ⟨q1.ext E, q2.ext E, q3.ext E, q4.ext E, q5.ext E, fun z => (q6 z).ext E, pp, q7.ext E, q8.ext E, q9.ext E, q10⟩
theorem own_S.keep {Z : State} {h h' : Heap} {st : Addr} {nm cnt idc : Int32} {aN aI : Addr} {ws : List Addr} (S : own_S Z h st nm cnt idc aN aI) (K : Keep h h' ws) (na : st ∉ ws) (hs : ∀ x ∈ ws, Exa Z h x "com/example/otaniemi/otaniemi/State") : own_S Z h' st nm cnt idc aN aI := by
  obtain ⟨q1, q2, q3, q4, q5, q6, pp, q7, q8, q9, q10⟩ := S
  have np : pp ∉ ws := fun hm => (q8.ne (hs pp hm) (by decide)) rfl
  exact ⟨q1.keep K, q2.keep K na, q3.keep K na, q4.keep K na, q5.keep K na, fun z => (q6 z).keep K na, pp, q7.keep K na, q8.keep K, q9.keep K np, q10⟩
theorem own_S.T {Z : State} {h : Heap} {st : Addr} {nm cnt idc : Int32} {aN aI : Addr} (S : own_S Z h st nm cnt idc aN aI) : own_T Z h.size h st nm cnt idc := by
  obtain ⟨q1, q2, q3, q4, q5, q6, pp, q7, q8, q9, q10⟩ := S
  exact ⟨q1.lt, q1, q2, q3, q4, pp, q8.lt, q7, q8, q9⟩
theorem own_T.lt {Z : State} {n0 : Nat} {h : Heap} {st : Addr} {nm cnt idc : Int32} (S : own_T Z n0 h st nm cnt idc) : st < h.size := S.2.1.lt
theorem own_T.kp {Z : State} {n0 : Nat} {h h' : Heap} {st : Addr} {nm cnt idc : Int32} (S : own_T Z n0 h st nm cnt idc) (K : own_Kp n0 h h') : own_T Z n0 h' st nm cnt idc := by
  obtain ⟨q0, q1, q2, q3, q4, pp, q5, q6, q7, q8⟩ := S
  exact ⟨q0, own_Exa.kp q1 K q0, own_Fld.kp q2 K q0, own_Fld.kp q3 K q0, own_Fld.kp q4 K q0, pp, q5, own_Fld.kp q6 K q0, own_Exa.kp q7 K q5, own_Fld.kp q8 K q5⟩
def own_C (Z : State) (h : Heap) (n0 : Nat) (p0 fa : Addr) (kf : ClassId) (kc : Int32) (f0 f1 : Value) : Prop := n0 ≤ p0 ∧ n0 ≤ fa ∧ Exa Z h p0 "com/example/otaniemi/otaniemi/Pending" ∧ Fld Z h p0 "com/example/otaniemi/otaniemi/Pending" "found" "[Lcom/example/otaniemi/otaniemi/State;" (.ref fa) ∧ Fld Z h p0 "com/example/otaniemi/otaniemi/Pending" "foundCount" "I" (.int kc) ∧ Fld Z h p0 "com/example/otaniemi/otaniemi/Pending" "passed" "Lcom/example/otaniemi/otaniemi/Pending$Passed;" .null ∧ Arv Z h fa kf (.object "com/example/otaniemi/otaniemi/State") (4 : Int32) [f0, f1] .null ∧ Ovr Z kf "com/example/otaniemi/otaniemi/State"
def own_V (Z : State) (h : Heap) (n0 : Nat) (p0 fa va : Addr) (kv : ClassId) (v0 v1 : Int64) : Prop := n0 ≤ va ∧ fa ≠ va ∧ Fld Z h p0 "com/example/otaniemi/otaniemi/Pending" "values" "[J" (.ref va) ∧ Arv Z h va kv .long (4 : Int32) [.long v0, .long v1] (.long 0)
def own_Vn (Z : State) (h : Heap) (p0 : Addr) : Prop := Fld Z h p0 "com/example/otaniemi/otaniemi/Pending" "values" "[J" .null
def own_okA (v : Int64) (k : Int32) : Prop := (v = 0 ∧ k = 0) ∨ (v = 1 ∧ k = 1)
def own_okB (v : Int64) (k : Int32) : Prop := (v = 0 ∧ k = 0) ∨ ((v = 1 ∨ v = 2) ∧ k = 1)
theorem own_okAB {v : Int64} {k : Int32} (q : own_okA v k) : own_okB v k := q.imp id fun q => ⟨Or.inl q.1, q.2⟩
def own_P0 (Z : State) (h : Heap) (n0 : Nat) (p0 : Addr) : Prop := ∃ fa kf, own_C Z h n0 p0 fa kf (0 : Int32) .null .null ∧ own_Vn Z h p0
def own_P1 (ok : Int64 → Int32 → Prop) (Z : State) (h : Heap) (n0 : Nat) (p0 x0 : Addr) (cx : Int32) : Prop := ∃ fa kf f1, own_C Z h n0 p0 fa kf (1 : Int32) (.ref x0) f1 ∧ ((own_Vn Z h p0 ∧ cx = 0) ∨ ∃ va kv v0 v1, own_V Z h n0 p0 fa va kv v0 v1 ∧ ok v0 cx)
def own_P2 (Z : State) (h : Heap) (n0 : Nat) (p0 x0 : Addr) (cx : Int32) (y0 : Addr) (cy : Int32) : Prop := ∃ fa kf, own_C Z h n0 p0 fa kf (2 : Int32) (.ref x0) (.ref y0) ∧ ((own_Vn Z h p0 ∧ cx = 0 ∧ cy = 0) ∨ ∃ va kv v0 v1, own_V Z h n0 p0 fa va kv v0 v1 ∧ own_okB v0 cx ∧ own_okB v1 cy)
theorem own_P1.imp {Z : State} {h : Heap} {n0 : Nat} {p0 x0 : Addr} {cx : Int32} (P : own_P1 own_okA Z h n0 p0 x0 cx) : own_P1 own_okB Z h n0 p0 x0 cx := by
  obtain ⟨fa, kf, f1, C, hm⟩ := P
  exact ⟨fa, kf, f1, C, hm.imp id fun ⟨va, kv, v0, v1, HV, q⟩ => ⟨va, kv, v0, v1, HV, own_okAB q⟩⟩
def own_R (Z : State) (h : Heap) (n0 : Nat) (p0 : Addr) (rr : Value) : Prop := (∃ kc : Int32, Exa Z h p0 "com/example/otaniemi/otaniemi/Pending" ∧ Fld Z h p0 "com/example/otaniemi/otaniemi/Pending" "foundCount" "I" (.int kc) ∧ ¬ kc = 1 ∧ rr = .null) ∨ ∃ fa kf f1 x0, own_C Z h n0 p0 fa kf (1 : Int32) (.ref x0) f1 ∧ ((own_Vn Z h p0 ∧ rr = .ref x0) ∨ ∃ va kv v0 v1, own_V Z h n0 p0 fa va kv v0 v1 ∧ ((v0 = 0 ∧ rr = .ref x0) ∨ (¬ v0 = 0 ∧ rr = .null)))
def own_r1 (d k : Int32) (x : Addr) : Value := if d = 0 then .null else if k = 0 then .ref x else .null
def own_r2 (dx cx : Int32) (x : Addr) (dy cy : Int32) (y : Addr) : Value := if dx = 0 then own_r1 dy cy y else if dy = 0 then own_r1 dx cx x else .null
theorem own_r1_0 (k : Int32) (x : Addr) : own_r1 0 k x = .null := if_pos rfl
theorem own_r1_10 (x : Addr) : own_r1 1 0 x = .ref x := by unfold own_r1; rw [if_neg (show ¬ (1 : Int32) = 0 by decide), if_pos rfl]
theorem own_r1_11 (x : Addr) : own_r1 1 1 x = .null := by unfold own_r1; rw [if_neg (show ¬ (1 : Int32) = 0 by decide), if_neg (show ¬ (1 : Int32) = 0 by decide)]
theorem own_r2_00 (cx : Int32) (x : Addr) (cy : Int32) (y : Addr) : own_r2 0 cx x 0 cy y = .null := (if_pos rfl).trans (own_r1_0 _ _)
theorem own_r2_01 (cx : Int32) (x : Addr) (cy : Int32) (y : Addr) : own_r2 0 cx x 1 cy y = own_r1 1 cy y := if_pos rfl
theorem own_r2_10 (cx : Int32) (x : Addr) (cy : Int32) (y : Addr) : own_r2 1 cx x 0 cy y = own_r1 1 cx x := by unfold own_r2; rw [if_neg (show ¬ (1 : Int32) = 0 by decide), if_pos rfl]
theorem own_r2_11 (cx : Int32) (x : Addr) (cy : Int32) (y : Addr) : own_r2 1 cx x 1 cy y = .null := by unfold own_r2; rw [if_neg (show ¬ (1 : Int32) = 0 by decide), if_neg (show ¬ (1 : Int32) = 0 by decide)]
theorem own_r1_ref (d k : Int32) (x : Addr) : (own_r1 d k x).isRef = true := by unfold own_r1; split <;> (try split) <;> rfl
theorem own_r2_ref (dx cx : Int32) (x : Addr) (dy cy : Int32) (y : Addr) : (own_r2 dx cx x dy cy y).isRef = true := by
  unfold own_r2; split
  · exact own_r1_ref _ _ _
  · split
    · exact own_r1_ref _ _ _
    · rfl
theorem own_okR {v : Int64} {k : Int32} (q : own_okB v k) (x : Addr) : (v = 0 ∧ own_r1 1 k x = .ref x) ∨ (¬ v = 0 ∧ own_r1 1 k x = .null) := by
  rcases q with ⟨rfl, rfl⟩ | ⟨rfl | rfl, rfl⟩
  · exact Or.inl ⟨rfl, own_r1_10 x⟩
  · exact Or.inr ⟨by decide, own_r1_11 x⟩
  · exact Or.inr ⟨by decide, own_r1_11 x⟩
theorem own_P0.R {Z : State} {h : Heap} {n0 : Nat} {p0 : Addr} (P : own_P0 Z h n0 p0) : own_R Z h n0 p0 .null := by
  obtain ⟨fa, kf, ⟨-, -, q1, -, q2, -⟩, -⟩ := P
  exact Or.inl ⟨_, q1, q2, by decide, rfl⟩
theorem own_P1.R {Z : State} {h : Heap} {n0 : Nat} {p0 x0 : Addr} {cx : Int32} (P : own_P1 own_okB Z h n0 p0 x0 cx) : own_R Z h n0 p0 (own_r1 1 cx x0) := by
  obtain ⟨fa, kf, f1, C, hm⟩ := P
  rcases hm with ⟨q, rfl⟩ | ⟨va, kv, v0, v1, HV, q⟩
  · exact Or.inr ⟨fa, kf, f1, x0, C, Or.inl ⟨q, own_r1_10 x0⟩⟩
  · exact Or.inr ⟨fa, kf, f1, x0, C, Or.inr ⟨va, kv, v0, v1, HV, own_okR q x0⟩⟩
theorem own_P2.R {Z : State} {h : Heap} {n0 : Nat} {p0 x0 y0 : Addr} {cx cy : Int32} (P : own_P2 Z h n0 p0 x0 cx y0 cy) : own_R Z h n0 p0 .null := by
  obtain ⟨fa, kf, ⟨-, -, q1, -, q2, -⟩, -⟩ := P
  exact Or.inl ⟨_, q1, q2, by decide, rfl⟩
def own_E (Z : State) (h : Heap) (n0 : Nat) (p0 x0 : Addr) (cx : Int32) (y0 : Addr) (cy hx hy : Int32) : Prop := (hx = 0 ∧ hy = 0 ∧ own_P0 Z h n0 p0) ∨ (hx = 1 ∧ hy = 0 ∧ own_P1 own_okB Z h n0 p0 x0 cx) ∨ (hx = 0 ∧ hy = 1 ∧ own_P1 own_okB Z h n0 p0 y0 cy) ∨ (hx = 1 ∧ hy = 1 ∧ (own_P2 Z h n0 p0 x0 cx y0 cy ∨ own_P2 Z h n0 p0 y0 cy x0 cx))
def own_has (c1 c2 k : Int32) : Int32 := if c1 = k then 1 else if c2 = k then 1 else 0
def own_and (x y : Int32) : Int32 := if x = 0 then 0 else y
theorem own_E.R {Z : State} {h : Heap} {n0 : Nat} {p0 x0 y0 : Addr} {cx cy hx hy : Int32} (P : own_E Z h n0 p0 x0 cx y0 cy hx hy) : own_R Z h n0 p0 (own_r2 hx cx x0 hy cy y0) := by
  rcases P with ⟨rfl, rfl, P⟩ | ⟨rfl, rfl, P⟩ | ⟨rfl, rfl, P⟩ | ⟨rfl, rfl, P | P⟩
  · rw [own_r2_00]; exact P.R
  · rw [own_r2_10]; exact P.R
  · rw [own_r2_01]; exact P.R
  · rw [own_r2_11]; exact P.R
  · rw [own_r2_11]; exact P.R
theorem own_and0 (y : Int32) : own_and 0 y = 0 := if_pos rfl
theorem own_and1 (y : Int32) : own_and 1 y = y := if_neg (show ¬ (1 : Int32) = 0 by decide)
theorem own_rcat {v : Value} (h : v.isRef = true) : v.category = 1 := by
  cases v <;> first | rfl | cases h
theorem own_C.E {Z : State} {h : Heap} {n0 : Nat} {p0 fa : Addr} {kf : ClassId} {kc : Int32} {f0 f1 : Value} (C : own_C Z h n0 p0 fa kf kc f0 f1) : Exa Z h p0 "com/example/otaniemi/otaniemi/Pending" := C.2.2.1
theorem own_P0.E {Z : State} {h : Heap} {n0 : Nat} {p0 : Addr} (P : own_P0 Z h n0 p0) : Exa Z h p0 "com/example/otaniemi/otaniemi/Pending" := by obtain ⟨_, _, C, -⟩ := P; exact C.E
theorem own_P1.E {ok : Int64 → Int32 → Prop} {Z : State} {h : Heap} {n0 : Nat} {p0 x0 : Addr} {cx : Int32} (P : own_P1 ok Z h n0 p0 x0 cx) : Exa Z h p0 "com/example/otaniemi/otaniemi/Pending" := by obtain ⟨_, _, _, C, -⟩ := P; exact C.E
theorem own_P2.E {Z : State} {h : Heap} {n0 : Nat} {p0 x0 y0 : Addr} {cx cy : Int32} (P : own_P2 Z h n0 p0 x0 cx y0 cy) : Exa Z h p0 "com/example/otaniemi/otaniemi/Pending" := by obtain ⟨_, _, C, -⟩ := P; exact C.E
theorem own_E.E {Z : State} {h : Heap} {n0 : Nat} {p0 x0 y0 : Addr} {cx cy hx hy : Int32} (P : own_E Z h n0 p0 x0 cx y0 cy hx hy) : Exa Z h p0 "com/example/otaniemi/otaniemi/Pending" := by
  rcases P with ⟨-, -, P⟩ | ⟨-, -, P⟩ | ⟨-, -, P⟩ | ⟨-, -, P | P⟩ <;> exact P.E
theorem own_R.E {Z : State} {h : Heap} {n0 : Nat} {p0 : Addr} {rr : Value} (P : own_R Z h n0 p0 rr) : Exa Z h p0 "com/example/otaniemi/otaniemi/Pending" := by
  rcases P with ⟨_, q, -⟩ | ⟨_, _, _, _, C, -⟩
  · exact q
  · exact C.E
theorem d5_0 : decode prog_78_method_1_code 0 = .ok (.aload_n 0, 1) := by decide +kernel
theorem d5_1 : decode prog_78_method_1_code 1 = .ok (.invokespecial 1, 3) := by decide +kernel
theorem d5_4 : decode prog_78_method_1_code 4 = .ok (.return_, 1) := by decide +kernel
theorem pn_3 : plainName "com/example/otaniemi/otaniemi/State$PredicateParts" = true := by first | (simp [plainName, overriddenIn]; done) | decide +kernel
theorem ef_rmPP (m : MethodId) (x0 : Addr) : entryFrame m #[(.ref x0)] 1 = mkF m 0 #[.val (.ref x0)] [] := by first | (simp [entryFrame, mkF, argsToLocals, Value.category]; done) | rfl
def Q_rmPP (Z : State) (st : Addr) (h0 : Heap) (n0 : Nat) (v : Option Value) (h : Heap) (L : List Loc) : Prop := v = none ∧ h = h0 ∧ L = []
set_option maxRecDepth 65536 in
set_option maxHeartbeats 40000000 in
theorem rmPP (l : Launch) (Z : State) (a0 : Array Value) (hw : ∀ d ∈ tables_1, d.before a0 Z = true) (ws : List Jvm.Cond) (st : Addr) (h0 : Heap) (n0 : Nat) (Z0 : n0 ≤ h0.size)  :
    MetFree l (⟨"com/example/otaniemi/otaniemi/State$PredicateParts", "<init>", "()V"⟩ : MethodName) (head1 (Jvm.Cond.code (⟨"com/example/otaniemi/otaniemi/State$PredicateParts", "<init>", "()V"⟩ : MethodName) prog_78_method_1_code 1 none :: ws) ({ frames := 1, cells := 0, slots := 0, locals := 12 } : Room)) (fun a U => a = #[(.ref st)] ∧ Z.Warmed39 U.vm ∧ U.heap = h0) (fun _ _ _ _ _ => True) (fun _ U o U' => ∃ v L, o = .returned v ∧ Q_rmPP Z st h0 n0 v U'.heap L ∧ FrameEnd U o U' L ({ frames := 1, cells := 0, slots := 0, locals := 12 } : Room).cells ({ frames := 1, cells := 0, slots := 0, locals := 12 } : Room).slots) := by
  refine MetFree.of_bodySF (plainFor_of_name pn_3) hisR ?_
  intro p e s m args below meth c s₁ Bd hml0 hP hK
  obtain ⟨rfl, hZ, hh⟩ := hP
  have hx := Bd.exec
  have hby := Bd.bytes
  have hlk := Bd.notSynchronized
  have hml : c.maxLocals = 1 := hml0
  have hown : s.vm.findClass "com/example/otaniemi/otaniemi/State$PredicateParts" = some m.cls := findClass_of_methodNamed Bd.named
  have hnm := (name_of_methodNamed Bd.named Bd.method).1
  have X0 : Stand p l e ({ frames := 1, cells := 0, slots := 0, locals := 12 } : Room) s m #[(.ref st)] below meth c s₁ [] 0 0 := Stand.of_body Bd
  have e0 : s₁.heap = h0 := by rw [← hh, Bd.state]; rfl
  have N0 := Fr.nil n0
  change own_Go p e below s (Q_rmPP Z st h0 n0) ({ frames := 1, cells := 0, slots := 0, locals := 12 } : Room).cells ({ frames := 1, cells := 0, slots := 0, locals := 12 } : Room).slots _
  refine own_go (S' := (s₁.setTop (mkF m 0 #[.val (.ref st)] []))) (fun _ kont => castTop (ef_rmPP m st) kont) ?_
  refine own_go (S' := (s₁.setTop (mkF m 1 #[.val (.ref st)] [(.ref st)]))) (fun _ kont => XS.aloadN X0.here hx rfl (hb hby d5_0) rfl rfl kont) ?_
  obtain ⟨T1, X1, e1, st1⟩ := initO X0 hx hZ hown (oH hw 49 rfl) (oH hw 7 rfl) (oH hw 8 rfl) e0 (g := (mkF m 1 #[.val (.ref st)] [(.ref st)])) rfl (by rw [hml]; rfl) rfl (hb hby d5_1) (by decide) (W := 0) (by show 2 * 0 + _ ≤ _; exact Nat.le_of_eq rfl) (by decide)
  refine own_go (S' := (T1.setTop (mkF m 4 #[.val (.ref st)] []))) st1 ?_
  refine own_ret0 X1 hx hlk Bd.returns (hb hby d5_4) (by decide) (by decide) ?_
  exact ⟨rfl, e1, rfl⟩
theorem d1_0 : decode prog_76_method_1_code 0 = .ok (.aload_n 0, 1) := by decide +kernel
theorem d1_1 : decode prog_76_method_1_code 1 = .ok (.invokespecial 1, 3) := by decide +kernel
theorem d1_4 : decode prog_76_method_1_code 4 = .ok (.aload_n 0, 1) := by decide +kernel
theorem d1_5 : decode prog_76_method_1_code 5 = .ok (.getstatic 7, 3) := by decide +kernel
theorem d1_8 : decode prog_76_method_1_code 8 = .ok (.putfield 13, 3) := by decide +kernel
theorem d1_11 : decode prog_76_method_1_code 11 = .ok (.aload_n 0, 1) := by decide +kernel
theorem d1_12 : decode prog_76_method_1_code 12 = .ok (.getstatic 18, 3) := by decide +kernel
theorem d1_15 : decode prog_76_method_1_code 15 = .ok (.putfield 22, 3) := by decide +kernel
theorem d1_18 : decode prog_76_method_1_code 18 = .ok (.aload_n 0, 1) := by decide +kernel
theorem d1_19 : decode prog_76_method_1_code 19 = .ok (.iload_n 1, 1) := by decide +kernel
theorem d1_20 : decode prog_76_method_1_code 20 = .ok (.putfield 25, 3) := by decide +kernel
theorem d1_23 : decode prog_76_method_1_code 23 = .ok (.aload_n 0, 1) := by decide +kernel
theorem d1_24 : decode prog_76_method_1_code 24 = .ok (.aload_n 2, 1) := by decide +kernel
theorem d1_25 : decode prog_76_method_1_code 25 = .ok (.putfield 29, 3) := by decide +kernel
theorem d1_28 : decode prog_76_method_1_code 28 = .ok (.aload_n 0, 1) := by decide +kernel
theorem d1_29 : decode prog_76_method_1_code 29 = .ok (.aload_n 3, 1) := by decide +kernel
theorem d1_30 : decode prog_76_method_1_code 30 = .ok (.putfield 33, 3) := by decide +kernel
theorem d1_33 : decode prog_76_method_1_code 33 = .ok (.aload_n 0, 1) := by decide +kernel
theorem d1_34 : decode prog_76_method_1_code 34 = .ok (.aload 4, 2) := by decide +kernel
theorem d1_36 : decode prog_76_method_1_code 36 = .ok (.putfield 37, 3) := by decide +kernel
theorem d1_39 : decode prog_76_method_1_code 39 = .ok (.aload_n 0, 1) := by decide +kernel
theorem d1_40 : decode prog_76_method_1_code 40 = .ok (.aload_n 3, 1) := by decide +kernel
theorem d1_41 : decode prog_76_method_1_code 41 = .ok (.getstatic 41, 3) := by decide +kernel
theorem d1_44 : decode prog_76_method_1_code 44 = .ok (.if_acmp .ne 7, 3) := by decide +kernel
theorem d1_51 : decode prog_76_method_1_code 51 = .ok (.iconst 0, 1) := by decide +kernel
theorem d1_52 : decode prog_76_method_1_code 52 = .ok (.putfield 46, 3) := by decide +kernel
theorem d1_55 : decode prog_76_method_1_code 55 = .ok (.aload_n 0, 1) := by decide +kernel
theorem d1_56 : decode prog_76_method_1_code 56 = .ok (.aload_n 3, 1) := by decide +kernel
theorem d1_57 : decode prog_76_method_1_code 57 = .ok (.getstatic 50, 3) := by decide +kernel
theorem d1_60 : decode prog_76_method_1_code 60 = .ok (.if_acmp .eq 14, 3) := by decide +kernel
theorem d1_63 : decode prog_76_method_1_code 63 = .ok (.aload_n 2, 1) := by decide +kernel
theorem d1_64 : decode prog_76_method_1_code 64 = .ok (.ifnull 14, 3) := by decide +kernel
theorem d1_78 : decode prog_76_method_1_code 78 = .ok (.iconst 0, 1) := by decide +kernel
theorem d1_79 : decode prog_76_method_1_code 79 = .ok (.putfield 53, 3) := by decide +kernel
theorem d1_82 : decode prog_76_method_1_code 82 = .ok (.return_, 1) := by decide +kernel
theorem pn_39 : plainName "com/example/otaniemi/otaniemi/State" = true := by first | (simp [plainName, overriddenIn]; done) | decide +kernel
theorem ef_rmSt (m : MethodId) (x0 : Addr) (x1 : Int32) : entryFrame m #[(.ref x0), (.int x1), .null, .null, .null] 5 = mkF m 0 #[.val (.ref x0), .val (.int x1), .val .null, .val .null, .val .null] [] := by first | (simp [entryFrame, mkF, argsToLocals, Value.category]; done) | rfl
def Q_rmSt (Z : State) (st : Addr) (nn : Int32) (aN aI aD aG : Addr) (h0 : Heap) (n0 : Nat) (v : Option Value) (h : Heap) (L : List Loc) : Prop := v = none ∧ Fr n0 L ∧ Keep h0 h [st] ∧ Fld Z h st "com/example/otaniemi/otaniemi/State" "number" "I" (.int nn) ∧ Fld Z h st "com/example/otaniemi/otaniemi/State" "predicateDepth" "I" (.int 0) ∧ Fld Z h st "com/example/otaniemi/otaniemi/State" "idCount" "I" (.int 0) ∧ Fld Z h st "com/example/otaniemi/otaniemi/State" "parent" "Lcom/example/otaniemi/otaniemi/State;" .null ∧ Fld Z h st "com/example/otaniemi/otaniemi/State" "ids" "[I" (.ref aI) ∧ Fld Z h st "com/example/otaniemi/otaniemi/State" "predicateParts" "Lcom/example/otaniemi/otaniemi/State$PredicateParts;" (.ref aN)
set_option maxRecDepth 65536 in
set_option maxHeartbeats 40000000 in
theorem rmSt (l : Launch) (Z : State) (a0 : Array Value) (hw : ∀ d ∈ tables_1, d.before a0 Z = true) (ws : List Jvm.Cond) (st : Addr) (nn : Int32) (aN aI aD aG : Addr) (h0 : Heap) (n0 : Nat) (Z0 : n0 ≤ h0.size) (E_st : Exa Z h0 st "com/example/otaniemi/otaniemi/State") (F_st_predicateParts : Fld Z h0 st "com/example/otaniemi/otaniemi/State" "predicateParts" "Lcom/example/otaniemi/otaniemi/State$PredicateParts;" .null) (F_st_ids : Fld Z h0 st "com/example/otaniemi/otaniemi/State" "ids" "[I" .null) (F_st_number : Fld Z h0 st "com/example/otaniemi/otaniemi/State" "number" "I" (.int 0)) (F_st_parent : Fld Z h0 st "com/example/otaniemi/otaniemi/State" "parent" "Lcom/example/otaniemi/otaniemi/State;" .null) (F_st_edge : Fld Z h0 st "com/example/otaniemi/otaniemi/State" "edge" "Lcom/example/otaniemi/otaniemi/State$Edge;" .null) (F_st_key : Fld Z h0 st "com/example/otaniemi/otaniemi/State" "key" "Ljava/lang/String;" .null) (F_st_loops : Fld Z h0 st "com/example/otaniemi/otaniemi/State" "loops" "Z" (.int 0)) (F_st_conditional : Fld Z h0 st "com/example/otaniemi/otaniemi/State" "conditional" "Z" (.int 0)) (F_st_idCount : Fld Z h0 st "com/example/otaniemi/otaniemi/State" "idCount" "I" (.int 0)) (F_st_predicateDepth : Fld Z h0 st "com/example/otaniemi/otaniemi/State" "predicateDepth" "I" (.int 0)) (g_st : n0 ≤ st) (S_NONE : Sta Z h0 "com/example/otaniemi/otaniemi/State$PredicateParts" "NONE" "Lcom/example/otaniemi/otaniemi/State$PredicateParts;" (.ref aN)) (S_NO_IDS : Sta Z h0 "com/example/otaniemi/otaniemi/State" "NO_IDS" "[I" (.ref aI)) (S_DESCENDANTS : Sta Z h0 "com/example/otaniemi/otaniemi/State$Edge" "DESCENDANTS" "Lcom/example/otaniemi/otaniemi/State$Edge;" (.ref aD)) (S_GUARD : Sta Z h0 "com/example/otaniemi/otaniemi/State$Edge" "GUARD" "Lcom/example/otaniemi/otaniemi/State$Edge;" (.ref aG)) :
    MetFree l (⟨"com/example/otaniemi/otaniemi/State", "<init>", "(ILcom/example/otaniemi/otaniemi/State;Lcom/example/otaniemi/otaniemi/State$Edge;Ljava/lang/String;)V"⟩ : MethodName) (head1 (Jvm.Cond.code (⟨"com/example/otaniemi/otaniemi/State", "<init>", "(ILcom/example/otaniemi/otaniemi/State;Lcom/example/otaniemi/otaniemi/State$Edge;Ljava/lang/String;)V"⟩ : MethodName) prog_76_method_1_code 5 none :: ws) ({ frames := 1, cells := 0, slots := 0, locals := 12 } : Room)) (fun a U => a = #[(.ref st), (.int nn), .null, .null, .null] ∧ Z.Warmed39 U.vm ∧ U.heap = h0) (fun _ _ _ _ _ => True) (fun _ U o U' => ∃ v L, o = .returned v ∧ Q_rmSt Z st nn aN aI aD aG h0 n0 v U'.heap L ∧ FrameEnd U o U' L ({ frames := 1, cells := 0, slots := 0, locals := 12 } : Room).cells ({ frames := 1, cells := 0, slots := 0, locals := 12 } : Room).slots) := by
  refine MetFree.of_bodySF (plainFor_of_name pn_39) hisR ?_
  intro p e s m args below meth c s₁ Bd hml0 hP hK
  obtain ⟨rfl, hZ, hh⟩ := hP
  have hx := Bd.exec
  have hby := Bd.bytes
  have hlk := Bd.notSynchronized
  have hml : c.maxLocals = 5 := hml0
  have hown : s.vm.findClass "com/example/otaniemi/otaniemi/State" = some m.cls := findClass_of_methodNamed Bd.named
  have hnm := (name_of_methodNamed Bd.named Bd.method).1
  have X0 : Stand p l e ({ frames := 1, cells := 0, slots := 0, locals := 12 } : Room) s m #[(.ref st), (.int nn), .null, .null, .null] below meth c s₁ [] 0 0 := Stand.of_body Bd
  have e0 : s₁.heap = h0 := by rw [← hh, Bd.state]; rfl
  have N0 := Fr.nil n0
  change own_Go p e below s (Q_rmSt Z st nn aN aI aD aG h0 n0) ({ frames := 1, cells := 0, slots := 0, locals := 12 } : Room).cells ({ frames := 1, cells := 0, slots := 0, locals := 12 } : Room).slots _
  refine own_go (S' := (s₁.setTop (mkF m 0 #[.val (.ref st), .val (.int nn), .val .null, .val .null, .val .null] []))) (fun _ kont => castTop (ef_rmSt m st nn) kont) ?_
  have K0 := Keep.refl h0 [st]
  refine own_go (S' := (s₁.setTop (mkF m 1 #[.val (.ref st), .val (.int nn), .val .null, .val .null, .val .null] [(.ref st)]))) (fun _ kont => XS.aloadN X0.here hx rfl (hb hby d1_0) rfl rfl kont) ?_
  obtain ⟨T1, X1, e1, st1⟩ := initO X0 hx hZ hown (oH hw 6 rfl) (oH hw 7 rfl) (oH hw 8 rfl) e0 (g := (mkF m 1 #[.val (.ref st), .val (.int nn), .val .null, .val .null, .val .null] [(.ref st)])) rfl (by rw [hml]; rfl) rfl (hb hby d1_1) (by decide) (W := 0) (by show 2 * 0 + _ ≤ _; exact Nat.le_of_eq rfl) (by decide)
  refine own_go (S' := (T1.setTop (mkF m 4 #[.val (.ref st), .val (.int nn), .val .null, .val .null, .val .null] []))) st1 ?_
  refine own_go (S' := (T1.setTop (mkF m 5 #[.val (.ref st), .val (.int nn), .val .null, .val .null, .val .null] [(.ref st)]))) (fun _ kont => XS.aloadN X1.here hx rfl (hb hby d1_4) rfl rfl kont) ?_
  obtain ⟨T2, X2, e2, st2⟩ := own_getSR X1 hx hZ hown (oH hw 9 rfl) e1 S_NONE (g := (mkF m 5 #[.val (.ref st), .val (.int nn), .val .null, .val .null, .val .null] [(.ref st)])) rfl (hb hby d1_5)
  refine own_go (S' := (T2.setTop (mkF m 8 #[.val (.ref st), .val (.int nn), .val .null, .val .null, .val .null] [(.ref aN), (.ref st)]))) st2 ?_
  obtain ⟨T3, h3, X3, e3, W3, st3⟩ := putF X2 hx hZ hown (host := "") (Or.inl (oH hw 12 rfl)) Via.refl e2 F_st_predicateParts E_st (Or.inl (oH hw 13 rfl)) (oH hw 1 rfl) (ty := (.object "com/example/otaniemi/otaniemi/State$PredicateParts")) (by decide) rfl rfl (g := (mkF m 8 #[.val (.ref st), .val (.int nn), .val .null, .val .null, .val .null] [(.ref aN), (.ref st)])) rfl rfl (hb hby d1_8)
  have c3_Est := E_st.wr W3
  have c3_Fst_predicateParts := F_st_predicateParts.same W3
  have c3_Fst_ids := F_st_ids.other W3 (Or.inr (slot_ne (Or.inl (oH hw 17 rfl)) (Or.inl (oH hw 13 rfl)) (by decide) (by decide : parseFieldDescriptor "[I" = some (.array .int)) (by decide : parseFieldDescriptor "Lcom/example/otaniemi/otaniemi/State$PredicateParts;" = some (.object "com/example/otaniemi/otaniemi/State$PredicateParts"))))
  have c3_Fst_number := F_st_number.other W3 (Or.inr (slot_ne (Or.inl (oH hw 19 rfl)) (Or.inl (oH hw 13 rfl)) (by decide) (by decide : parseFieldDescriptor "I" = some .int) (by decide : parseFieldDescriptor "Lcom/example/otaniemi/otaniemi/State$PredicateParts;" = some (.object "com/example/otaniemi/otaniemi/State$PredicateParts"))))
  have c3_Fst_parent := F_st_parent.other W3 (Or.inr (slot_ne (Or.inr (oH hw 21 rfl)) (Or.inl (oH hw 13 rfl)) (by decide) (by decide : parseFieldDescriptor "Lcom/example/otaniemi/otaniemi/State;" = some (.object "com/example/otaniemi/otaniemi/State")) (by decide : parseFieldDescriptor "Lcom/example/otaniemi/otaniemi/State$PredicateParts;" = some (.object "com/example/otaniemi/otaniemi/State$PredicateParts"))))
  have c3_Fst_edge := F_st_edge.other W3 (Or.inr (slot_ne (Or.inr (oH hw 23 rfl)) (Or.inl (oH hw 13 rfl)) (by decide) (by decide : parseFieldDescriptor "Lcom/example/otaniemi/otaniemi/State$Edge;" = some (.object "com/example/otaniemi/otaniemi/State$Edge")) (by decide : parseFieldDescriptor "Lcom/example/otaniemi/otaniemi/State$PredicateParts;" = some (.object "com/example/otaniemi/otaniemi/State$PredicateParts"))))
  have c3_Fst_key := F_st_key.other W3 (Or.inr (slot_ne (Or.inr (oH hw 25 rfl)) (Or.inl (oH hw 13 rfl)) (by decide) (by decide : parseFieldDescriptor "Ljava/lang/String;" = some (.object "java/lang/String")) (by decide : parseFieldDescriptor "Lcom/example/otaniemi/otaniemi/State$PredicateParts;" = some (.object "com/example/otaniemi/otaniemi/State$PredicateParts"))))
  have c3_Fst_loops := F_st_loops.other W3 (Or.inr (slot_ne (Or.inr (oH hw 30 rfl)) (Or.inl (oH hw 13 rfl)) (by decide) (by decide : parseFieldDescriptor "Z" = some .boolean) (by decide : parseFieldDescriptor "Lcom/example/otaniemi/otaniemi/State$PredicateParts;" = some (.object "com/example/otaniemi/otaniemi/State$PredicateParts"))))
  have c3_Fst_conditional := F_st_conditional.other W3 (Or.inr (slot_ne (Or.inr (oH hw 34 rfl)) (Or.inl (oH hw 13 rfl)) (by decide) (by decide : parseFieldDescriptor "Z" = some .boolean) (by decide : parseFieldDescriptor "Lcom/example/otaniemi/otaniemi/State$PredicateParts;" = some (.object "com/example/otaniemi/otaniemi/State$PredicateParts"))))
  have c3_Fst_idCount := F_st_idCount.other W3 (Or.inr (slot_ne (Or.inl (oH hw 82 rfl)) (Or.inl (oH hw 13 rfl)) (by decide) (by decide : parseFieldDescriptor "I" = some .int) (by decide : parseFieldDescriptor "Lcom/example/otaniemi/otaniemi/State$PredicateParts;" = some (.object "com/example/otaniemi/otaniemi/State$PredicateParts"))))
  have c3_Fst_predicateDepth := F_st_predicateDepth.other W3 (Or.inr (slot_ne (Or.inl (oH hw 155 rfl)) (Or.inl (oH hw 13 rfl)) (by decide) (by decide : parseFieldDescriptor "I" = some .int) (by decide : parseFieldDescriptor "Lcom/example/otaniemi/otaniemi/State$PredicateParts;" = some (.object "com/example/otaniemi/otaniemi/State$PredicateParts"))))
  have c3_SNONE := S_NONE.wr W3
  have c3_SNO_IDS := S_NO_IDS.wr W3
  have c3_SDESCENDANTS := S_DESCENDANTS.wr W3
  have c3_SGUARD := S_GUARD.wr W3
  have K3 := K0.wr W3 (Or.inl (List.mem_of_getElem? (i := 0) rfl))
  have N3 := Fr.snoc X3 N0 g_st
  have Z3 : n0 ≤ h3.size := Nat.le_trans Z0 (Nat.le_of_eq W3.size.symm)
  refine own_go (S' := (T3.setTop (mkF m 11 #[.val (.ref st), .val (.int nn), .val .null, .val .null, .val .null] []))) st3 ?_
  refine own_go (S' := (T3.setTop (mkF m 12 #[.val (.ref st), .val (.int nn), .val .null, .val .null, .val .null] [(.ref st)]))) (fun _ kont => XS.aloadN X3.here hx rfl (hb hby d1_11) rfl rfl kont) ?_
  obtain ⟨T4, X4, e4, st4⟩ := getS2 X3 hx hZ hown (host := "") (Or.inl (oH hw 14 rfl)) Via.refl e3 c3_SNO_IDS (g := (mkF m 12 #[.val (.ref st), .val (.int nn), .val .null, .val .null, .val .null] [(.ref st)])) rfl (hb hby d1_12)
  refine own_go (S' := (T4.setTop (mkF m 15 #[.val (.ref st), .val (.int nn), .val .null, .val .null, .val .null] [(.ref aI), (.ref st)]))) st4 ?_
  obtain ⟨T5, h5, X5, e5, W5, st5⟩ := putF X4 hx hZ hown (host := "") (Or.inl (oH hw 16 rfl)) Via.refl e4 c3_Fst_ids c3_Est (Or.inl (oH hw 17 rfl)) (oH hw 1 rfl) (ty := (.array .int)) (by decide) rfl rfl (g := (mkF m 15 #[.val (.ref st), .val (.int nn), .val .null, .val .null, .val .null] [(.ref aI), (.ref st)])) rfl rfl (hb hby d1_15)
  have c5_Est := c3_Est.wr W5
  have c5_Fst_predicateParts := c3_Fst_predicateParts.other W5 (Or.inr (slot_ne (Or.inl (oH hw 13 rfl)) (Or.inl (oH hw 17 rfl)) (by decide) (by decide : parseFieldDescriptor "Lcom/example/otaniemi/otaniemi/State$PredicateParts;" = some (.object "com/example/otaniemi/otaniemi/State$PredicateParts")) (by decide : parseFieldDescriptor "[I" = some (.array .int))))
  have c5_Fst_ids := c3_Fst_ids.same W5
  have c5_Fst_number := c3_Fst_number.other W5 (Or.inr (slot_ne (Or.inl (oH hw 19 rfl)) (Or.inl (oH hw 17 rfl)) (by decide) (by decide : parseFieldDescriptor "I" = some .int) (by decide : parseFieldDescriptor "[I" = some (.array .int))))
  have c5_Fst_parent := c3_Fst_parent.other W5 (Or.inr (slot_ne (Or.inr (oH hw 21 rfl)) (Or.inl (oH hw 17 rfl)) (by decide) (by decide : parseFieldDescriptor "Lcom/example/otaniemi/otaniemi/State;" = some (.object "com/example/otaniemi/otaniemi/State")) (by decide : parseFieldDescriptor "[I" = some (.array .int))))
  have c5_Fst_edge := c3_Fst_edge.other W5 (Or.inr (slot_ne (Or.inr (oH hw 23 rfl)) (Or.inl (oH hw 17 rfl)) (by decide) (by decide : parseFieldDescriptor "Lcom/example/otaniemi/otaniemi/State$Edge;" = some (.object "com/example/otaniemi/otaniemi/State$Edge")) (by decide : parseFieldDescriptor "[I" = some (.array .int))))
  have c5_Fst_key := c3_Fst_key.other W5 (Or.inr (slot_ne (Or.inr (oH hw 25 rfl)) (Or.inl (oH hw 17 rfl)) (by decide) (by decide : parseFieldDescriptor "Ljava/lang/String;" = some (.object "java/lang/String")) (by decide : parseFieldDescriptor "[I" = some (.array .int))))
  have c5_Fst_loops := c3_Fst_loops.other W5 (Or.inr (slot_ne (Or.inr (oH hw 30 rfl)) (Or.inl (oH hw 17 rfl)) (by decide) (by decide : parseFieldDescriptor "Z" = some .boolean) (by decide : parseFieldDescriptor "[I" = some (.array .int))))
  have c5_Fst_conditional := c3_Fst_conditional.other W5 (Or.inr (slot_ne (Or.inr (oH hw 34 rfl)) (Or.inl (oH hw 17 rfl)) (by decide) (by decide : parseFieldDescriptor "Z" = some .boolean) (by decide : parseFieldDescriptor "[I" = some (.array .int))))
  have c5_Fst_idCount := c3_Fst_idCount.other W5 (Or.inr (slot_ne (Or.inl (oH hw 82 rfl)) (Or.inl (oH hw 17 rfl)) (by decide) (by decide : parseFieldDescriptor "I" = some .int) (by decide : parseFieldDescriptor "[I" = some (.array .int))))
  have c5_Fst_predicateDepth := c3_Fst_predicateDepth.other W5 (Or.inr (slot_ne (Or.inl (oH hw 155 rfl)) (Or.inl (oH hw 17 rfl)) (by decide) (by decide : parseFieldDescriptor "I" = some .int) (by decide : parseFieldDescriptor "[I" = some (.array .int))))
  have c5_SNONE := c3_SNONE.wr W5
  have c5_SNO_IDS := c3_SNO_IDS.wr W5
  have c5_SDESCENDANTS := c3_SDESCENDANTS.wr W5
  have c5_SGUARD := c3_SGUARD.wr W5
  have K5 := K3.wr W5 (Or.inl (List.mem_of_getElem? (i := 0) rfl))
  have N5 := Fr.snoc X5 N3 g_st
  have Z5 : n0 ≤ h5.size := Nat.le_trans Z3 (Nat.le_of_eq W5.size.symm)
  refine own_go (S' := (T5.setTop (mkF m 18 #[.val (.ref st), .val (.int nn), .val .null, .val .null, .val .null] []))) st5 ?_
  refine own_go (S' := (T5.setTop (mkF m 20 #[.val (.ref st), .val (.int nn), .val .null, .val .null, .val .null] [(.int nn), (.ref st)]))) (fun _ kont => XS.aloadN X5.here hx rfl (hb hby d1_18) rfl rfl (XS.iloadN X5.here hx rfl (hb hby d1_19) rfl kont)) ?_
  obtain ⟨T6, h6, X6, e6, W6, st6⟩ := putF X5 hx hZ hown (host := "") (Or.inl (oH hw 18 rfl)) Via.refl e5 c5_Fst_number c5_Est (Or.inl (oH hw 19 rfl)) (oH hw 1 rfl) (ty := .int) (by decide) rfl rfl (g := (mkF m 20 #[.val (.ref st), .val (.int nn), .val .null, .val .null, .val .null] [(.int nn), (.ref st)])) rfl rfl (hb hby d1_20)
  have c6_Est := c5_Est.wr W6
  have c6_Fst_predicateParts := c5_Fst_predicateParts.other W6 (Or.inr (slot_ne (Or.inl (oH hw 13 rfl)) (Or.inl (oH hw 19 rfl)) (by decide) (by decide : parseFieldDescriptor "Lcom/example/otaniemi/otaniemi/State$PredicateParts;" = some (.object "com/example/otaniemi/otaniemi/State$PredicateParts")) (by decide : parseFieldDescriptor "I" = some .int)))
  have c6_Fst_ids := c5_Fst_ids.other W6 (Or.inr (slot_ne (Or.inl (oH hw 17 rfl)) (Or.inl (oH hw 19 rfl)) (by decide) (by decide : parseFieldDescriptor "[I" = some (.array .int)) (by decide : parseFieldDescriptor "I" = some .int)))
  have c6_Fst_number := c5_Fst_number.same W6
  have c6_Fst_parent := c5_Fst_parent.other W6 (Or.inr (slot_ne (Or.inr (oH hw 21 rfl)) (Or.inl (oH hw 19 rfl)) (by decide) (by decide : parseFieldDescriptor "Lcom/example/otaniemi/otaniemi/State;" = some (.object "com/example/otaniemi/otaniemi/State")) (by decide : parseFieldDescriptor "I" = some .int)))
  have c6_Fst_edge := c5_Fst_edge.other W6 (Or.inr (slot_ne (Or.inr (oH hw 23 rfl)) (Or.inl (oH hw 19 rfl)) (by decide) (by decide : parseFieldDescriptor "Lcom/example/otaniemi/otaniemi/State$Edge;" = some (.object "com/example/otaniemi/otaniemi/State$Edge")) (by decide : parseFieldDescriptor "I" = some .int)))
  have c6_Fst_key := c5_Fst_key.other W6 (Or.inr (slot_ne (Or.inr (oH hw 25 rfl)) (Or.inl (oH hw 19 rfl)) (by decide) (by decide : parseFieldDescriptor "Ljava/lang/String;" = some (.object "java/lang/String")) (by decide : parseFieldDescriptor "I" = some .int)))
  have c6_Fst_loops := c5_Fst_loops.other W6 (Or.inr (slot_ne (Or.inr (oH hw 30 rfl)) (Or.inl (oH hw 19 rfl)) (by decide) (by decide : parseFieldDescriptor "Z" = some .boolean) (by decide : parseFieldDescriptor "I" = some .int)))
  have c6_Fst_conditional := c5_Fst_conditional.other W6 (Or.inr (slot_ne (Or.inr (oH hw 34 rfl)) (Or.inl (oH hw 19 rfl)) (by decide) (by decide : parseFieldDescriptor "Z" = some .boolean) (by decide : parseFieldDescriptor "I" = some .int)))
  have c6_Fst_idCount := c5_Fst_idCount.other W6 (Or.inr (slot_ne (Or.inl (oH hw 82 rfl)) (Or.inl (oH hw 19 rfl)) (by decide) (by decide : parseFieldDescriptor "I" = some .int) (by decide : parseFieldDescriptor "I" = some .int)))
  have c6_Fst_predicateDepth := c5_Fst_predicateDepth.other W6 (Or.inr (slot_ne (Or.inl (oH hw 155 rfl)) (Or.inl (oH hw 19 rfl)) (by decide) (by decide : parseFieldDescriptor "I" = some .int) (by decide : parseFieldDescriptor "I" = some .int)))
  have c6_SNONE := c5_SNONE.wr W6
  have c6_SNO_IDS := c5_SNO_IDS.wr W6
  have c6_SDESCENDANTS := c5_SDESCENDANTS.wr W6
  have c6_SGUARD := c5_SGUARD.wr W6
  have K6 := K5.wr W6 (Or.inl (List.mem_of_getElem? (i := 0) rfl))
  have N6 := Fr.snoc X6 N5 g_st
  have Z6 : n0 ≤ h6.size := Nat.le_trans Z5 (Nat.le_of_eq W6.size.symm)
  refine own_go (S' := (T6.setTop (mkF m 23 #[.val (.ref st), .val (.int nn), .val .null, .val .null, .val .null] []))) st6 ?_
  refine own_go (S' := (T6.setTop (mkF m 25 #[.val (.ref st), .val (.int nn), .val .null, .val .null, .val .null] [.null, (.ref st)]))) (fun _ kont => XS.aloadN X6.here hx rfl (hb hby d1_23) rfl rfl (XS.aloadN X6.here hx rfl (hb hby d1_24) rfl rfl kont)) ?_
  obtain ⟨T7, h7, X7, e7, W7, st7⟩ := putF X6 hx hZ hown (host := "") (Or.inl (oH hw 20 rfl)) Via.refl e6 c6_Fst_parent c6_Est (Or.inr ⟨(oH hw 21 rfl), rfl, hnm⟩) (oH hw 1 rfl) (ty := (.object "com/example/otaniemi/otaniemi/State")) (by decide) rfl rfl (g := (mkF m 25 #[.val (.ref st), .val (.int nn), .val .null, .val .null, .val .null] [.null, (.ref st)])) rfl rfl (hb hby d1_25)
  have c7_Est := c6_Est.wr W7
  have c7_Fst_predicateParts := c6_Fst_predicateParts.other W7 (Or.inr (slot_ne (Or.inl (oH hw 13 rfl)) (Or.inr (oH hw 21 rfl)) (by decide) (by decide : parseFieldDescriptor "Lcom/example/otaniemi/otaniemi/State$PredicateParts;" = some (.object "com/example/otaniemi/otaniemi/State$PredicateParts")) (by decide : parseFieldDescriptor "Lcom/example/otaniemi/otaniemi/State;" = some (.object "com/example/otaniemi/otaniemi/State"))))
  have c7_Fst_ids := c6_Fst_ids.other W7 (Or.inr (slot_ne (Or.inl (oH hw 17 rfl)) (Or.inr (oH hw 21 rfl)) (by decide) (by decide : parseFieldDescriptor "[I" = some (.array .int)) (by decide : parseFieldDescriptor "Lcom/example/otaniemi/otaniemi/State;" = some (.object "com/example/otaniemi/otaniemi/State"))))
  have c7_Fst_number := c6_Fst_number.other W7 (Or.inr (slot_ne (Or.inl (oH hw 19 rfl)) (Or.inr (oH hw 21 rfl)) (by decide) (by decide : parseFieldDescriptor "I" = some .int) (by decide : parseFieldDescriptor "Lcom/example/otaniemi/otaniemi/State;" = some (.object "com/example/otaniemi/otaniemi/State"))))
  have c7_Fst_parent := c6_Fst_parent.same W7
  have c7_Fst_edge := c6_Fst_edge.other W7 (Or.inr (slot_ne (Or.inr (oH hw 23 rfl)) (Or.inr (oH hw 21 rfl)) (by decide) (by decide : parseFieldDescriptor "Lcom/example/otaniemi/otaniemi/State$Edge;" = some (.object "com/example/otaniemi/otaniemi/State$Edge")) (by decide : parseFieldDescriptor "Lcom/example/otaniemi/otaniemi/State;" = some (.object "com/example/otaniemi/otaniemi/State"))))
  have c7_Fst_key := c6_Fst_key.other W7 (Or.inr (slot_ne (Or.inr (oH hw 25 rfl)) (Or.inr (oH hw 21 rfl)) (by decide) (by decide : parseFieldDescriptor "Ljava/lang/String;" = some (.object "java/lang/String")) (by decide : parseFieldDescriptor "Lcom/example/otaniemi/otaniemi/State;" = some (.object "com/example/otaniemi/otaniemi/State"))))
  have c7_Fst_loops := c6_Fst_loops.other W7 (Or.inr (slot_ne (Or.inr (oH hw 30 rfl)) (Or.inr (oH hw 21 rfl)) (by decide) (by decide : parseFieldDescriptor "Z" = some .boolean) (by decide : parseFieldDescriptor "Lcom/example/otaniemi/otaniemi/State;" = some (.object "com/example/otaniemi/otaniemi/State"))))
  have c7_Fst_conditional := c6_Fst_conditional.other W7 (Or.inr (slot_ne (Or.inr (oH hw 34 rfl)) (Or.inr (oH hw 21 rfl)) (by decide) (by decide : parseFieldDescriptor "Z" = some .boolean) (by decide : parseFieldDescriptor "Lcom/example/otaniemi/otaniemi/State;" = some (.object "com/example/otaniemi/otaniemi/State"))))
  have c7_Fst_idCount := c6_Fst_idCount.other W7 (Or.inr (slot_ne (Or.inl (oH hw 82 rfl)) (Or.inr (oH hw 21 rfl)) (by decide) (by decide : parseFieldDescriptor "I" = some .int) (by decide : parseFieldDescriptor "Lcom/example/otaniemi/otaniemi/State;" = some (.object "com/example/otaniemi/otaniemi/State"))))
  have c7_Fst_predicateDepth := c6_Fst_predicateDepth.other W7 (Or.inr (slot_ne (Or.inl (oH hw 155 rfl)) (Or.inr (oH hw 21 rfl)) (by decide) (by decide : parseFieldDescriptor "I" = some .int) (by decide : parseFieldDescriptor "Lcom/example/otaniemi/otaniemi/State;" = some (.object "com/example/otaniemi/otaniemi/State"))))
  have c7_SNONE := c6_SNONE.wr W7
  have c7_SNO_IDS := c6_SNO_IDS.wr W7
  have c7_SDESCENDANTS := c6_SDESCENDANTS.wr W7
  have c7_SGUARD := c6_SGUARD.wr W7
  have K7 := K6.wr W7 (Or.inl (List.mem_of_getElem? (i := 0) rfl))
  have N7 := Fr.snoc X7 N6 g_st
  have Z7 : n0 ≤ h7.size := Nat.le_trans Z6 (Nat.le_of_eq W7.size.symm)
  refine own_go (S' := (T7.setTop (mkF m 28 #[.val (.ref st), .val (.int nn), .val .null, .val .null, .val .null] []))) st7 ?_
  refine own_go (S' := (T7.setTop (mkF m 30 #[.val (.ref st), .val (.int nn), .val .null, .val .null, .val .null] [.null, (.ref st)]))) (fun _ kont => XS.aloadN X7.here hx rfl (hb hby d1_28) rfl rfl (XS.aloadN X7.here hx rfl (hb hby d1_29) rfl rfl kont)) ?_
  obtain ⟨T8, h8, X8, e8, W8, st8⟩ := putF X7 hx hZ hown (host := "") (Or.inl (oH hw 22 rfl)) Via.refl e7 c7_Fst_edge c7_Est (Or.inr ⟨(oH hw 23 rfl), rfl, hnm⟩) (oH hw 1 rfl) (ty := (.object "com/example/otaniemi/otaniemi/State$Edge")) (by decide) rfl rfl (g := (mkF m 30 #[.val (.ref st), .val (.int nn), .val .null, .val .null, .val .null] [.null, (.ref st)])) rfl rfl (hb hby d1_30)
  have c8_Est := c7_Est.wr W8
  have c8_Fst_predicateParts := c7_Fst_predicateParts.other W8 (Or.inr (slot_ne (Or.inl (oH hw 13 rfl)) (Or.inr (oH hw 23 rfl)) (by decide) (by decide : parseFieldDescriptor "Lcom/example/otaniemi/otaniemi/State$PredicateParts;" = some (.object "com/example/otaniemi/otaniemi/State$PredicateParts")) (by decide : parseFieldDescriptor "Lcom/example/otaniemi/otaniemi/State$Edge;" = some (.object "com/example/otaniemi/otaniemi/State$Edge"))))
  have c8_Fst_ids := c7_Fst_ids.other W8 (Or.inr (slot_ne (Or.inl (oH hw 17 rfl)) (Or.inr (oH hw 23 rfl)) (by decide) (by decide : parseFieldDescriptor "[I" = some (.array .int)) (by decide : parseFieldDescriptor "Lcom/example/otaniemi/otaniemi/State$Edge;" = some (.object "com/example/otaniemi/otaniemi/State$Edge"))))
  have c8_Fst_number := c7_Fst_number.other W8 (Or.inr (slot_ne (Or.inl (oH hw 19 rfl)) (Or.inr (oH hw 23 rfl)) (by decide) (by decide : parseFieldDescriptor "I" = some .int) (by decide : parseFieldDescriptor "Lcom/example/otaniemi/otaniemi/State$Edge;" = some (.object "com/example/otaniemi/otaniemi/State$Edge"))))
  have c8_Fst_parent := c7_Fst_parent.other W8 (Or.inr (slot_ne (Or.inr (oH hw 21 rfl)) (Or.inr (oH hw 23 rfl)) (by decide) (by decide : parseFieldDescriptor "Lcom/example/otaniemi/otaniemi/State;" = some (.object "com/example/otaniemi/otaniemi/State")) (by decide : parseFieldDescriptor "Lcom/example/otaniemi/otaniemi/State$Edge;" = some (.object "com/example/otaniemi/otaniemi/State$Edge"))))
  have c8_Fst_edge := c7_Fst_edge.same W8
  have c8_Fst_key := c7_Fst_key.other W8 (Or.inr (slot_ne (Or.inr (oH hw 25 rfl)) (Or.inr (oH hw 23 rfl)) (by decide) (by decide : parseFieldDescriptor "Ljava/lang/String;" = some (.object "java/lang/String")) (by decide : parseFieldDescriptor "Lcom/example/otaniemi/otaniemi/State$Edge;" = some (.object "com/example/otaniemi/otaniemi/State$Edge"))))
  have c8_Fst_loops := c7_Fst_loops.other W8 (Or.inr (slot_ne (Or.inr (oH hw 30 rfl)) (Or.inr (oH hw 23 rfl)) (by decide) (by decide : parseFieldDescriptor "Z" = some .boolean) (by decide : parseFieldDescriptor "Lcom/example/otaniemi/otaniemi/State$Edge;" = some (.object "com/example/otaniemi/otaniemi/State$Edge"))))
  have c8_Fst_conditional := c7_Fst_conditional.other W8 (Or.inr (slot_ne (Or.inr (oH hw 34 rfl)) (Or.inr (oH hw 23 rfl)) (by decide) (by decide : parseFieldDescriptor "Z" = some .boolean) (by decide : parseFieldDescriptor "Lcom/example/otaniemi/otaniemi/State$Edge;" = some (.object "com/example/otaniemi/otaniemi/State$Edge"))))
  have c8_Fst_idCount := c7_Fst_idCount.other W8 (Or.inr (slot_ne (Or.inl (oH hw 82 rfl)) (Or.inr (oH hw 23 rfl)) (by decide) (by decide : parseFieldDescriptor "I" = some .int) (by decide : parseFieldDescriptor "Lcom/example/otaniemi/otaniemi/State$Edge;" = some (.object "com/example/otaniemi/otaniemi/State$Edge"))))
  have c8_Fst_predicateDepth := c7_Fst_predicateDepth.other W8 (Or.inr (slot_ne (Or.inl (oH hw 155 rfl)) (Or.inr (oH hw 23 rfl)) (by decide) (by decide : parseFieldDescriptor "I" = some .int) (by decide : parseFieldDescriptor "Lcom/example/otaniemi/otaniemi/State$Edge;" = some (.object "com/example/otaniemi/otaniemi/State$Edge"))))
  have c8_SNONE := c7_SNONE.wr W8
  have c8_SNO_IDS := c7_SNO_IDS.wr W8
  have c8_SDESCENDANTS := c7_SDESCENDANTS.wr W8
  have c8_SGUARD := c7_SGUARD.wr W8
  have K8 := K7.wr W8 (Or.inl (List.mem_of_getElem? (i := 0) rfl))
  have N8 := Fr.snoc X8 N7 g_st
  have Z8 : n0 ≤ h8.size := Nat.le_trans Z7 (Nat.le_of_eq W8.size.symm)
  refine own_go (S' := (T8.setTop (mkF m 33 #[.val (.ref st), .val (.int nn), .val .null, .val .null, .val .null] []))) st8 ?_
  refine own_go (S' := (T8.setTop (mkF m 36 #[.val (.ref st), .val (.int nn), .val .null, .val .null, .val .null] [.null, (.ref st)]))) (fun _ kont => XS.aloadN X8.here hx rfl (hb hby d1_33) rfl rfl (XS.aload X8.here hx rfl (hb hby d1_34) rfl rfl kont)) ?_
  obtain ⟨T9, h9, X9, e9, W9, st9⟩ := putF X8 hx hZ hown (host := "") (Or.inl (oH hw 24 rfl)) Via.refl e8 c8_Fst_key c8_Est (Or.inr ⟨(oH hw 25 rfl), rfl, hnm⟩) (oH hw 1 rfl) (ty := (.object "java/lang/String")) (by decide) rfl rfl (g := (mkF m 36 #[.val (.ref st), .val (.int nn), .val .null, .val .null, .val .null] [.null, (.ref st)])) rfl rfl (hb hby d1_36)
  have c9_Est := c8_Est.wr W9
  have c9_Fst_predicateParts := c8_Fst_predicateParts.other W9 (Or.inr (slot_ne (Or.inl (oH hw 13 rfl)) (Or.inr (oH hw 25 rfl)) (by decide) (by decide : parseFieldDescriptor "Lcom/example/otaniemi/otaniemi/State$PredicateParts;" = some (.object "com/example/otaniemi/otaniemi/State$PredicateParts")) (by decide : parseFieldDescriptor "Ljava/lang/String;" = some (.object "java/lang/String"))))
  have c9_Fst_ids := c8_Fst_ids.other W9 (Or.inr (slot_ne (Or.inl (oH hw 17 rfl)) (Or.inr (oH hw 25 rfl)) (by decide) (by decide : parseFieldDescriptor "[I" = some (.array .int)) (by decide : parseFieldDescriptor "Ljava/lang/String;" = some (.object "java/lang/String"))))
  have c9_Fst_number := c8_Fst_number.other W9 (Or.inr (slot_ne (Or.inl (oH hw 19 rfl)) (Or.inr (oH hw 25 rfl)) (by decide) (by decide : parseFieldDescriptor "I" = some .int) (by decide : parseFieldDescriptor "Ljava/lang/String;" = some (.object "java/lang/String"))))
  have c9_Fst_parent := c8_Fst_parent.other W9 (Or.inr (slot_ne (Or.inr (oH hw 21 rfl)) (Or.inr (oH hw 25 rfl)) (by decide) (by decide : parseFieldDescriptor "Lcom/example/otaniemi/otaniemi/State;" = some (.object "com/example/otaniemi/otaniemi/State")) (by decide : parseFieldDescriptor "Ljava/lang/String;" = some (.object "java/lang/String"))))
  have c9_Fst_edge := c8_Fst_edge.other W9 (Or.inr (slot_ne (Or.inr (oH hw 23 rfl)) (Or.inr (oH hw 25 rfl)) (by decide) (by decide : parseFieldDescriptor "Lcom/example/otaniemi/otaniemi/State$Edge;" = some (.object "com/example/otaniemi/otaniemi/State$Edge")) (by decide : parseFieldDescriptor "Ljava/lang/String;" = some (.object "java/lang/String"))))
  have c9_Fst_key := c8_Fst_key.same W9
  have c9_Fst_loops := c8_Fst_loops.other W9 (Or.inr (slot_ne (Or.inr (oH hw 30 rfl)) (Or.inr (oH hw 25 rfl)) (by decide) (by decide : parseFieldDescriptor "Z" = some .boolean) (by decide : parseFieldDescriptor "Ljava/lang/String;" = some (.object "java/lang/String"))))
  have c9_Fst_conditional := c8_Fst_conditional.other W9 (Or.inr (slot_ne (Or.inr (oH hw 34 rfl)) (Or.inr (oH hw 25 rfl)) (by decide) (by decide : parseFieldDescriptor "Z" = some .boolean) (by decide : parseFieldDescriptor "Ljava/lang/String;" = some (.object "java/lang/String"))))
  have c9_Fst_idCount := c8_Fst_idCount.other W9 (Or.inr (slot_ne (Or.inl (oH hw 82 rfl)) (Or.inr (oH hw 25 rfl)) (by decide) (by decide : parseFieldDescriptor "I" = some .int) (by decide : parseFieldDescriptor "Ljava/lang/String;" = some (.object "java/lang/String"))))
  have c9_Fst_predicateDepth := c8_Fst_predicateDepth.other W9 (Or.inr (slot_ne (Or.inl (oH hw 155 rfl)) (Or.inr (oH hw 25 rfl)) (by decide) (by decide : parseFieldDescriptor "I" = some .int) (by decide : parseFieldDescriptor "Ljava/lang/String;" = some (.object "java/lang/String"))))
  have c9_SNONE := c8_SNONE.wr W9
  have c9_SNO_IDS := c8_SNO_IDS.wr W9
  have c9_SDESCENDANTS := c8_SDESCENDANTS.wr W9
  have c9_SGUARD := c8_SGUARD.wr W9
  have K9 := K8.wr W9 (Or.inl (List.mem_of_getElem? (i := 0) rfl))
  have N9 := Fr.snoc X9 N8 g_st
  have Z9 : n0 ≤ h9.size := Nat.le_trans Z8 (Nat.le_of_eq W9.size.symm)
  refine own_go (S' := (T9.setTop (mkF m 39 #[.val (.ref st), .val (.int nn), .val .null, .val .null, .val .null] []))) st9 ?_
  refine own_go (S' := (T9.setTop (mkF m 41 #[.val (.ref st), .val (.int nn), .val .null, .val .null, .val .null] [.null, (.ref st)]))) (fun _ kont => XS.aloadN X9.here hx rfl (hb hby d1_39) rfl rfl (XS.aloadN X9.here hx rfl (hb hby d1_40) rfl rfl kont)) ?_
  obtain ⟨T10, X10, e10, st10⟩ := getS2 X9 hx hZ hown (host := "") (Or.inl (oH hw 26 rfl)) Via.refl e9 c9_SDESCENDANTS (g := (mkF m 41 #[.val (.ref st), .val (.int nn), .val .null, .val .null, .val .null] [.null, (.ref st)])) rfl (hb hby d1_41)
  refine own_go (S' := (T10.setTop (mkF m 44 #[.val (.ref st), .val (.int nn), .val .null, .val .null, .val .null] [(.ref aD), .null, (.ref st)]))) st10 ?_
  refine own_go (S' := (T10.setTop (mkF m 52 #[.val (.ref st), .val (.int nn), .val .null, .val .null, .val .null] [(.int 0), (.ref st)]))) (fun _ kont => Jvm.RoadKit.acmp (g := (mkF m 44 #[.val (.ref st), .val (.int nn), .val .null, .val .null, .val .null] [(.ref aD), .null, (.ref st)])) X10 hx rfl rfl rfl (pc0 := 44) (pc' := 51) (same := false) rfl (hb hby d1_44) rfl (by simp) (by decide) (by decide) (XS.iconst X10.here hx rfl (hb hby d1_51) kont)) ?_
  obtain ⟨T11, h11, X11, e11, W11, st11⟩ := putFN X10 hx hZ hown (oH hw 29 rfl) Via.refl e10 c9_Fst_loops c9_Est (Or.inr ⟨(oH hw 30 rfl), rfl, hnm⟩) (oH hw 1 rfl) (ty := .boolean) (v' := (.int 0)) (by decide) rfl (by first | exact fits_nar_bool _ | rfl | decide) (g := (mkF m 52 #[.val (.ref st), .val (.int nn), .val .null, .val .null, .val .null] [(.int 0), (.ref st)])) rfl rfl (hb hby d1_52)
  have c11_Est := c9_Est.wr W11
  have c11_Fst_predicateParts := c9_Fst_predicateParts.other W11 (Or.inr (slot_ne (Or.inl (oH hw 13 rfl)) (Or.inr (oH hw 30 rfl)) (by decide) (by decide : parseFieldDescriptor "Lcom/example/otaniemi/otaniemi/State$PredicateParts;" = some (.object "com/example/otaniemi/otaniemi/State$PredicateParts")) (by decide : parseFieldDescriptor "Z" = some .boolean)))
  have c11_Fst_ids := c9_Fst_ids.other W11 (Or.inr (slot_ne (Or.inl (oH hw 17 rfl)) (Or.inr (oH hw 30 rfl)) (by decide) (by decide : parseFieldDescriptor "[I" = some (.array .int)) (by decide : parseFieldDescriptor "Z" = some .boolean)))
  have c11_Fst_number := c9_Fst_number.other W11 (Or.inr (slot_ne (Or.inl (oH hw 19 rfl)) (Or.inr (oH hw 30 rfl)) (by decide) (by decide : parseFieldDescriptor "I" = some .int) (by decide : parseFieldDescriptor "Z" = some .boolean)))
  have c11_Fst_parent := c9_Fst_parent.other W11 (Or.inr (slot_ne (Or.inr (oH hw 21 rfl)) (Or.inr (oH hw 30 rfl)) (by decide) (by decide : parseFieldDescriptor "Lcom/example/otaniemi/otaniemi/State;" = some (.object "com/example/otaniemi/otaniemi/State")) (by decide : parseFieldDescriptor "Z" = some .boolean)))
  have c11_Fst_edge := c9_Fst_edge.other W11 (Or.inr (slot_ne (Or.inr (oH hw 23 rfl)) (Or.inr (oH hw 30 rfl)) (by decide) (by decide : parseFieldDescriptor "Lcom/example/otaniemi/otaniemi/State$Edge;" = some (.object "com/example/otaniemi/otaniemi/State$Edge")) (by decide : parseFieldDescriptor "Z" = some .boolean)))
  have c11_Fst_key := c9_Fst_key.other W11 (Or.inr (slot_ne (Or.inr (oH hw 25 rfl)) (Or.inr (oH hw 30 rfl)) (by decide) (by decide : parseFieldDescriptor "Ljava/lang/String;" = some (.object "java/lang/String")) (by decide : parseFieldDescriptor "Z" = some .boolean)))
  have c11_Fst_loops := c9_Fst_loops.same W11
  have c11_Fst_conditional := c9_Fst_conditional.other W11 (Or.inr (slot_ne (Or.inr (oH hw 34 rfl)) (Or.inr (oH hw 30 rfl)) (by decide) (by decide : parseFieldDescriptor "Z" = some .boolean) (by decide : parseFieldDescriptor "Z" = some .boolean)))
  have c11_Fst_idCount := c9_Fst_idCount.other W11 (Or.inr (slot_ne (Or.inl (oH hw 82 rfl)) (Or.inr (oH hw 30 rfl)) (by decide) (by decide : parseFieldDescriptor "I" = some .int) (by decide : parseFieldDescriptor "Z" = some .boolean)))
  have c11_Fst_predicateDepth := c9_Fst_predicateDepth.other W11 (Or.inr (slot_ne (Or.inl (oH hw 155 rfl)) (Or.inr (oH hw 30 rfl)) (by decide) (by decide : parseFieldDescriptor "I" = some .int) (by decide : parseFieldDescriptor "Z" = some .boolean)))
  have c11_SNONE := c9_SNONE.wr W11
  have c11_SNO_IDS := c9_SNO_IDS.wr W11
  have c11_SDESCENDANTS := c9_SDESCENDANTS.wr W11
  have c11_SGUARD := c9_SGUARD.wr W11
  have K11 := K9.wr W11 (Or.inl (List.mem_of_getElem? (i := 0) rfl))
  have N11 := Fr.snoc X11 N9 g_st
  have Z11 : n0 ≤ h11.size := Nat.le_trans Z9 (Nat.le_of_eq W11.size.symm)
  refine own_go (S' := (T11.setTop (mkF m 55 #[.val (.ref st), .val (.int nn), .val .null, .val .null, .val .null] []))) st11 ?_
  refine own_go (S' := (T11.setTop (mkF m 57 #[.val (.ref st), .val (.int nn), .val .null, .val .null, .val .null] [.null, (.ref st)]))) (fun _ kont => XS.aloadN X11.here hx rfl (hb hby d1_55) rfl rfl (XS.aloadN X11.here hx rfl (hb hby d1_56) rfl rfl kont)) ?_
  obtain ⟨T12, X12, e12, st12⟩ := getS2 X11 hx hZ hown (host := "") (Or.inl (oH hw 31 rfl)) Via.refl e11 c11_SGUARD (g := (mkF m 57 #[.val (.ref st), .val (.int nn), .val .null, .val .null, .val .null] [.null, (.ref st)])) rfl (hb hby d1_57)
  refine own_go (S' := (T12.setTop (mkF m 60 #[.val (.ref st), .val (.int nn), .val .null, .val .null, .val .null] [(.ref aG), .null, (.ref st)]))) st12 ?_
  refine own_go (S' := (T12.setTop (mkF m 79 #[.val (.ref st), .val (.int nn), .val .null, .val .null, .val .null] [(.int 0), (.ref st)]))) (fun _ kont => Jvm.RoadKit.acmp (g := (mkF m 60 #[.val (.ref st), .val (.int nn), .val .null, .val .null, .val .null] [(.ref aG), .null, (.ref st)])) X12 hx rfl rfl rfl (pc0 := 60) (pc' := 63) (same := false) rfl (hb hby d1_60) rfl (by simp) (by decide) (by decide) (XS.aloadN X12.here hx rfl (hb hby d1_63) rfl rfl (XS.ifnullYes X12.here hx rfl (pc0 := 64) (pc' := 78) rfl (hb hby d1_64) rfl (by decide) (by decide) (XS.iconst X12.here hx rfl (hb hby d1_78) kont)))) ?_
  obtain ⟨T13, h13, X13, e13, W13, st13⟩ := putFN X12 hx hZ hown (oH hw 33 rfl) Via.refl e12 c11_Fst_conditional c11_Est (Or.inr ⟨(oH hw 34 rfl), rfl, hnm⟩) (oH hw 1 rfl) (ty := .boolean) (v' := (.int 0)) (by decide) rfl (by first | exact fits_nar_bool _ | rfl | decide) (g := (mkF m 79 #[.val (.ref st), .val (.int nn), .val .null, .val .null, .val .null] [(.int 0), (.ref st)])) rfl rfl (hb hby d1_79)
  have c13_Est := c11_Est.wr W13
  have c13_Fst_predicateParts := c11_Fst_predicateParts.other W13 (Or.inr (slot_ne (Or.inl (oH hw 13 rfl)) (Or.inr (oH hw 34 rfl)) (by decide) (by decide : parseFieldDescriptor "Lcom/example/otaniemi/otaniemi/State$PredicateParts;" = some (.object "com/example/otaniemi/otaniemi/State$PredicateParts")) (by decide : parseFieldDescriptor "Z" = some .boolean)))
  have c13_Fst_ids := c11_Fst_ids.other W13 (Or.inr (slot_ne (Or.inl (oH hw 17 rfl)) (Or.inr (oH hw 34 rfl)) (by decide) (by decide : parseFieldDescriptor "[I" = some (.array .int)) (by decide : parseFieldDescriptor "Z" = some .boolean)))
  have c13_Fst_number := c11_Fst_number.other W13 (Or.inr (slot_ne (Or.inl (oH hw 19 rfl)) (Or.inr (oH hw 34 rfl)) (by decide) (by decide : parseFieldDescriptor "I" = some .int) (by decide : parseFieldDescriptor "Z" = some .boolean)))
  have c13_Fst_parent := c11_Fst_parent.other W13 (Or.inr (slot_ne (Or.inr (oH hw 21 rfl)) (Or.inr (oH hw 34 rfl)) (by decide) (by decide : parseFieldDescriptor "Lcom/example/otaniemi/otaniemi/State;" = some (.object "com/example/otaniemi/otaniemi/State")) (by decide : parseFieldDescriptor "Z" = some .boolean)))
  have c13_Fst_edge := c11_Fst_edge.other W13 (Or.inr (slot_ne (Or.inr (oH hw 23 rfl)) (Or.inr (oH hw 34 rfl)) (by decide) (by decide : parseFieldDescriptor "Lcom/example/otaniemi/otaniemi/State$Edge;" = some (.object "com/example/otaniemi/otaniemi/State$Edge")) (by decide : parseFieldDescriptor "Z" = some .boolean)))
  have c13_Fst_key := c11_Fst_key.other W13 (Or.inr (slot_ne (Or.inr (oH hw 25 rfl)) (Or.inr (oH hw 34 rfl)) (by decide) (by decide : parseFieldDescriptor "Ljava/lang/String;" = some (.object "java/lang/String")) (by decide : parseFieldDescriptor "Z" = some .boolean)))
  have c13_Fst_loops := c11_Fst_loops.other W13 (Or.inr (slot_ne (Or.inr (oH hw 30 rfl)) (Or.inr (oH hw 34 rfl)) (by decide) (by decide : parseFieldDescriptor "Z" = some .boolean) (by decide : parseFieldDescriptor "Z" = some .boolean)))
  have c13_Fst_conditional := c11_Fst_conditional.same W13
  have c13_Fst_idCount := c11_Fst_idCount.other W13 (Or.inr (slot_ne (Or.inl (oH hw 82 rfl)) (Or.inr (oH hw 34 rfl)) (by decide) (by decide : parseFieldDescriptor "I" = some .int) (by decide : parseFieldDescriptor "Z" = some .boolean)))
  have c13_Fst_predicateDepth := c11_Fst_predicateDepth.other W13 (Or.inr (slot_ne (Or.inl (oH hw 155 rfl)) (Or.inr (oH hw 34 rfl)) (by decide) (by decide : parseFieldDescriptor "I" = some .int) (by decide : parseFieldDescriptor "Z" = some .boolean)))
  have c13_SNONE := c11_SNONE.wr W13
  have c13_SNO_IDS := c11_SNO_IDS.wr W13
  have c13_SDESCENDANTS := c11_SDESCENDANTS.wr W13
  have c13_SGUARD := c11_SGUARD.wr W13
  have K13 := K11.wr W13 (Or.inl (List.mem_of_getElem? (i := 0) rfl))
  have N13 := Fr.snoc X13 N11 g_st
  have Z13 : n0 ≤ h13.size := Nat.le_trans Z11 (Nat.le_of_eq W13.size.symm)
  refine own_go (S' := (T13.setTop (mkF m 82 #[.val (.ref st), .val (.int nn), .val .null, .val .null, .val .null] []))) st13 ?_
  refine own_ret0 X13 hx hlk Bd.returns (hb hby d1_82) (by decide) (by decide) ?_
  rw [e13]
  exact ⟨rfl, N13, K13, c13_Fst_number, c13_Fst_predicateDepth, c13_Fst_idCount, c13_Fst_parent, c13_Fst_ids, c13_Fst_predicateParts⟩
theorem d4_0 : decode prog_76_method_16_code 0 = .ok (.aload_n 0, 1) := by decide +kernel
theorem d4_1 : decode prog_76_method_16_code 1 = .ok (.getfield 13, 3) := by decide +kernel
theorem d4_4 : decode prog_76_method_16_code 4 = .ok (.getstatic 7, 3) := by decide +kernel
theorem d4_7 : decode prog_76_method_16_code 7 = .ok (.if_acmp .ne 14, 3) := by decide +kernel
theorem d4_10 : decode prog_76_method_16_code 10 = .ok (.aload_n 0, 1) := by decide +kernel
theorem d4_11 : decode prog_76_method_16_code 11 = .ok (.new 8, 3) := by decide +kernel
theorem d4_14 : decode prog_76_method_16_code 14 = .ok (.dup, 1) := by decide +kernel
theorem d4_15 : decode prog_76_method_16_code 15 = .ok (.invokespecial 131, 3) := by decide +kernel
theorem pd_48 : parseMethodDescriptor "()V" = some ⟨[], none⟩ := by decide +kernel
theorem d4_18 : decode prog_76_method_16_code 18 = .ok (.putfield 13, 3) := by decide +kernel
theorem d4_21 : decode prog_76_method_16_code 21 = .ok (.aload_n 0, 1) := by decide +kernel
theorem d4_22 : decode prog_76_method_16_code 22 = .ok (.getfield 13, 3) := by decide +kernel
theorem d4_25 : decode prog_76_method_16_code 25 = .ok (.areturn, 1) := by decide +kernel
theorem ef_rmOw (m : MethodId) (x0 : Addr) : entryFrame m #[(.ref x0)] 1 = mkF m 0 #[.val (.ref x0)] [] := by first | (simp [entryFrame, mkF, argsToLocals, Value.category]; done) | rfl
def Q_rmOw (Z : State) (st : Addr) (nn : Int32) (aN aI : Addr) (h0 : Heap) (n0 : Nat) (v : Option Value) (h : Heap) (L : List Loc) : Prop := ∃ pp, v = some (.ref pp) ∧ h0.size ≤ pp ∧ Fr n0 L ∧ Keep h0 h [st] ∧ Fld Z h st "com/example/otaniemi/otaniemi/State" "number" "I" (.int nn) ∧ Fld Z h st "com/example/otaniemi/otaniemi/State" "predicateDepth" "I" (.int 0) ∧ Fld Z h st "com/example/otaniemi/otaniemi/State" "idCount" "I" (.int 0) ∧ Fld Z h st "com/example/otaniemi/otaniemi/State" "parent" "Lcom/example/otaniemi/otaniemi/State;" .null ∧ Fld Z h st "com/example/otaniemi/otaniemi/State" "ids" "[I" (.ref aI) ∧ Fld Z h st "com/example/otaniemi/otaniemi/State" "predicateParts" "Lcom/example/otaniemi/otaniemi/State$PredicateParts;" (.ref pp) ∧ Exa Z h pp "com/example/otaniemi/otaniemi/State$PredicateParts" ∧ Fld Z h pp "com/example/otaniemi/otaniemi/State$PredicateParts" "counted" "Z" (.int 0) ∧ Fld Z h pp "com/example/otaniemi/otaniemi/State$PredicateParts" "nearestLoop" "Lcom/example/otaniemi/otaniemi/State;" .null
set_option maxRecDepth 65536 in
set_option maxHeartbeats 40000000 in
theorem rmOw (l : Launch) (Z : State) (a0 : Array Value) (hw : ∀ d ∈ tables_1, d.before a0 Z = true) (ws : List Jvm.Cond) (st : Addr) (nn : Int32) (aN aI : Addr) (h0 : Heap) (n0 : Nat) (Z0 : n0 ≤ h0.size) (E_st : Exa Z h0 st "com/example/otaniemi/otaniemi/State") (F_st_number : Fld Z h0 st "com/example/otaniemi/otaniemi/State" "number" "I" (.int nn)) (F_st_predicateDepth : Fld Z h0 st "com/example/otaniemi/otaniemi/State" "predicateDepth" "I" (.int 0)) (F_st_idCount : Fld Z h0 st "com/example/otaniemi/otaniemi/State" "idCount" "I" (.int 0)) (F_st_parent : Fld Z h0 st "com/example/otaniemi/otaniemi/State" "parent" "Lcom/example/otaniemi/otaniemi/State;" .null) (F_st_ids : Fld Z h0 st "com/example/otaniemi/otaniemi/State" "ids" "[I" (.ref aI)) (F_st_predicateParts : Fld Z h0 st "com/example/otaniemi/otaniemi/State" "predicateParts" "Lcom/example/otaniemi/otaniemi/State$PredicateParts;" (.ref aN)) (g_st : n0 ≤ st) (S_NONE : Sta Z h0 "com/example/otaniemi/otaniemi/State$PredicateParts" "NONE" "Lcom/example/otaniemi/otaniemi/State$PredicateParts;" (.ref aN)) :
    MetFree l (⟨"com/example/otaniemi/otaniemi/State", "ownParts", "()Lcom/example/otaniemi/otaniemi/State$PredicateParts;"⟩ : MethodName) (head1 (Jvm.Cond.code (⟨"com/example/otaniemi/otaniemi/State", "ownParts", "()Lcom/example/otaniemi/otaniemi/State$PredicateParts;"⟩ : MethodName) prog_76_method_16_code 1 (some (.object "com/example/otaniemi/otaniemi/State$PredicateParts")) :: ws) ({ frames := 2, cells := 1, slots := 11, locals := 26 } : Room)) (fun a U => a = #[(.ref st)] ∧ Z.Warmed39 U.vm ∧ U.heap = h0) (fun _ _ _ _ _ => True) (fun _ U o U' => ∃ v L, o = .returned v ∧ Q_rmOw Z st nn aN aI h0 n0 v U'.heap L ∧ FrameEnd U o U' L ({ frames := 2, cells := 1, slots := 11, locals := 26 } : Room).cells ({ frames := 2, cells := 1, slots := 11, locals := 26 } : Room).slots) := by
  refine MetFree.of_bodySF (plainFor_of_name pn_39) hisR ?_
  intro p e s m args below meth c s₁ Bd hml0 hP hK
  obtain ⟨rfl, hZ, hh⟩ := hP
  have hx := Bd.exec
  have hby := Bd.bytes
  have hlk := Bd.notSynchronized
  have hml : c.maxLocals = 1 := hml0
  have hown : s.vm.findClass "com/example/otaniemi/otaniemi/State" = some m.cls := findClass_of_methodNamed Bd.named
  have hnm := (name_of_methodNamed Bd.named Bd.method).1
  have X0 : Stand p l e ({ frames := 2, cells := 1, slots := 11, locals := 26 } : Room) s m #[(.ref st)] below meth c s₁ [] 0 0 := Stand.of_body Bd
  have e0 : s₁.heap = h0 := by rw [← hh, Bd.state]; rfl
  have N0 := Fr.nil n0
  change own_Go p e below s (Q_rmOw Z st nn aN aI h0 n0) ({ frames := 2, cells := 1, slots := 11, locals := 26 } : Room).cells ({ frames := 2, cells := 1, slots := 11, locals := 26 } : Room).slots _
  refine own_go (S' := (s₁.setTop (mkF m 0 #[.val (.ref st)] []))) (fun _ kont => castTop (ef_rmOw m st) kont) ?_
  have K0 := Keep.refl h0 [st]
  refine own_go (S' := (s₁.setTop (mkF m 1 #[.val (.ref st)] [(.ref st)]))) (fun _ kont => XS.aloadN X0.here hx rfl (hb hby d4_0) rfl rfl kont) ?_
  obtain ⟨T1, X1, e1, st1⟩ := getF X0 hx hZ hown (host := "") (Or.inl (oH hw 12 rfl)) Via.refl e0 F_st_predicateParts (g := (mkF m 1 #[.val (.ref st)] [(.ref st)])) rfl rfl (hb hby d4_1)
  refine own_go (S' := (T1.setTop (mkF m 4 #[.val (.ref st)] [(.ref aN)]))) st1 ?_
  obtain ⟨T2, X2, e2, st2⟩ := own_getSR X1 hx hZ hown (oH hw 9 rfl) e1 S_NONE (g := (mkF m 4 #[.val (.ref st)] [(.ref aN)])) rfl (hb hby d4_4)
  refine own_go (S' := (T2.setTop (mkF m 7 #[.val (.ref st)] [(.ref aN), (.ref aN)]))) st2 ?_
  refine own_go (S' := (T2.setTop (mkF m 11 #[.val (.ref st)] [(.ref st)]))) (fun _ kont => Jvm.RoadKit.acmp (g := (mkF m 7 #[.val (.ref st)] [(.ref aN), (.ref aN)])) X2 hx rfl rfl rfl (pc0 := 7) (pc' := 10) (same := true) rfl (hb hby d4_7) rfl (decide_eq_true rfl) (by decide) (by decide) (XS.aloadN X2.here hx rfl (hb hby d4_10) rfl rfl kont)) ?_
  obtain ⟨T3, h3, X3, e3, E3, A3, D3, -, st3⟩ := newO X2 hx hZ hown (oH hw 44 rfl) (oH hw 45 rfl) (oH hw 10 rfl) e2 (g := (mkF m 11 #[.val (.ref st)] [(.ref st)])) rfl (hb hby d4_11) (by decide) (by decide)
  obtain ⟨b3, gz3⟩ : ∃ z, z = h0.size := ⟨_, rfl⟩
  rw [← gz3] at A3 D3 st3
  have sz_b3 : h0.size ≤ b3 := Nat.le_trans K0.1 (Nat.le_of_eq gz3.symm)
  have ne_st_b3 : st ≠ b3 := Nat.ne_of_lt (by rw [gz3]; exact E_st.lt)
  have c3_Est := E_st.ext E3
  have c3_Fst_number := F_st_number.ext E3
  have c3_Fst_predicateDepth := F_st_predicateDepth.ext E3
  have c3_Fst_idCount := F_st_idCount.ext E3
  have c3_Fst_parent := F_st_parent.ext E3
  have c3_Fst_ids := F_st_ids.ext E3
  have c3_Fst_predicateParts := F_st_predicateParts.ext E3
  have c3_SNONE := S_NONE.ext E3
  have K3 := K0.ext E3
  have g_b3 : n0 ≤ b3 := Nat.le_trans Z0 (Nat.le_of_eq gz3.symm)
  have F3_counted : Fld Z h3 b3 "com/example/otaniemi/otaniemi/State$PredicateParts" "counted" "Z" (.int 0) := D3 (Or.inl (oH hw 51 rfl)) (ty := .boolean) (by decide)
  have F3_nearestLoop : Fld Z h3 b3 "com/example/otaniemi/otaniemi/State$PredicateParts" "nearestLoop" "Lcom/example/otaniemi/otaniemi/State;" .null := D3 (Or.inl (oH hw 53 rfl)) (ty := (.object "com/example/otaniemi/otaniemi/State")) (by decide)
  have Z3 : n0 ≤ h3.size := Nat.le_trans Z0 E3.1
  refine own_go (S' := (T3.setTop (mkF m 14 #[.val (.ref st)] [(.ref b3), (.ref st)]))) st3 ?_
  refine own_go (S' := (T3.setTop (mkF m 15 #[.val (.ref st)] [(.ref b3), (.ref b3), (.ref st)]))) (fun _ kont => XS.dup X3.here hx rfl (hb hby d4_14) rfl rfl kont) ?_
  obtain ⟨v4, _, ⟨T4, L4, k4, n4⟩, -, X4, ⟨Lc4, hQ4, l4, y4, z4⟩, st4⟩ := own_specialR X3 hx hZ (y := (⟨"com/example/otaniemi/otaniemi/State$PredicateParts", "<init>", "()V"⟩ : MethodName)) rfl hown (oH hw 46 rfl) (oH hw 47 rfl) (oH hw 48 rfl) (by decide) (backOf (W := 2) (rmPP l Z a0 hw [] b3 h3 n0 Z3) hZ (oH hw 48 rfl) (oH hw 10 rfl) (by decide) (by decide)) (g := (mkF m 15 #[.val (.ref st)] [(.ref b3), (.ref b3), (.ref st)])) rfl (by rw [hml]; rfl) (a := b3) (argsL := []) (rest := [(.ref b3), (.ref st)]) (lenOf pd_48 rfl) rfl (by show 2 * 0 + _ ≤ _; exact Nat.le_of_eq rfl) (hb hby d4_15) (fun _ _ => ⟨rfl, e3, (by decide : 1 + 0 ≤ _), (by decide : 11 + 0 ≤ _)⟩)
  dsimp only [Pt.U, Pt.locs, Pt.cells, Pt.slots] at X4 l4 y4 z4 st4 hQ4
  subst l4 y4 z4
  obtain ⟨rfl, eh4, rfl⟩ := hQ4
  have N4 := Fr.app N0 (Fr.nil n0)
  refine own_goT (S' := (T4.setTop (mkF m 18 #[.val (.ref st)] [(.ref b3), (.ref st)]))) st4 ?_
  obtain ⟨T5, h5, X5, e5, W5, st5⟩ := putF X4 hx hZ hown (host := "") (Or.inl (oH hw 12 rfl)) Via.refl eh4 c3_Fst_predicateParts c3_Est (Or.inl (oH hw 13 rfl)) (oH hw 1 rfl) (ty := (.object "com/example/otaniemi/otaniemi/State$PredicateParts")) (by decide) rfl rfl (g := (mkF m 18 #[.val (.ref st)] [(.ref b3), (.ref st)])) rfl rfl (hb hby d4_18)
  have c5_Est := c3_Est.wr W5
  have c5_Fst_number := c3_Fst_number.other W5 (Or.inr (slot_ne (Or.inl (oH hw 19 rfl)) (Or.inl (oH hw 13 rfl)) (by decide) (by decide : parseFieldDescriptor "I" = some .int) (by decide : parseFieldDescriptor "Lcom/example/otaniemi/otaniemi/State$PredicateParts;" = some (.object "com/example/otaniemi/otaniemi/State$PredicateParts"))))
  have c5_Fst_predicateDepth := c3_Fst_predicateDepth.other W5 (Or.inr (slot_ne (Or.inl (oH hw 155 rfl)) (Or.inl (oH hw 13 rfl)) (by decide) (by decide : parseFieldDescriptor "I" = some .int) (by decide : parseFieldDescriptor "Lcom/example/otaniemi/otaniemi/State$PredicateParts;" = some (.object "com/example/otaniemi/otaniemi/State$PredicateParts"))))
  have c5_Fst_idCount := c3_Fst_idCount.other W5 (Or.inr (slot_ne (Or.inl (oH hw 82 rfl)) (Or.inl (oH hw 13 rfl)) (by decide) (by decide : parseFieldDescriptor "I" = some .int) (by decide : parseFieldDescriptor "Lcom/example/otaniemi/otaniemi/State$PredicateParts;" = some (.object "com/example/otaniemi/otaniemi/State$PredicateParts"))))
  have c5_Fst_parent := c3_Fst_parent.other W5 (Or.inr (slot_ne (Or.inr (oH hw 21 rfl)) (Or.inl (oH hw 13 rfl)) (by decide) (by decide : parseFieldDescriptor "Lcom/example/otaniemi/otaniemi/State;" = some (.object "com/example/otaniemi/otaniemi/State")) (by decide : parseFieldDescriptor "Lcom/example/otaniemi/otaniemi/State$PredicateParts;" = some (.object "com/example/otaniemi/otaniemi/State$PredicateParts"))))
  have c5_Fst_ids := c3_Fst_ids.other W5 (Or.inr (slot_ne (Or.inl (oH hw 17 rfl)) (Or.inl (oH hw 13 rfl)) (by decide) (by decide : parseFieldDescriptor "[I" = some (.array .int)) (by decide : parseFieldDescriptor "Lcom/example/otaniemi/otaniemi/State$PredicateParts;" = some (.object "com/example/otaniemi/otaniemi/State$PredicateParts"))))
  have c5_Fst_predicateParts := c3_Fst_predicateParts.same W5
  have c5_SNONE := c3_SNONE.wr W5
  have c5_Eb3 := A3.wr W5
  have c5_Fb3_counted := F3_counted.other W5 (Or.inl (Ne.symm ne_st_b3))
  have c5_Fb3_nearestLoop := F3_nearestLoop.other W5 (Or.inl (Ne.symm ne_st_b3))
  have K5 := K3.wr W5 (Or.inl (List.mem_of_getElem? (i := 0) rfl))
  have N5 := Fr.snoc X5 N4 g_st
  have Z5 : n0 ≤ h5.size := Nat.le_trans Z3 (Nat.le_of_eq W5.size.symm)
  refine own_go (S' := (T5.setTop (mkF m 21 #[.val (.ref st)] []))) st5 ?_
  refine own_go (S' := (T5.setTop (mkF m 22 #[.val (.ref st)] [(.ref st)]))) (fun _ kont => XS.aloadN X5.here hx rfl (hb hby d4_21) rfl rfl kont) ?_
  obtain ⟨T6, X6, e6, st6⟩ := getF X5 hx hZ hown (host := "") (Or.inl (oH hw 12 rfl)) Via.refl e5 c5_Fst_predicateParts (g := (mkF m 22 #[.val (.ref st)] [(.ref st)])) rfl rfl (hb hby d4_22)
  refine own_go (S' := (T6.setTop (mkF m 25 #[.val (.ref st)] [(.ref b3)]))) st6 ?_
  refine own_retA X6 hx hlk (rfl) rfl Bd.returns (hb hby d4_25) (by decide) (by decide) ?_
  rw [e6]
  exact ⟨_, rfl, sz_b3, N5, K5, c5_Fst_number, c5_Fst_predicateDepth, c5_Fst_idCount, c5_Fst_parent, c5_Fst_ids, c5_Fst_predicateParts, c5_Eb3, c5_Fb3_counted, c5_Fb3_nearestLoop⟩
theorem d3_0 : decode prog_76_method_34_code 0 = .ok (.aload_n 0, 1) := by decide +kernel
theorem d3_1 : decode prog_76_method_34_code 1 = .ok (.getfield 29, 3) := by decide +kernel
theorem d3_4 : decode prog_76_method_34_code 4 = .ok (.astore_n 1, 1) := by decide +kernel
theorem d3_5 : decode prog_76_method_34_code 5 = .ok (.aload_n 1, 1) := by decide +kernel
theorem d3_6 : decode prog_76_method_34_code 6 = .ok (.ifnull 18, 3) := by decide +kernel
theorem d3_24 : decode prog_76_method_34_code 24 = .ok (.aload_n 0, 1) := by decide +kernel
theorem d3_25 : decode prog_76_method_34_code 25 = .ok (.invokevirtual 98, 3) := by decide +kernel
theorem pd_60 : parseMethodDescriptor "()Lcom/example/otaniemi/otaniemi/State$PredicateParts;" = some ⟨[], some (.object "com/example/otaniemi/otaniemi/State$PredicateParts")⟩ := by decide +kernel
theorem d3_28 : decode prog_76_method_34_code 28 = .ok (.astore_n 2, 1) := by decide +kernel
theorem d3_29 : decode prog_76_method_34_code 29 = .ok (.aload_n 2, 1) := by decide +kernel
theorem d3_30 : decode prog_76_method_34_code 30 = .ok (.iconst 1, 1) := by decide +kernel
theorem d3_31 : decode prog_76_method_34_code 31 = .ok (.putfield 201, 3) := by decide +kernel
theorem d3_34 : decode prog_76_method_34_code 34 = .ok (.aload_n 2, 1) := by decide +kernel
theorem d3_35 : decode prog_76_method_34_code 35 = .ok (.aload_n 1, 1) := by decide +kernel
theorem d3_36 : decode prog_76_method_34_code 36 = .ok (.putfield 204, 3) := by decide +kernel
theorem d3_39 : decode prog_76_method_34_code 39 = .ok (.return_, 1) := by decide +kernel
theorem ef_rmCn (m : MethodId) (x0 : Addr) : entryFrame m #[(.ref x0)] 3 = mkF m 0 #[.val (.ref x0), .unset, .unset] [] := by first | (simp [entryFrame, mkF, argsToLocals, Value.category]; done) | rfl
def Q_rmCn (Z : State) (st : Addr) (nn : Int32) (aN aI : Addr) (h0 : Heap) (n0 : Nat) (v : Option Value) (h : Heap) (L : List Loc) : Prop := v = none ∧ Fr n0 L ∧ Keep h0 h [st] ∧ ∃ pp, h0.size ≤ pp ∧ Fld Z h st "com/example/otaniemi/otaniemi/State" "number" "I" (.int nn) ∧ Fld Z h st "com/example/otaniemi/otaniemi/State" "predicateDepth" "I" (.int 0) ∧ Fld Z h st "com/example/otaniemi/otaniemi/State" "idCount" "I" (.int 0) ∧ Fld Z h st "com/example/otaniemi/otaniemi/State" "parent" "Lcom/example/otaniemi/otaniemi/State;" .null ∧ Fld Z h st "com/example/otaniemi/otaniemi/State" "ids" "[I" (.ref aI) ∧ Fld Z h st "com/example/otaniemi/otaniemi/State" "predicateParts" "Lcom/example/otaniemi/otaniemi/State$PredicateParts;" (.ref pp) ∧ Exa Z h pp "com/example/otaniemi/otaniemi/State$PredicateParts" ∧ Fld Z h pp "com/example/otaniemi/otaniemi/State$PredicateParts" "counted" "Z" (.int 1)
set_option maxRecDepth 65536 in
set_option maxHeartbeats 40000000 in
theorem rmCn (l : Launch) (Z : State) (a0 : Array Value) (hw : ∀ d ∈ tables_1, d.before a0 Z = true) (ws : List Jvm.Cond) (st : Addr) (nn : Int32) (aN aI : Addr) (h0 : Heap) (n0 : Nat) (Z0 : n0 ≤ h0.size) (E_st : Exa Z h0 st "com/example/otaniemi/otaniemi/State") (F_st_number : Fld Z h0 st "com/example/otaniemi/otaniemi/State" "number" "I" (.int nn)) (F_st_predicateDepth : Fld Z h0 st "com/example/otaniemi/otaniemi/State" "predicateDepth" "I" (.int 0)) (F_st_idCount : Fld Z h0 st "com/example/otaniemi/otaniemi/State" "idCount" "I" (.int 0)) (F_st_parent : Fld Z h0 st "com/example/otaniemi/otaniemi/State" "parent" "Lcom/example/otaniemi/otaniemi/State;" .null) (F_st_ids : Fld Z h0 st "com/example/otaniemi/otaniemi/State" "ids" "[I" (.ref aI)) (F_st_predicateParts : Fld Z h0 st "com/example/otaniemi/otaniemi/State" "predicateParts" "Lcom/example/otaniemi/otaniemi/State$PredicateParts;" (.ref aN)) (g_st : n0 ≤ st) (S_NONE : Sta Z h0 "com/example/otaniemi/otaniemi/State$PredicateParts" "NONE" "Lcom/example/otaniemi/otaniemi/State$PredicateParts;" (.ref aN)) :
    MetFree l (⟨"com/example/otaniemi/otaniemi/State", "countNodes", "()V"⟩ : MethodName) (head1 (Jvm.Cond.code (⟨"com/example/otaniemi/otaniemi/State", "countNodes", "()V"⟩ : MethodName) prog_76_method_34_code 3 none :: ws) ({ frames := 3, cells := 1, slots := 11, locals := 38 } : Room)) (fun a U => a = #[(.ref st)] ∧ Z.Warmed39 U.vm ∧ U.heap = h0) (fun _ _ _ _ _ => True) (fun _ U o U' => ∃ v L, o = .returned v ∧ Q_rmCn Z st nn aN aI h0 n0 v U'.heap L ∧ FrameEnd U o U' L ({ frames := 3, cells := 1, slots := 11, locals := 38 } : Room).cells ({ frames := 3, cells := 1, slots := 11, locals := 38 } : Room).slots) := by
  refine MetFree.of_bodySF (plainFor_of_name pn_39) hisR ?_
  intro p e s m args below meth c s₁ Bd hml0 hP hK
  obtain ⟨rfl, hZ, hh⟩ := hP
  have hx := Bd.exec
  have hby := Bd.bytes
  have hlk := Bd.notSynchronized
  have hml : c.maxLocals = 3 := hml0
  have hown : s.vm.findClass "com/example/otaniemi/otaniemi/State" = some m.cls := findClass_of_methodNamed Bd.named
  have hnm := (name_of_methodNamed Bd.named Bd.method).1
  have X0 : Stand p l e ({ frames := 3, cells := 1, slots := 11, locals := 38 } : Room) s m #[(.ref st)] below meth c s₁ [] 0 0 := Stand.of_body Bd
  have e0 : s₁.heap = h0 := by rw [← hh, Bd.state]; rfl
  have N0 := Fr.nil n0
  change own_Go p e below s (Q_rmCn Z st nn aN aI h0 n0) ({ frames := 3, cells := 1, slots := 11, locals := 38 } : Room).cells ({ frames := 3, cells := 1, slots := 11, locals := 38 } : Room).slots _
  refine own_go (S' := (s₁.setTop (mkF m 0 #[.val (.ref st), .unset, .unset] []))) (fun _ kont => castTop (ef_rmCn m st) kont) ?_
  have K0 := Keep.refl h0 [st]
  refine own_go (S' := (s₁.setTop (mkF m 1 #[.val (.ref st), .unset, .unset] [(.ref st)]))) (fun _ kont => XS.aloadN X0.here hx rfl (hb hby d3_0) rfl rfl kont) ?_
  obtain ⟨T1, X1, e1, st1⟩ := getF X0 hx hZ hown (host := "") (Or.inl (oH hw 20 rfl)) Via.refl e0 F_st_parent (g := (mkF m 1 #[.val (.ref st), .unset, .unset] [(.ref st)])) rfl rfl (hb hby d3_1)
  refine own_go (S' := (T1.setTop (mkF m 4 #[.val (.ref st), .unset, .unset] [.null]))) st1 ?_
  refine own_go (S' := (T1.setTop (mkF m 25 #[.val (.ref st), .val .null, .unset] [(.ref st)]))) (fun _ kont => XS.astoreN X1.here hx rfl (hb hby d3_4) rfl rfl (l' := #[.val (.ref st), .val .null, .unset]) rfl (XS.aloadN X1.here hx rfl (hb hby d3_5) rfl rfl (XS.ifnullYes X1.here hx rfl (pc0 := 6) (pc' := 24) rfl (hb hby d3_6) rfl (by decide) (by decide) (XS.aloadN X1.here hx rfl (hb hby d3_24) rfl rfl kont)))) ?_
  obtain ⟨cq2, qp2, qp2'⟩ := E_st.cell
  obtain ⟨v2, _, ⟨T2, L2, k2, n2⟩, -, X2, ⟨Lc2, hQ2, l2, y2, z2⟩, st2⟩ := X1.privateBack hx (y := (⟨"com/example/otaniemi/otaniemi/State", "ownParts", "()Lcom/example/otaniemi/otaniemi/State$PredicateParts;"⟩ : MethodName)) hown (mvT hZ (oH hw 40 rfl)) (mvT hZ (oH hw 41 rfl)) (own_selP (args := #[]) (mvT hZ (oH hw 1 rfl)) (mvP hZ (oH hw 42 rfl)) (mvT hZ (oH hw 41 rfl)) (by decide)) (Cond.privateMethod_at (mvP hZ (oH hw 42 rfl) (args := #[]))) (mvT hZ (oH hw 43 rfl)) (by decide) (backOf (W := 0) (rmOw l Z a0 hw [] st nn aN aI h0 n0 Z0 E_st F_st_number F_st_predicateDepth F_st_idCount F_st_parent F_st_ids F_st_predicateParts g_st S_NONE) hZ (oH hw 43 rfl) (oH hw 2 rfl) (by decide) (by decide)) (g := (mkF m 25 #[.val (.ref st), .val .null, .unset] [(.ref st)])) rfl (by rw [hml]; rfl) (Steps.refl _) (a := st) (by rw [e1]; exact qp2) qp2' (argsL := []) (rest := []) (lenOf pd_60 rfl) rfl (by show 2 * 0 + _ ≤ _; exact Nat.le_of_eq rfl) (hb hby d3_25) (fun _ _ => ⟨rfl, e1, (by decide : 0 + 1 ≤ _), (by decide : 0 + 11 ≤ _)⟩)
  dsimp only [Pt.U, Pt.locs, Pt.cells, Pt.slots] at X2 l2 y2 z2 st2 hQ2
  subst l2 y2 z2
  obtain ⟨pp, rfl, hpp2, Nq2, Kc2, Fa2, Fb2, Fc2, Fd2, Fe2, Ff2, Ep2, Fg2, Fh2⟩ := hQ2
  have Kt2 := K0.trans Kc2 (fun x hx => by simp only [List.mem_cons, List.mem_singleton, List.not_mem_nil, or_false] at hx; rcases hx with rfl <;> first | (left; simp; done) | (right; assumption))
  have N2 := Fr.app N0 Nq2
  have Z2 : n0 ≤ T2.heap.size := Nat.le_trans Z0 Kc2.1
  have c2_Est := E_st.keep Kc2
  refine own_goT (S' := (T2.setTop (mkF m 28 #[.val (.ref st), .val .null, .unset] [(.ref pp)]))) st2 ?_
  have g_pp : n0 ≤ pp := Nat.le_trans Z0 hpp2
  have nsp : st ≠ pp := Nat.ne_of_lt (Nat.lt_of_lt_of_le E_st.lt hpp2)
  refine own_go (S' := (T2.setTop (mkF m 31 #[.val (.ref st), .val .null, .val (.ref pp)] [(.int 1), (.ref pp)]))) (fun _ kont => XS.astoreN X2.here hx rfl (hb hby d3_28) rfl rfl (l' := #[.val (.ref st), .val .null, .val (.ref pp)]) rfl (XS.aloadN X2.here hx rfl (hb hby d3_29) rfl rfl (XS.iconst X2.here hx rfl (hb hby d3_30) kont))) ?_
  obtain ⟨T3, h3, X3, e3, W3, st3⟩ := own_putFR X2 hx hZ hown (oH hw 50 rfl) rfl Fg2 Ep2 (oH hw 51 rfl) (oH hw 45 rfl) (ty := .boolean) (v' := (.int 1)) (by decide) rfl rfl (g := (mkF m 31 #[.val (.ref st), .val .null, .val (.ref pp)] [(.int 1), (.ref pp)])) rfl rfl (hb hby d3_31)
  have c3_Est := c2_Est.wr W3
  have c3_Fst_number := Fa2.other W3 (Or.inl nsp)
  have c3_Fst_predicateDepth := Fb2.other W3 (Or.inl nsp)
  have c3_Fst_idCount := Fc2.other W3 (Or.inl nsp)
  have c3_Fst_parent := Fd2.other W3 (Or.inl nsp)
  have c3_Fst_ids := Fe2.other W3 (Or.inl nsp)
  have c3_Fst_predicateParts := Ff2.other W3 (Or.inl nsp)
  have c3_Fpp_counted := Fg2.same W3
  have c3_Fpp_nearestLoop := Fh2.other W3 (Or.inr (slot_ne (Or.inl (oH hw 53 rfl)) (Or.inl (oH hw 51 rfl)) (by decide) (by decide : parseFieldDescriptor "Lcom/example/otaniemi/otaniemi/State;" = some (.object "com/example/otaniemi/otaniemi/State")) (by decide : parseFieldDescriptor "Z" = some .boolean)))
  have c3_Epp := Ep2.wr W3
  have K3 := Kt2.wr W3 (Or.inr hpp2)
  have N3 := Fr.snoc X3 N2 g_pp
  have Z3 : n0 ≤ h3.size := Nat.le_trans Z2 (Nat.le_of_eq W3.size.symm)
  refine own_go (S' := (T3.setTop (mkF m 34 #[.val (.ref st), .val .null, .val (.ref pp)] []))) st3 ?_
  refine own_go (S' := (T3.setTop (mkF m 36 #[.val (.ref st), .val .null, .val (.ref pp)] [.null, (.ref pp)]))) (fun _ kont => XS.aloadN X3.here hx rfl (hb hby d3_34) rfl rfl (XS.aloadN X3.here hx rfl (hb hby d3_35) rfl rfl kont)) ?_
  obtain ⟨T4, h4, X4, e4, W4, st4⟩ := own_putFR X3 hx hZ hown (oH hw 52 rfl) e3 c3_Fpp_nearestLoop c3_Epp (oH hw 53 rfl) (oH hw 45 rfl) (ty := (.object "com/example/otaniemi/otaniemi/State")) (v' := .null) (by decide) rfl rfl (g := (mkF m 36 #[.val (.ref st), .val .null, .val (.ref pp)] [.null, (.ref pp)])) rfl rfl (hb hby d3_36)
  have c4_Est := c3_Est.wr W4
  have c4_Fst_number := c3_Fst_number.other W4 (Or.inl nsp)
  have c4_Fst_predicateDepth := c3_Fst_predicateDepth.other W4 (Or.inl nsp)
  have c4_Fst_idCount := c3_Fst_idCount.other W4 (Or.inl nsp)
  have c4_Fst_parent := c3_Fst_parent.other W4 (Or.inl nsp)
  have c4_Fst_ids := c3_Fst_ids.other W4 (Or.inl nsp)
  have c4_Fst_predicateParts := c3_Fst_predicateParts.other W4 (Or.inl nsp)
  have c4_Fpp_counted := c3_Fpp_counted.other W4 (Or.inr (slot_ne (Or.inl (oH hw 51 rfl)) (Or.inl (oH hw 53 rfl)) (by decide) (by decide : parseFieldDescriptor "Z" = some .boolean) (by decide : parseFieldDescriptor "Lcom/example/otaniemi/otaniemi/State;" = some (.object "com/example/otaniemi/otaniemi/State"))))
  have c4_Fpp_nearestLoop := c3_Fpp_nearestLoop.same W4
  have c4_Epp := c3_Epp.wr W4
  have K4 := K3.wr W4 (Or.inr hpp2)
  have N4 := Fr.snoc X4 N3 g_pp
  have Z4 : n0 ≤ h4.size := Nat.le_trans Z3 (Nat.le_of_eq W4.size.symm)
  refine own_go (S' := (T4.setTop (mkF m 39 #[.val (.ref st), .val .null, .val (.ref pp)] []))) st4 ?_
  refine own_ret0 X4 hx hlk Bd.returns (hb hby d3_39) (by decide) (by decide) ?_
  rw [e4]
  exact ⟨rfl, N4, K4, pp, hpp2, c4_Fst_number, c4_Fst_predicateDepth, c4_Fst_idCount, c4_Fst_parent, c4_Fst_ids, c4_Fst_predicateParts, c4_Epp, c4_Fpp_counted⟩
theorem d10_0 : decode jdk_29_method_65_code 0 = .ok (.iload_n 0, 1) := by decide +kernel
theorem d10_1 : decode jdk_29_method_65_code 1 = .ok (.iload_n 1, 1) := by decide +kernel
theorem d10_2 : decode jdk_29_method_65_code 2 = .ok (.if_icmp .lt 7, 3) := by decide +kernel
theorem d10_5 : decode jdk_29_method_65_code 5 = .ok (.iload_n 0, 1) := by decide +kernel
theorem d10_6 : decode jdk_29_method_65_code 6 = .ok (.goto 4, 3) := by decide +kernel
theorem d10_10 : decode jdk_29_method_65_code 10 = .ok (.ireturn, 1) := by decide +kernel
theorem ef_rmMax (m : MethodId) (x0 : Int32) (x1 : Int32) : entryFrame m #[(.int x0), (.int x1)] 2 = mkF m 0 #[.val (.int x0), .val (.int x1)] [] := by first | (simp [entryFrame, mkF, argsToLocals, Value.category]; done) | rfl
def Q_rmMax (Z : State)  (h0 : Heap) (n0 : Nat) (v : Option Value) (h : Heap) (L : List Loc) : Prop := v = some (.int 1) ∧ h = h0 ∧ L = []
set_option maxRecDepth 65536 in
set_option maxHeartbeats 40000000 in
theorem rmMax (l : Launch) (Z : State) (a0 : Array Value) (hw : ∀ d ∈ tables_1, d.before a0 Z = true) (ws : List Jvm.Cond)  (h0 : Heap) (n0 : Nat) (Z0 : n0 ≤ h0.size)  :
    MetFree l (⟨"java/lang/Math", "max", "(II)I"⟩ : MethodName) (head1 (Jvm.Cond.code (⟨"java/lang/Math", "max", "(II)I"⟩ : MethodName) jdk_29_method_65_code 2 (some .int) :: ws) ({ frames := 0, cells := 0, slots := 0, locals := 0 } : Room)) (fun a U => a = #[(.int 1), (.int 0)] ∧ Z.Warmed39 U.vm ∧ U.heap = h0) (fun _ _ _ _ _ => True) (fun _ U o U' => ∃ v L, o = .returned v ∧ Q_rmMax Z  h0 n0 v U'.heap L ∧ FrameEnd U o U' L ({ frames := 0, cells := 0, slots := 0, locals := 0 } : Room).cells ({ frames := 0, cells := 0, slots := 0, locals := 0 } : Room).slots) := by
  refine MetFree.of_bodySF (Jvm.Free.JP.mathPlain rfl (by decide +kernel)) hisR ?_
  intro p e s m args below meth c s₁ Bd hml0 hP hK
  obtain ⟨rfl, hZ, hh⟩ := hP
  have hx := Bd.exec
  have hby := Bd.bytes
  have hlk := Bd.notSynchronized
  have hml : c.maxLocals = 2 := hml0
  have hown : s.vm.findClass "java/lang/Math" = some m.cls := findClass_of_methodNamed Bd.named
  have hnm := (name_of_methodNamed Bd.named Bd.method).1
  have X0 : Stand p l e ({ frames := 0, cells := 0, slots := 0, locals := 0 } : Room) s m #[(.int 1), (.int 0)] below meth c s₁ [] 0 0 := Stand.of_body Bd
  have e0 : s₁.heap = h0 := by rw [← hh, Bd.state]; rfl
  have N0 := Fr.nil n0
  change own_Go p e below s (Q_rmMax Z  h0 n0) ({ frames := 0, cells := 0, slots := 0, locals := 0 } : Room).cells ({ frames := 0, cells := 0, slots := 0, locals := 0 } : Room).slots _
  refine own_go (S' := (s₁.setTop (mkF m 0 #[.val (.int 1), .val (.int 0)] []))) (fun _ kont => castTop (ef_rmMax m (1 : Int32) (0 : Int32)) kont) ?_
  refine own_go (S' := (s₁.setTop (mkF m 10 #[.val (.int 1), .val (.int 0)] [(.int 1)]))) (fun _ kont => XS.iloadN X0.here hx rfl (hb hby d10_0) rfl (XS.iloadN X0.here hx rfl (hb hby d10_1) rfl (XS.icmpNo X0.here hx rfl (hb hby d10_2) rfl (flt (by decide)).1 (XS.iloadN X0.here hx rfl (hb hby d10_5) rfl (XS.goto X0.here hx rfl (pc0 := 6) (pc' := 10) rfl (hb hby d10_6) (by decide) (by decide) kont))))) ?_
  refine own_retI X0 hx hlk Bd.returns (hb hby d10_10) (by decide) (by decide) ?_
  exact ⟨rfl, e0, rfl⟩
theorem d12_0 : decode jdk_29_method_69_code 0 = .ok (.iload_n 0, 1) := by decide +kernel
theorem d12_1 : decode jdk_29_method_69_code 1 = .ok (.iload_n 1, 1) := by decide +kernel
theorem d12_2 : decode jdk_29_method_69_code 2 = .ok (.if_icmp .gt 7, 3) := by decide +kernel
theorem d12_5 : decode jdk_29_method_69_code 5 = .ok (.iload_n 0, 1) := by decide +kernel
theorem d12_6 : decode jdk_29_method_69_code 6 = .ok (.goto 4, 3) := by decide +kernel
theorem d12_10 : decode jdk_29_method_69_code 10 = .ok (.ireturn, 1) := by decide +kernel
theorem ef_rmMin (m : MethodId) (x0 : Int32) (x1 : Int32) : entryFrame m #[(.int x0), (.int x1)] 2 = mkF m 0 #[.val (.int x0), .val (.int x1)] [] := by first | (simp [entryFrame, mkF, argsToLocals, Value.category]; done) | rfl
def Q_rmMin (Z : State)  (h0 : Heap) (n0 : Nat) (v : Option Value) (h : Heap) (L : List Loc) : Prop := v = some (.int 0) ∧ h = h0 ∧ L = []
set_option maxRecDepth 65536 in
set_option maxHeartbeats 40000000 in
theorem rmMin (l : Launch) (Z : State) (a0 : Array Value) (hw : ∀ d ∈ tables_1, d.before a0 Z = true) (ws : List Jvm.Cond)  (h0 : Heap) (n0 : Nat) (Z0 : n0 ≤ h0.size)  :
    MetFree l (⟨"java/lang/Math", "min", "(II)I"⟩ : MethodName) (head1 (Jvm.Cond.code (⟨"java/lang/Math", "min", "(II)I"⟩ : MethodName) jdk_29_method_69_code 2 (some .int) :: ws) ({ frames := 0, cells := 0, slots := 0, locals := 0 } : Room)) (fun a U => a = #[(.int 0), (.int 1)] ∧ Z.Warmed39 U.vm ∧ U.heap = h0) (fun _ _ _ _ _ => True) (fun _ U o U' => ∃ v L, o = .returned v ∧ Q_rmMin Z  h0 n0 v U'.heap L ∧ FrameEnd U o U' L ({ frames := 0, cells := 0, slots := 0, locals := 0 } : Room).cells ({ frames := 0, cells := 0, slots := 0, locals := 0 } : Room).slots) := by
  refine MetFree.of_bodySF (Jvm.Free.JP.mathPlain rfl (by decide +kernel)) hisR ?_
  intro p e s m args below meth c s₁ Bd hml0 hP hK
  obtain ⟨rfl, hZ, hh⟩ := hP
  have hx := Bd.exec
  have hby := Bd.bytes
  have hlk := Bd.notSynchronized
  have hml : c.maxLocals = 2 := hml0
  have hown : s.vm.findClass "java/lang/Math" = some m.cls := findClass_of_methodNamed Bd.named
  have hnm := (name_of_methodNamed Bd.named Bd.method).1
  have X0 : Stand p l e ({ frames := 0, cells := 0, slots := 0, locals := 0 } : Room) s m #[(.int 0), (.int 1)] below meth c s₁ [] 0 0 := Stand.of_body Bd
  have e0 : s₁.heap = h0 := by rw [← hh, Bd.state]; rfl
  have N0 := Fr.nil n0
  change own_Go p e below s (Q_rmMin Z  h0 n0) ({ frames := 0, cells := 0, slots := 0, locals := 0 } : Room).cells ({ frames := 0, cells := 0, slots := 0, locals := 0 } : Room).slots _
  refine own_go (S' := (s₁.setTop (mkF m 0 #[.val (.int 0), .val (.int 1)] []))) (fun _ kont => castTop (ef_rmMin m (0 : Int32) (1 : Int32)) kont) ?_
  refine own_go (S' := (s₁.setTop (mkF m 10 #[.val (.int 0), .val (.int 1)] [(.int 0)]))) (fun _ kont => XS.iloadN X0.here hx rfl (hb hby d12_0) rfl (XS.iloadN X0.here hx rfl (hb hby d12_1) rfl (XS.icmpNo X0.here hx rfl (hb hby d12_2) rfl (flt (by decide)).2.2.1 (XS.iloadN X0.here hx rfl (hb hby d12_5) rfl (XS.goto X0.here hx rfl (pc0 := 6) (pc' := 10) rfl (hb hby d12_6) (by decide) (by decide) kont))))) ?_
  refine own_retI X0 hx hlk Bd.returns (hb hby d12_10) (by decide) (by decide) ?_
  exact ⟨rfl, e0, rfl⟩
theorem d11_0 : decode jdk_65_method_123_code 0 = .ok (.iload_n 1, 1) := by decide +kernel
theorem d11_1 : decode jdk_65_method_123_code 1 = .ok (.aload_n 0, 1) := by decide +kernel
theorem d11_2 : decode jdk_65_method_123_code 2 = .ok (.arraylength, 1) := by decide +kernel
theorem d11_3 : decode jdk_65_method_123_code 3 = .ok (.if_icmp .ne 11, 3) := by decide +kernel
theorem d11_14 : decode jdk_65_method_123_code 14 = .ok (.iload_n 1, 1) := by decide +kernel
theorem d11_15 : decode jdk_65_method_123_code 15 = .ok (.newarray .int, 2) := by decide +kernel
theorem d11_17 : decode jdk_65_method_123_code 17 = .ok (.astore_n 2, 1) := by decide +kernel
theorem d11_18 : decode jdk_65_method_123_code 18 = .ok (.aload_n 0, 1) := by decide +kernel
theorem d11_19 : decode jdk_65_method_123_code 19 = .ok (.iconst 0, 1) := by decide +kernel
theorem d11_20 : decode jdk_65_method_123_code 20 = .ok (.aload_n 2, 1) := by decide +kernel
theorem d11_21 : decode jdk_65_method_123_code 21 = .ok (.iconst 0, 1) := by decide +kernel
theorem d11_22 : decode jdk_65_method_123_code 22 = .ok (.aload_n 0, 1) := by decide +kernel
theorem d11_23 : decode jdk_65_method_123_code 23 = .ok (.arraylength, 1) := by decide +kernel
theorem d11_24 : decode jdk_65_method_123_code 24 = .ok (.iload_n 1, 1) := by decide +kernel
theorem d11_25 : decode jdk_65_method_123_code 25 = .ok (.invokestatic 304, 3) := by decide +kernel
theorem pd_96 : parseMethodDescriptor "(II)I" = some ⟨[.int, .int], some .int⟩ := by decide +kernel
theorem d11_28 : decode jdk_65_method_123_code 28 = .ok (.invokestatic 150, 3) := by decide +kernel
theorem d11_31 : decode jdk_65_method_123_code 31 = .ok (.aload_n 2, 1) := by decide +kernel
theorem d11_32 : decode jdk_65_method_123_code 32 = .ok (.areturn, 1) := by decide +kernel
theorem pn_100 : plainName "java/util/Arrays" = true := by first | (simp [plainName, overriddenIn]; done) | decide +kernel
theorem ef_rmCo (m : MethodId) (x0 : Addr) (x1 : Int32) : entryFrame m #[(.ref x0), (.int x1)] 3 = mkF m 0 #[.val (.ref x0), .val (.int x1), .unset] [] := by first | (simp [entryFrame, mkF, argsToLocals, Value.category]; done) | rfl
def Q_rmCo (Z : State) (ai : Addr) (k1 : ClassId) (h0 : Heap) (n0 : Nat) (v : Option Value) (h : Heap) (L : List Loc) : Prop := ∃ na k2 vs, v = some (.ref na) ∧ h0.size ≤ na ∧ Fr n0 L ∧ Keep h0 h [] ∧ Arv Z h na k2 .int (1 : Int32) vs (.int 0)
set_option maxRecDepth 65536 in
set_option maxHeartbeats 40000000 in
theorem rmCo (l : Launch) (Z : State) (a0 : Array Value) (hw : ∀ d ∈ tables_1, d.before a0 Z = true) (ws : List Jvm.Cond) (ai : Addr) (k1 : ClassId) (h0 : Heap) (n0 : Nat) (Z0 : n0 ≤ h0.size) (V1 : Arv Z h0 ai k1 .int (0 : Int32) [] (.int 0)) :
    MetFree l (⟨"java/util/Arrays", "copyOf", "([II)[I"⟩ : MethodName) (head1 (Jvm.Cond.code (⟨"java/util/Arrays", "copyOf", "([II)[I"⟩ : MethodName) jdk_65_method_123_code 3 (some (.array .int)) :: ws) ({ frames := 1, cells := 1, slots := 1, locals := 60 } : Room)) (fun a U => a = #[(.ref ai), (.int 1)] ∧ Z.Warmed39 U.vm ∧ U.heap = h0) (fun _ _ _ _ _ => True) (fun _ U o U' => ∃ v L, o = .returned v ∧ Q_rmCo Z ai k1 h0 n0 v U'.heap L ∧ FrameEnd U o U' L ({ frames := 1, cells := 1, slots := 1, locals := 60 } : Room).cells ({ frames := 1, cells := 1, slots := 1, locals := 60 } : Room).slots) := by
  refine MetFree.of_bodySF (plainFor_of_name pn_100) hisR ?_
  intro p e s m args below meth c s₁ Bd hml0 hP hK
  obtain ⟨rfl, hZ, hh⟩ := hP
  have hx := Bd.exec
  have hby := Bd.bytes
  have hlk := Bd.notSynchronized
  have hml : c.maxLocals = 3 := hml0
  have hown : s.vm.findClass "java/util/Arrays" = some m.cls := findClass_of_methodNamed Bd.named
  have hnm := (name_of_methodNamed Bd.named Bd.method).1
  have X0 : Stand p l e ({ frames := 1, cells := 1, slots := 1, locals := 60 } : Room) s m #[(.ref ai), (.int 1)] below meth c s₁ [] 0 0 := Stand.of_body Bd
  have e0 : s₁.heap = h0 := by rw [← hh, Bd.state]; rfl
  have N0 := Fr.nil n0
  change own_Go p e below s (Q_rmCo Z ai k1 h0 n0) ({ frames := 1, cells := 1, slots := 1, locals := 60 } : Room).cells ({ frames := 1, cells := 1, slots := 1, locals := 60 } : Room).slots _
  refine own_go (S' := (s₁.setTop (mkF m 0 #[.val (.ref ai), .val (.int 1), .unset] []))) (fun _ kont => castTop (ef_rmCo m ai (1 : Int32)) kont) ?_
  have K0 := Keep.refl h0 []
  refine own_go (S' := (s₁.setTop (mkF m 2 #[.val (.ref ai), .val (.int 1), .unset] [(.ref ai), (.int 1)]))) (fun _ kont => XS.iloadN X0.here hx rfl (hb hby d11_0) rfl (XS.aloadN X0.here hx rfl (hb hby d11_1) rfl rfl kont)) ?_
  obtain ⟨cl1, Ar1, -, S1, M1, -, -⟩ := id V1
  have ql1 := len_of S1 M1
  refine own_go (S' := (s₁.setTop (mkF m 3 #[.val (.ref ai), .val (.int 1), .unset] [(.int 0), (.int 1)]))) (fun _ kont => X0.arraylength hx (by rw [e0]; exact Ar1.1) (State.isArrayOf_alike hZ.alike Ar1.2.1) (g := (mkF m 2 #[.val (.ref ai), .val (.int 1), .unset] [(.ref ai), (.int 1)])) rfl rfl (hb hby d11_2) _ (by rw [ql1]; exact kont)) ?_
  refine own_go (S' := (s₁.setTop (mkF m 15 #[.val (.ref ai), .val (.int 1), .unset] [(.int 1)]))) (fun _ kont => XS.icmpYes X0.here hx rfl (pc0 := 3) (pc' := 14) rfl (hb hby d11_3) rfl (feq (by decide)).2 (by decide) (by decide) (XS.iloadN X0.here hx rfl (hb hby d11_14) rfl kont)) ?_
  obtain ⟨T2, h2, k2, X2, e2, E2, A2, st2⟩ := newP X0 hx hZ (oH hw 91 rfl) e0 (g := (mkF m 15 #[.val (.ref ai), .val (.int 1), .unset] [(.int 1)])) rfl (hb hby d11_15) rfl (by decide) (cap := 1) (by decide) (by decide) (by decide) (by decide)
  obtain ⟨b2, gz2⟩ : ∃ z, z = h0.size := ⟨_, rfl⟩
  rw [← gz2] at A2 st2
  have sz_b2 : h0.size ≤ b2 := Nat.le_trans K0.1 (Nat.le_of_eq gz2.symm)
  have ne_ai_b2 : ai ≠ b2 := Nat.ne_of_lt (by rw [gz2]; exact V1.lt)
  have c2_Vai := V1.ext E2
  have K2 := K0.ext E2
  have g_b2 : n0 ≤ b2 := Nat.le_trans Z0 (Nat.le_of_eq gz2.symm)
  have V2 := Arv.new A2 (by decide)
  have Z2 : n0 ≤ h2.size := Nat.le_trans Z0 E2.1
  refine own_go (S' := (T2.setTop (mkF m 17 #[.val (.ref ai), .val (.int 1), .unset] [(.ref b2)]))) st2 ?_
  refine own_go (S' := (T2.setTop (mkF m 23 #[.val (.ref ai), .val (.int 1), .val (.ref b2)] [(.ref ai), (.int 0), (.ref b2), (.int 0), (.ref ai)]))) (fun _ kont => XS.astoreN X2.here hx rfl (hb hby d11_17) rfl rfl (l' := #[.val (.ref ai), .val (.int 1), .val (.ref b2)]) rfl (XS.aloadN X2.here hx rfl (hb hby d11_18) rfl rfl (XS.iconst X2.here hx rfl (hb hby d11_19) (XS.aloadN X2.here hx rfl (hb hby d11_20) rfl rfl (XS.iconst X2.here hx rfl (hb hby d11_21) (XS.aloadN X2.here hx rfl (hb hby d11_22) rfl rfl kont)))))) ?_
  obtain ⟨cl3, Ar3, -, S3, M3, -, -⟩ := id c2_Vai
  have ql3 := len_of S3 M3
  refine own_go (S' := (T2.setTop (mkF m 24 #[.val (.ref ai), .val (.int 1), .val (.ref b2)] [(.int 0), (.int 0), (.ref b2), (.int 0), (.ref ai)]))) (fun _ kont => X2.arraylength hx (by rw [e2]; exact Ar3.1) (State.isArrayOf_alike hZ.alike Ar3.2.1) (g := (mkF m 23 #[.val (.ref ai), .val (.int 1), .val (.ref b2)] [(.ref ai), (.int 0), (.ref b2), (.int 0), (.ref ai)])) rfl rfl (hb hby d11_23) _ (by rw [ql3]; exact kont)) ?_
  refine own_go (S' := (T2.setTop (mkF m 25 #[.val (.ref ai), .val (.int 1), .val (.ref b2)] [(.int 1), (.int 0), (.int 0), (.ref b2), (.int 0), (.ref ai)]))) (fun _ kont => XS.iloadN X2.here hx rfl (hb hby d11_24) rfl kont) ?_
  obtain ⟨v4, _, ⟨T4, L4, k4, n4⟩, -, X4, ⟨Lc4, hQ4, l4, y4, z4⟩, st4⟩ := Jvm.LawKit.callS X2 hx (y := (⟨"java/lang/Math", "min", "(II)I"⟩ : MethodName)) hown (mvT hZ (oH hw 92 rfl)) (mvT hZ (oH hw 93 rfl)) (mvT hZ (oH hw 85 rfl)) (mvT hZ (oH hw 94 rfl)) (by decide) (backOf (W := 4) (rmMin l Z a0 hw [] h2 n0 Z2) hZ (oH hw 94 rfl) (oH hw 85 rfl) (by decide) (by decide)) (g := (mkF m 25 #[.val (.ref ai), .val (.int 1), .val (.ref b2)] [(.int 1), (.int 0), (.int 0), (.ref b2), (.int 0), (.ref ai)])) rfl (by rw [hml]; rfl) (argsL := [(.int 0), (.int 1)]) (rest := [(.int 0), (.ref b2), (.int 0), (.ref ai)]) (lenOf pd_96 rfl) rfl (by show 2 * 0 + _ ≤ _; exact Nat.le_of_eq rfl) (hb hby d11_25) (fun _ _ => ⟨rfl, e2, (by decide : 1 + 0 ≤ _), (by decide : 1 + 0 ≤ _)⟩)
  dsimp only [Pt.U, Pt.locs, Pt.cells, Pt.slots] at X4 l4 y4 z4 st4 hQ4
  subst l4 y4 z4
  obtain ⟨rfl, eh4, rfl⟩ := hQ4
  have N4 := Fr.app N0 (Fr.nil n0)
  refine own_go (S' := (T4.setTop (mkF m 28 #[.val (.ref ai), .val (.int 1), .val (.ref b2)] [(.int 0), (.int 0), (.ref b2), (.int 0), (.ref ai)]))) st4 ?_
  obtain ⟨T5, h5, L5, X5, e5, N5, Kc5, Vd5, st5⟩ := cpA X4 hx hZ hown (oH hw 95 rfl) (oH hw 98 rfl) (oH hw 96 rfl) (oH hw 97 rfl) eh4 (us := []) c2_Vai V2 (Or.inl ⟨rfl, rfl⟩) (sp := (0 : Int32)) (dp := (0 : Int32)) (nn := (0 : Int32)) (by decide) (by decide) (by decide) (by decide) (by decide) (by first | rfl | simp) (by decide) N4 g_b2 (g := (mkF m 28 #[.val (.ref ai), .val (.int 1), .val (.ref b2)] [(.int 0), (.int 0), (.ref b2), (.int 0), (.ref ai)])) rfl (by rw [hml]; rfl) rfl (hb hby d11_28) (by decide) (W := 0) (by show 2 * 0 + _ ≤ _; exact Nat.le_of_eq rfl) (by decide)
  have Kt := K2.trans Kc5 (fun x hx => by cases List.mem_singleton.mp hx; exact Or.inr sz_b2)
  have Z5 : n0 ≤ h5.size := Nat.le_trans Z2 Kc5.1
  refine own_go (S' := (T5.setTop (mkF m 31 #[.val (.ref ai), .val (.int 1), .val (.ref b2)] []))) st5 ?_
  refine own_go (S' := (T5.setTop (mkF m 32 #[.val (.ref ai), .val (.int 1), .val (.ref b2)] [(.ref b2)]))) (fun _ kont => XS.aloadN X5.here hx rfl (hb hby d11_31) rfl rfl kont) ?_
  refine own_retA X5 hx hlk (rfl) rfl Bd.returns (hb hby d11_32) (by decide) (by decide) ?_
  rw [e5]
  exact ⟨_, _, _, rfl, sz_b2, N5, Kt, Vd5⟩
theorem d9_0 : decode prog_76_method_31_code 0 = .ok (.aload_n 0, 1) := by decide +kernel
theorem d9_1 : decode prog_76_method_31_code 1 = .ok (.getfield 179, 3) := by decide +kernel
theorem d9_4 : decode prog_76_method_31_code 4 = .ok (.aload_n 0, 1) := by decide +kernel
theorem d9_5 : decode prog_76_method_31_code 5 = .ok (.getfield 22, 3) := by decide +kernel
theorem d9_8 : decode prog_76_method_31_code 8 = .ok (.arraylength, 1) := by decide +kernel
theorem d9_9 : decode prog_76_method_31_code 9 = .ok (.if_icmp .ne 24, 3) := by decide +kernel
theorem d9_12 : decode prog_76_method_31_code 12 = .ok (.aload_n 0, 1) := by decide +kernel
theorem d9_13 : decode prog_76_method_31_code 13 = .ok (.aload_n 0, 1) := by decide +kernel
theorem d9_14 : decode prog_76_method_31_code 14 = .ok (.getfield 22, 3) := by decide +kernel
theorem d9_17 : decode prog_76_method_31_code 17 = .ok (.iconst 1, 1) := by decide +kernel
theorem d9_18 : decode prog_76_method_31_code 18 = .ok (.iconst 2, 1) := by decide +kernel
theorem d9_19 : decode prog_76_method_31_code 19 = .ok (.aload_n 0, 1) := by decide +kernel
theorem d9_20 : decode prog_76_method_31_code 20 = .ok (.getfield 179, 3) := by decide +kernel
theorem d9_23 : decode prog_76_method_31_code 23 = .ok (.imul, 1) := by decide +kernel
theorem d9_24 : decode prog_76_method_31_code 24 = .ok (.invokestatic 188, 3) := by decide +kernel
theorem d9_27 : decode prog_76_method_31_code 27 = .ok (.invokestatic 191, 3) := by decide +kernel
theorem pd_117 : parseMethodDescriptor "([II)[I" = some ⟨[(.array .int), .int], some (.array .int)⟩ := by decide +kernel
theorem d9_30 : decode prog_76_method_31_code 30 = .ok (.putfield 22, 3) := by decide +kernel
theorem d9_33 : decode prog_76_method_31_code 33 = .ok (.aload_n 0, 1) := by decide +kernel
theorem d9_34 : decode prog_76_method_31_code 34 = .ok (.getfield 22, 3) := by decide +kernel
theorem d9_37 : decode prog_76_method_31_code 37 = .ok (.aload_n 0, 1) := by decide +kernel
theorem d9_38 : decode prog_76_method_31_code 38 = .ok (.getfield 179, 3) := by decide +kernel
theorem d9_41 : decode prog_76_method_31_code 41 = .ok (.iload_n 1, 1) := by decide +kernel
theorem d9_42 : decode prog_76_method_31_code 42 = .ok (.iastore, 1) := by decide +kernel
theorem d9_43 : decode prog_76_method_31_code 43 = .ok (.aload_n 0, 1) := by decide +kernel
theorem d9_44 : decode prog_76_method_31_code 44 = .ok (.dup, 1) := by decide +kernel
theorem d9_45 : decode prog_76_method_31_code 45 = .ok (.getfield 179, 3) := by decide +kernel
theorem d9_48 : decode prog_76_method_31_code 48 = .ok (.iconst 1, 1) := by decide +kernel
theorem d9_49 : decode prog_76_method_31_code 49 = .ok (.iadd, 1) := by decide +kernel
theorem d9_50 : decode prog_76_method_31_code 50 = .ok (.putfield 179, 3) := by decide +kernel
theorem d9_53 : decode prog_76_method_31_code 53 = .ok (.aload_n 0, 1) := by decide +kernel
theorem d9_54 : decode prog_76_method_31_code 54 = .ok (.getfield 179, 3) := by decide +kernel
theorem d9_57 : decode prog_76_method_31_code 57 = .ok (.iconst 1, 1) := by decide +kernel
theorem d9_58 : decode prog_76_method_31_code 58 = .ok (.if_icmp .eq 18, 3) := by decide +kernel
theorem d9_76 : decode prog_76_method_31_code 76 = .ok (.iconst 1, 1) := by decide +kernel
theorem d9_77 : decode prog_76_method_31_code 77 = .ok (.goto 4, 3) := by decide +kernel
theorem d9_81 : decode prog_76_method_31_code 81 = .ok (.ireturn, 1) := by decide +kernel
theorem ef_rmId (m : MethodId) (x0 : Addr) (x1 : Int32) : entryFrame m #[(.ref x0), (.int x1)] 2 = mkF m 0 #[.val (.ref x0), .val (.int x1)] [] := by first | (simp [entryFrame, mkF, argsToLocals, Value.category]; done) | rfl
def Q_rmId (Z : State) (st : Addr) (idn nn : Int32) (pp aI : Addr) (k1 : ClassId) (h0 : Heap) (n0 : Nat) (v : Option Value) (h : Heap) (L : List Loc) : Prop := v = some (.int 1) ∧ Fr n0 L ∧ Keep h0 h [st] ∧ Fld Z h st "com/example/otaniemi/otaniemi/State" "number" "I" (.int nn) ∧ Fld Z h st "com/example/otaniemi/otaniemi/State" "predicateDepth" "I" (.int 0) ∧ Fld Z h st "com/example/otaniemi/otaniemi/State" "idCount" "I" (.int 1) ∧ Fld Z h st "com/example/otaniemi/otaniemi/State" "parent" "Lcom/example/otaniemi/otaniemi/State;" .null ∧ Fld Z h st "com/example/otaniemi/otaniemi/State" "predicateParts" "Lcom/example/otaniemi/otaniemi/State$PredicateParts;" (.ref pp)
set_option maxRecDepth 65536 in
set_option maxHeartbeats 40000000 in
theorem rmId (l : Launch) (Z : State) (a0 : Array Value) (hw : ∀ d ∈ tables_1, d.before a0 Z = true) (ws : List Jvm.Cond) (st : Addr) (idn nn : Int32) (pp aI : Addr) (k1 : ClassId) (h0 : Heap) (n0 : Nat) (Z0 : n0 ≤ h0.size) (E_st : Exa Z h0 st "com/example/otaniemi/otaniemi/State") (F_st_number : Fld Z h0 st "com/example/otaniemi/otaniemi/State" "number" "I" (.int nn)) (F_st_predicateDepth : Fld Z h0 st "com/example/otaniemi/otaniemi/State" "predicateDepth" "I" (.int 0)) (F_st_idCount : Fld Z h0 st "com/example/otaniemi/otaniemi/State" "idCount" "I" (.int 0)) (F_st_parent : Fld Z h0 st "com/example/otaniemi/otaniemi/State" "parent" "Lcom/example/otaniemi/otaniemi/State;" .null) (F_st_ids : Fld Z h0 st "com/example/otaniemi/otaniemi/State" "ids" "[I" (.ref aI)) (F_st_predicateParts : Fld Z h0 st "com/example/otaniemi/otaniemi/State" "predicateParts" "Lcom/example/otaniemi/otaniemi/State$PredicateParts;" (.ref pp)) (g_st : n0 ≤ st) (V1 : Arv Z h0 aI k1 .int (0 : Int32) [] (.int 0)) :
    MetFree l (⟨"com/example/otaniemi/otaniemi/State", "addId", "(I)Z"⟩ : MethodName) (head1 (Jvm.Cond.code (⟨"com/example/otaniemi/otaniemi/State", "addId", "(I)Z"⟩ : MethodName) prog_76_method_31_code 2 (some .boolean) :: ws) ({ frames := 2, cells := 1, slots := 1, locals := 75 } : Room)) (fun a U => a = #[(.ref st), (.int idn)] ∧ Z.Warmed39 U.vm ∧ U.heap = h0) (fun _ _ _ _ _ => True) (fun _ U o U' => ∃ v L, o = .returned v ∧ Q_rmId Z st idn nn pp aI k1 h0 n0 v U'.heap L ∧ FrameEnd U o U' L ({ frames := 2, cells := 1, slots := 1, locals := 75 } : Room).cells ({ frames := 2, cells := 1, slots := 1, locals := 75 } : Room).slots) := by
  refine MetFree.of_bodySF (plainFor_of_name pn_39) hisR ?_
  intro p e s m args below meth c s₁ Bd hml0 hP hK
  obtain ⟨rfl, hZ, hh⟩ := hP
  have hx := Bd.exec
  have hby := Bd.bytes
  have hlk := Bd.notSynchronized
  have hml : c.maxLocals = 2 := hml0
  have hown : s.vm.findClass "com/example/otaniemi/otaniemi/State" = some m.cls := findClass_of_methodNamed Bd.named
  have hnm := (name_of_methodNamed Bd.named Bd.method).1
  have X0 : Stand p l e ({ frames := 2, cells := 1, slots := 1, locals := 75 } : Room) s m #[(.ref st), (.int idn)] below meth c s₁ [] 0 0 := Stand.of_body Bd
  have e0 : s₁.heap = h0 := by rw [← hh, Bd.state]; rfl
  have N0 := Fr.nil n0
  change own_Go p e below s (Q_rmId Z st idn nn pp aI k1 h0 n0) ({ frames := 2, cells := 1, slots := 1, locals := 75 } : Room).cells ({ frames := 2, cells := 1, slots := 1, locals := 75 } : Room).slots _
  refine own_go (S' := (s₁.setTop (mkF m 0 #[.val (.ref st), .val (.int idn)] []))) (fun _ kont => castTop (ef_rmId m st idn) kont) ?_
  have nsi := E_st.neArv V1 (oH hw 1 rfl)
  have K0 := Keep.refl h0 [st]
  refine own_go (S' := (s₁.setTop (mkF m 1 #[.val (.ref st), .val (.int idn)] [(.ref st)]))) (fun _ kont => XS.aloadN X0.here hx rfl (hb hby d9_0) rfl rfl kont) ?_
  obtain ⟨T1, X1, e1, st1⟩ := getF X0 hx hZ hown (host := "") (Or.inl (oH hw 81 rfl)) Via.refl e0 F_st_idCount (g := (mkF m 1 #[.val (.ref st), .val (.int idn)] [(.ref st)])) rfl rfl (hb hby d9_1)
  refine own_go (S' := (T1.setTop (mkF m 4 #[.val (.ref st), .val (.int idn)] [(.int 0)]))) st1 ?_
  refine own_go (S' := (T1.setTop (mkF m 5 #[.val (.ref st), .val (.int idn)] [(.ref st), (.int 0)]))) (fun _ kont => XS.aloadN X1.here hx rfl (hb hby d9_4) rfl rfl kont) ?_
  obtain ⟨T2, X2, e2, st2⟩ := getF X1 hx hZ hown (host := "") (Or.inl (oH hw 16 rfl)) Via.refl e1 F_st_ids (g := (mkF m 5 #[.val (.ref st), .val (.int idn)] [(.ref st), (.int 0)])) rfl rfl (hb hby d9_5)
  refine own_go (S' := (T2.setTop (mkF m 8 #[.val (.ref st), .val (.int idn)] [(.ref aI), (.int 0)]))) st2 ?_
  obtain ⟨cl3, Ar3, -, S3, M3, -, -⟩ := id V1
  have ql3 := len_of S3 M3
  refine own_go (S' := (T2.setTop (mkF m 9 #[.val (.ref st), .val (.int idn)] [(.int 0), (.int 0)]))) (fun _ kont => X2.arraylength hx (by rw [e2]; exact Ar3.1) (State.isArrayOf_alike hZ.alike Ar3.2.1) (g := (mkF m 8 #[.val (.ref st), .val (.int idn)] [(.ref aI), (.int 0)])) rfl rfl (hb hby d9_8) _ (by rw [ql3]; exact kont)) ?_
  refine own_go (S' := (T2.setTop (mkF m 14 #[.val (.ref st), .val (.int idn)] [(.ref st), (.ref st)]))) (fun _ kont => XS.icmpNo X2.here hx rfl (hb hby d9_9) rfl (teq (by decide)).2 (XS.aloadN X2.here hx rfl (hb hby d9_12) rfl rfl (XS.aloadN X2.here hx rfl (hb hby d9_13) rfl rfl kont))) ?_
  obtain ⟨T4, X4, e4, st4⟩ := getF X2 hx hZ hown (host := "") (Or.inl (oH hw 16 rfl)) Via.refl e2 F_st_ids (g := (mkF m 14 #[.val (.ref st), .val (.int idn)] [(.ref st), (.ref st)])) rfl rfl (hb hby d9_14)
  refine own_go (S' := (T4.setTop (mkF m 17 #[.val (.ref st), .val (.int idn)] [(.ref aI), (.ref st)]))) st4 ?_
  refine own_go (S' := (T4.setTop (mkF m 20 #[.val (.ref st), .val (.int idn)] [(.ref st), (.int 2), (.int 1), (.ref aI), (.ref st)]))) (fun _ kont => XS.iconst X4.here hx rfl (hb hby d9_17) (XS.iconst X4.here hx rfl (hb hby d9_18) (XS.aloadN X4.here hx rfl (hb hby d9_19) rfl rfl kont))) ?_
  obtain ⟨T5, X5, e5, st5⟩ := getF X4 hx hZ hown (host := "") (Or.inl (oH hw 81 rfl)) Via.refl e4 F_st_idCount (g := (mkF m 20 #[.val (.ref st), .val (.int idn)] [(.ref st), (.int 2), (.int 1), (.ref aI), (.ref st)])) rfl rfl (hb hby d9_20)
  refine own_go (S' := (T5.setTop (mkF m 23 #[.val (.ref st), .val (.int idn)] [(.int 0), (.int 2), (.int 1), (.ref aI), (.ref st)]))) st5 ?_
  refine own_go (S' := (T5.setTop (mkF m 24 #[.val (.ref st), .val (.int idn)] [(.int ((2 : Int32) * (0 : Int32))), (.int 1), (.ref aI), (.ref st)]))) (fun _ kont => XS.imul X5.here hx rfl (hb hby d9_23) rfl kont) ?_
  rw [show ((2 : Int32) * (0 : Int32)) = (0 : Int32) from by decide]
  obtain ⟨v6, _, ⟨T6, L6, k6, n6⟩, -, X6, ⟨Lc6, hQ6, l6, y6, z6⟩, st6⟩ := Jvm.LawKit.callS X5 hx (y := (⟨"java/lang/Math", "max", "(II)I"⟩ : MethodName)) hown (mvT hZ (oH hw 83 rfl)) (mvT hZ (oH hw 84 rfl)) (mvT hZ (oH hw 85 rfl)) (mvT hZ (oH hw 86 rfl)) (by decide) (backOf (W := 2) (rmMax l Z a0 hw [] h0 n0 Z0) hZ (oH hw 86 rfl) (oH hw 85 rfl) (by decide) (by decide)) (g := (mkF m 24 #[.val (.ref st), .val (.int idn)] [(.int 0), (.int 1), (.ref aI), (.ref st)])) rfl (by rw [hml]; rfl) (argsL := [(.int 1), (.int 0)]) (rest := [(.ref aI), (.ref st)]) (lenOf pd_96 rfl) rfl (by show 2 * 0 + _ ≤ _; exact Nat.le_of_eq rfl) (hb hby d9_24) (fun _ _ => ⟨rfl, e5, (by decide : 0 + 0 ≤ _), (by decide : 0 + 0 ≤ _)⟩)
  dsimp only [Pt.U, Pt.locs, Pt.cells, Pt.slots] at X6 l6 y6 z6 st6 hQ6
  subst l6 y6 z6
  obtain ⟨rfl, eh6, rfl⟩ := hQ6
  have N6 := Fr.app N0 (Fr.nil n0)
  refine own_go (S' := (T6.setTop (mkF m 27 #[.val (.ref st), .val (.int idn)] [(.int 1), (.ref aI), (.ref st)]))) st6 ?_
  obtain ⟨v7, _, ⟨T7, L7, k7, n7⟩, -, X7, ⟨Lc7, hQ7, l7, y7, z7⟩, st7⟩ := Jvm.LawKit.callS X6 hx (y := (⟨"java/util/Arrays", "copyOf", "([II)[I"⟩ : MethodName)) hown (mvT hZ (oH hw 87 rfl)) (mvT hZ (oH hw 88 rfl)) (mvT hZ (oH hw 89 rfl)) (mvT hZ (oH hw 90 rfl)) (by decide) (backOf (W := 1) (rmCo l Z a0 hw [] aI k1 h0 n0 Z0 V1) hZ (oH hw 90 rfl) (oH hw 89 rfl) (by decide) (by decide)) (g := (mkF m 27 #[.val (.ref st), .val (.int idn)] [(.int 1), (.ref aI), (.ref st)])) rfl (by rw [hml]; rfl) (argsL := [(.ref aI), (.int 1)]) (rest := [(.ref st)]) (lenOf pd_117 rfl) rfl (by show 2 * 0 + _ ≤ _; exact Nat.le_of_eq rfl) (hb hby d9_27) (fun _ _ => ⟨rfl, eh6, (by decide : 0 + 1 ≤ _), (by decide : 0 + 1 ≤ _)⟩)
  dsimp only [Pt.U, Pt.locs, Pt.cells, Pt.slots] at X7 l7 y7 z7 st7 hQ7
  subst l7 y7 z7
  obtain ⟨na, k2, vs2, rfl, sz_na, Nq7, Kc7, Vn7⟩ := hQ7
  have Kt7 := K0.trans Kc7 (fun x hx => nomatch hx)
  have N7 := Fr.app N6 Nq7
  have Z7 : n0 ≤ T7.heap.size := Nat.le_trans Z0 Kc7.1
  have c7_Est := E_st.keep Kc7
  have c7_Fst_number := F_st_number.keep Kc7 nin0
  have c7_Fst_predicateDepth := F_st_predicateDepth.keep Kc7 nin0
  have c7_Fst_idCount := F_st_idCount.keep Kc7 nin0
  have c7_Fst_parent := F_st_parent.keep Kc7 nin0
  have c7_Fst_ids := F_st_ids.keep Kc7 nin0
  have c7_Fst_predicateParts := F_st_predicateParts.keep Kc7 nin0
  have c7_VaI := V1.keep Kc7 nin0
  refine own_go (S' := (T7.setTop (mkF m 30 #[.val (.ref st), .val (.int idn)] [(.ref na), (.ref st)]))) st7 ?_
  have g_na : n0 ≤ na := Nat.le_trans Z0 sz_na
  have nsn : st ≠ na := Nat.ne_of_lt (Nat.lt_of_lt_of_le E_st.lt sz_na)
  obtain ⟨T8, h8, X8, e8, W8, st8⟩ := putF X7 hx hZ hown (host := "") (Or.inl (oH hw 16 rfl)) Via.refl rfl c7_Fst_ids c7_Est (Or.inl (oH hw 17 rfl)) (oH hw 1 rfl) (ty := (.array .int)) (by decide) rfl rfl (g := (mkF m 30 #[.val (.ref st), .val (.int idn)] [(.ref na), (.ref st)])) rfl rfl (hb hby d9_30)
  have c8_Est := c7_Est.wr W8
  have c8_Fst_number := c7_Fst_number.other W8 (Or.inr (slot_ne (Or.inl (oH hw 19 rfl)) (Or.inl (oH hw 17 rfl)) (by decide) (by decide : parseFieldDescriptor "I" = some .int) (by decide : parseFieldDescriptor "[I" = some (.array .int))))
  have c8_Fst_predicateDepth := c7_Fst_predicateDepth.other W8 (Or.inr (slot_ne (Or.inl (oH hw 155 rfl)) (Or.inl (oH hw 17 rfl)) (by decide) (by decide : parseFieldDescriptor "I" = some .int) (by decide : parseFieldDescriptor "[I" = some (.array .int))))
  have c8_Fst_idCount := c7_Fst_idCount.other W8 (Or.inr (slot_ne (Or.inl (oH hw 82 rfl)) (Or.inl (oH hw 17 rfl)) (by decide) (by decide : parseFieldDescriptor "I" = some .int) (by decide : parseFieldDescriptor "[I" = some (.array .int))))
  have c8_Fst_parent := c7_Fst_parent.other W8 (Or.inr (slot_ne (Or.inr (oH hw 21 rfl)) (Or.inl (oH hw 17 rfl)) (by decide) (by decide : parseFieldDescriptor "Lcom/example/otaniemi/otaniemi/State;" = some (.object "com/example/otaniemi/otaniemi/State")) (by decide : parseFieldDescriptor "[I" = some (.array .int))))
  have c8_Fst_ids := c7_Fst_ids.same W8
  have c8_Fst_predicateParts := c7_Fst_predicateParts.other W8 (Or.inr (slot_ne (Or.inl (oH hw 13 rfl)) (Or.inl (oH hw 17 rfl)) (by decide) (by decide : parseFieldDescriptor "Lcom/example/otaniemi/otaniemi/State$PredicateParts;" = some (.object "com/example/otaniemi/otaniemi/State$PredicateParts")) (by decide : parseFieldDescriptor "[I" = some (.array .int))))
  have c8_Vna := Vn7.other W8 (Ne.symm nsn)
  have K8 := Kt7.wr W8 (Or.inl (List.mem_of_getElem? (i := 0) rfl))
  have N8 := Fr.snoc X8 N7 g_st
  have Z8 : n0 ≤ h8.size := Nat.le_trans Z7 (Nat.le_of_eq W8.size.symm)
  refine own_go (S' := (T8.setTop (mkF m 33 #[.val (.ref st), .val (.int idn)] []))) st8 ?_
  refine own_go (S' := (T8.setTop (mkF m 34 #[.val (.ref st), .val (.int idn)] [(.ref st)]))) (fun _ kont => XS.aloadN X8.here hx rfl (hb hby d9_33) rfl rfl kont) ?_
  obtain ⟨T9, X9, e9, st9⟩ := getF X8 hx hZ hown (host := "") (Or.inl (oH hw 16 rfl)) Via.refl e8 c8_Fst_ids (g := (mkF m 34 #[.val (.ref st), .val (.int idn)] [(.ref st)])) rfl rfl (hb hby d9_34)
  refine own_go (S' := (T9.setTop (mkF m 37 #[.val (.ref st), .val (.int idn)] [(.ref na)]))) st9 ?_
  refine own_go (S' := (T9.setTop (mkF m 38 #[.val (.ref st), .val (.int idn)] [(.ref st), (.ref na)]))) (fun _ kont => XS.aloadN X9.here hx rfl (hb hby d9_37) rfl rfl kont) ?_
  obtain ⟨T10, X10, e10, st10⟩ := getF X9 hx hZ hown (host := "") (Or.inl (oH hw 81 rfl)) Via.refl e9 c8_Fst_idCount (g := (mkF m 38 #[.val (.ref st), .val (.int idn)] [(.ref st), (.ref na)])) rfl rfl (hb hby d9_38)
  refine own_go (S' := (T10.setTop (mkF m 41 #[.val (.ref st), .val (.int idn)] [(.int 0), (.ref na)]))) st10 ?_
  refine own_go (S' := (T10.setTop (mkF m 42 #[.val (.ref st), .val (.int idn)] [(.int idn), (.int 0), (.ref na)]))) (fun _ kont => XS.iloadN X10.here hx rfl (hb hby d9_41) rfl kont) ?_
  obtain ⟨cl11, Ar11, -, S11, -⟩ := id c8_Vna
  obtain ⟨T11, h11, X11, e11, W11, st11⟩ := stI X10 hx hZ e10 Ar11 (j := (0 : Int32)) (inb_of S11 ⟨by decide, by decide⟩) (g := (mkF m 42 #[.val (.ref st), .val (.int idn)] [(.int idn), (.int 0), (.ref na)])) rfl rfl (hb hby d9_42)
  have c11_Est := c8_Est.wr W11
  have c11_Fst_number := c8_Fst_number.other W11 (Or.inl nsn)
  have c11_Fst_predicateDepth := c8_Fst_predicateDepth.other W11 (Or.inl nsn)
  have c11_Fst_idCount := c8_Fst_idCount.other W11 (Or.inl nsn)
  have c11_Fst_parent := c8_Fst_parent.other W11 (Or.inl nsn)
  have c11_Fst_ids := c8_Fst_ids.other W11 (Or.inl nsn)
  have c11_Fst_predicateParts := c8_Fst_predicateParts.other W11 (Or.inl nsn)
  have K11 := K8.wr W11 (Or.inr sz_na)
  have N11 := Fr.snoc X11 N8 g_na
  have Z11 : n0 ≤ h11.size := Nat.le_trans Z8 (Nat.le_of_eq W11.size.symm)
  refine own_go (S' := (T11.setTop (mkF m 43 #[.val (.ref st), .val (.int idn)] []))) st11 ?_
  refine own_go (S' := (T11.setTop (mkF m 45 #[.val (.ref st), .val (.int idn)] [(.ref st), (.ref st)]))) (fun _ kont => XS.aloadN X11.here hx rfl (hb hby d9_43) rfl rfl (XS.dup X11.here hx rfl (hb hby d9_44) rfl rfl kont)) ?_
  obtain ⟨T12, X12, e12, st12⟩ := getF X11 hx hZ hown (host := "") (Or.inl (oH hw 81 rfl)) Via.refl e11 c11_Fst_idCount (g := (mkF m 45 #[.val (.ref st), .val (.int idn)] [(.ref st), (.ref st)])) rfl rfl (hb hby d9_45)
  refine own_go (S' := (T12.setTop (mkF m 48 #[.val (.ref st), .val (.int idn)] [(.int 0), (.ref st)]))) st12 ?_
  refine own_go (S' := (T12.setTop (mkF m 50 #[.val (.ref st), .val (.int idn)] [(.int ((0 : Int32) + (1 : Int32))), (.ref st)]))) (fun _ kont => XS.iconst X12.here hx rfl (hb hby d9_48) (XS.iadd X12.here hx rfl (hb hby d9_49) rfl kont)) ?_
  rw [show ((0 : Int32) + (1 : Int32)) = (1 : Int32) from by decide]
  obtain ⟨T13, h13, X13, e13, W13, st13⟩ := putF X12 hx hZ hown (host := "") (Or.inl (oH hw 81 rfl)) Via.refl e12 c11_Fst_idCount c11_Est (Or.inl (oH hw 82 rfl)) (oH hw 1 rfl) (ty := .int) (by decide) rfl rfl (g := (mkF m 50 #[.val (.ref st), .val (.int idn)] [(.int 1), (.ref st)])) rfl rfl (hb hby d9_50)
  have c13_Est := c11_Est.wr W13
  have c13_Fst_number := c11_Fst_number.other W13 (Or.inr (slot_ne (Or.inl (oH hw 19 rfl)) (Or.inl (oH hw 82 rfl)) (by decide) (by decide : parseFieldDescriptor "I" = some .int) (by decide : parseFieldDescriptor "I" = some .int)))
  have c13_Fst_predicateDepth := c11_Fst_predicateDepth.other W13 (Or.inr (slot_ne (Or.inl (oH hw 155 rfl)) (Or.inl (oH hw 82 rfl)) (by decide) (by decide : parseFieldDescriptor "I" = some .int) (by decide : parseFieldDescriptor "I" = some .int)))
  have c13_Fst_idCount := c11_Fst_idCount.same W13
  have c13_Fst_parent := c11_Fst_parent.other W13 (Or.inr (slot_ne (Or.inr (oH hw 21 rfl)) (Or.inl (oH hw 82 rfl)) (by decide) (by decide : parseFieldDescriptor "Lcom/example/otaniemi/otaniemi/State;" = some (.object "com/example/otaniemi/otaniemi/State")) (by decide : parseFieldDescriptor "I" = some .int)))
  have c13_Fst_ids := c11_Fst_ids.other W13 (Or.inr (slot_ne (Or.inl (oH hw 17 rfl)) (Or.inl (oH hw 82 rfl)) (by decide) (by decide : parseFieldDescriptor "[I" = some (.array .int)) (by decide : parseFieldDescriptor "I" = some .int)))
  have c13_Fst_predicateParts := c11_Fst_predicateParts.other W13 (Or.inr (slot_ne (Or.inl (oH hw 13 rfl)) (Or.inl (oH hw 82 rfl)) (by decide) (by decide : parseFieldDescriptor "Lcom/example/otaniemi/otaniemi/State$PredicateParts;" = some (.object "com/example/otaniemi/otaniemi/State$PredicateParts")) (by decide : parseFieldDescriptor "I" = some .int)))
  have K13 := K11.wr W13 (Or.inl (List.mem_of_getElem? (i := 0) rfl))
  have N13 := Fr.snoc X13 N11 g_st
  have Z13 : n0 ≤ h13.size := Nat.le_trans Z11 (Nat.le_of_eq W13.size.symm)
  refine own_go (S' := (T13.setTop (mkF m 53 #[.val (.ref st), .val (.int idn)] []))) st13 ?_
  refine own_go (S' := (T13.setTop (mkF m 54 #[.val (.ref st), .val (.int idn)] [(.ref st)]))) (fun _ kont => XS.aloadN X13.here hx rfl (hb hby d9_53) rfl rfl kont) ?_
  obtain ⟨T14, X14, e14, st14⟩ := getF X13 hx hZ hown (host := "") (Or.inl (oH hw 81 rfl)) Via.refl e13 c13_Fst_idCount (g := (mkF m 54 #[.val (.ref st), .val (.int idn)] [(.ref st)])) rfl rfl (hb hby d9_54)
  refine own_go (S' := (T14.setTop (mkF m 57 #[.val (.ref st), .val (.int idn)] [(.int 1)]))) st14 ?_
  refine own_go (S' := (T14.setTop (mkF m 81 #[.val (.ref st), .val (.int idn)] [(.int 1)]))) (fun _ kont => XS.iconst X14.here hx rfl (hb hby d9_57) (XS.icmpYes X14.here hx rfl (pc0 := 58) (pc' := 76) rfl (hb hby d9_58) rfl (teq (by decide)).1 (by decide) (by decide) (XS.iconst X14.here hx rfl (hb hby d9_76) (XS.goto X14.here hx rfl (pc0 := 77) (pc' := 81) rfl (hb hby d9_77) (by decide) (by decide) kont)))) ?_
  refine own_retN (t := .boolean) X14 hx hlk (by simp) Bd.returns (hb hby d9_81) (by decide) (by decide) ?_
  rw [e14]
  exact ⟨rfl, N13, K13, c13_Fst_number, c13_Fst_predicateDepth, c13_Fst_idCount, c13_Fst_parent, c13_Fst_predicateParts⟩
theorem d14_0 : decode prog_76_method_35_code 0 = .ok (.aload_n 0, 1) := by decide +kernel
theorem d14_1 : decode prog_76_method_35_code 1 = .ok (.getfield 13, 3) := by decide +kernel
theorem d14_4 : decode prog_76_method_35_code 4 = .ok (.getfield 201, 3) := by decide +kernel
theorem d14_7 : decode prog_76_method_35_code 7 = .ok (.ireturn, 1) := by decide +kernel
theorem ef_rmIs (m : MethodId) (x0 : Addr) : entryFrame m #[(.ref x0)] 1 = mkF m 0 #[.val (.ref x0)] [] := by first | (simp [entryFrame, mkF, argsToLocals, Value.category]; done) | rfl
def Q_rmIs (Z : State) (x0 : Addr) (nx0 cx0 dx0 : Int32) (h0 : Heap) (n0 : Nat) (v : Option Value) (h : Heap) (L : List Loc) : Prop := v = some (.int cx0) ∧ h = h0 ∧ L = []
set_option maxRecDepth 65536 in
set_option maxHeartbeats 40000000 in
theorem rmIs (l : Launch) (Z : State) (a0 : Array Value) (hw : ∀ d ∈ tables_1, d.before a0 Z = true) (ws : List Jvm.Cond) (x0 : Addr) (nx0 cx0 dx0 : Int32) (h0 : Heap) (n0 : Nat) (Z0 : n0 ≤ h0.size) (U_x0 : own_T Z n0 h0 x0 nx0 cx0 dx0) (hc : cx0 = 0 ∨ cx0 = 1) :
    MetFree l (⟨"com/example/otaniemi/otaniemi/State", "isCounted", "()Z"⟩ : MethodName) (head1 (Jvm.Cond.code (⟨"com/example/otaniemi/otaniemi/State", "isCounted", "()Z"⟩ : MethodName) prog_76_method_35_code 1 (some .boolean) :: ws) ({ frames := 0, cells := 0, slots := 0, locals := 0 } : Room)) (fun a U => a = #[(.ref x0)] ∧ Z.Warmed39 U.vm ∧ U.heap = h0) (fun _ _ _ _ _ => True) (fun _ U o U' => ∃ v L, o = .returned v ∧ Q_rmIs Z x0 nx0 cx0 dx0 h0 n0 v U'.heap L ∧ FrameEnd U o U' L ({ frames := 0, cells := 0, slots := 0, locals := 0 } : Room).cells ({ frames := 0, cells := 0, slots := 0, locals := 0 } : Room).slots) := by
  refine MetFree.of_bodySF (plainFor_of_name pn_39) hisR ?_
  intro p e s m args below meth c s₁ Bd hml0 hP hK
  obtain ⟨rfl, hZ, hh⟩ := hP
  have hx := Bd.exec
  have hby := Bd.bytes
  have hlk := Bd.notSynchronized
  have hml : c.maxLocals = 1 := hml0
  have hown : s.vm.findClass "com/example/otaniemi/otaniemi/State" = some m.cls := findClass_of_methodNamed Bd.named
  have hnm := (name_of_methodNamed Bd.named Bd.method).1
  have X0 : Stand p l e ({ frames := 0, cells := 0, slots := 0, locals := 0 } : Room) s m #[(.ref x0)] below meth c s₁ [] 0 0 := Stand.of_body Bd
  have e0 : s₁.heap = h0 := by rw [← hh, Bd.state]; rfl
  have N0 := Fr.nil n0
  change own_Go p e below s (Q_rmIs Z x0 nx0 cx0 dx0 h0 n0) ({ frames := 0, cells := 0, slots := 0, locals := 0 } : Room).cells ({ frames := 0, cells := 0, slots := 0, locals := 0 } : Room).slots _
  refine own_go (S' := (s₁.setTop (mkF m 0 #[.val (.ref x0)] []))) (fun _ kont => castTop (ef_rmIs m x0) kont) ?_
  obtain ⟨lx1, Ex1, Fn1, Fd1, Fi1, pp1, lp1, Fp1, Ep1, Fc1⟩ := id U_x0
  refine own_go (S' := (s₁.setTop (mkF m 1 #[.val (.ref x0)] [(.ref x0)]))) (fun _ kont => XS.aloadN X0.here hx rfl (hb hby d14_0) rfl rfl kont) ?_
  obtain ⟨T2, X2, e2, st2⟩ := getF X0 hx hZ hown (host := "") (Or.inl (oH hw 12 rfl)) Via.refl e0 Fp1 (g := (mkF m 1 #[.val (.ref x0)] [(.ref x0)])) rfl rfl (hb hby d14_1)
  refine own_go (S' := (T2.setTop (mkF m 4 #[.val (.ref x0)] [(.ref pp1)]))) st2 ?_
  obtain ⟨T3, X3, e3, st3⟩ := own_getFR X2 hx hZ hown (oH hw 50 rfl) e2 Fc1 (g := (mkF m 4 #[.val (.ref x0)] [(.ref pp1)])) rfl rfl (hb hby d14_4)
  refine own_go (S' := (T3.setTop (mkF m 7 #[.val (.ref x0)] [(.int cx0)]))) st3 ?_
  refine own_retN (t := .boolean) X3 hx hlk (by simp) Bd.returns (hb hby d14_7) (by decide) (by decide) ?_
  exact ⟨by rcases hc with rfl | rfl <;> rfl, e3, rfl⟩
theorem d19_0 : decode prog_64_method_14_code 0 = .ok (.aload_n 0, 1) := by decide +kernel
theorem d19_1 : decode prog_64_method_14_code 1 = .ok (.invokevirtual 95, 3) := by decide +kernel
theorem pd_144 : parseMethodDescriptor "()Z" = some ⟨[], some .boolean⟩ := by decide +kernel
theorem d19_4 : decode prog_64_method_14_code 4 = .ok (.ifCond .eq 9, 3) := by decide +kernel
theorem d19_7 : decode prog_64_method_14_code 7 = .ok (.lload_n 1, 1) := by decide +kernel
theorem d19_8 : decode prog_64_method_14_code 8 = .ok (.lload_n 3, 1) := by decide +kernel
theorem d19_9 : decode prog_64_method_14_code 9 = .ok (.ladd, 1) := by decide +kernel
theorem d19_10 : decode prog_64_method_14_code 10 = .ok (.goto 8, 3) := by decide +kernel
theorem d19_18 : decode prog_64_method_14_code 18 = .ok (.lreturn, 1) := by decide +kernel
theorem pn_151 : plainName "com/example/otaniemi/otaniemi/Pending" = true := by first | (simp [plainName, overriddenIn]; done) | decide +kernel
theorem ef_rmMg (m : MethodId) (x0 : Addr) (x1 : Int64) (x2 : Int64) : entryFrame m #[(.ref x0), (.long x1), (.long x2)] 5 = mkF m 0 #[.val (.ref x0), .val (.long x1), .second, .val (.long x2), .second] [] := by first | (simp [entryFrame, mkF, argsToLocals, Value.category]; done) | rfl
def Q_rmMg (Z : State) (x0 : Addr) (nx0 dx0 : Int32) (m1 m2 : Int64) (h0 : Heap) (n0 : Nat) (v : Option Value) (h : Heap) (L : List Loc) : Prop := v = some (.long (m1 + m2)) ∧ h = h0 ∧ L = []
set_option maxRecDepth 65536 in
set_option maxHeartbeats 40000000 in
theorem rmMg (l : Launch) (Z : State) (a0 : Array Value) (hw : ∀ d ∈ tables_1, d.before a0 Z = true) (ws : List Jvm.Cond) (x0 : Addr) (nx0 dx0 : Int32) (m1 m2 : Int64) (h0 : Heap) (n0 : Nat) (Z0 : n0 ≤ h0.size) (U_x0 : own_T Z n0 h0 x0 nx0 (1 : Int32) dx0) :
    MetFree l (⟨"com/example/otaniemi/otaniemi/Pending", "merged", "(Lcom/example/otaniemi/otaniemi/State;JJ)J"⟩ : MethodName) (head1 (Jvm.Cond.code (⟨"com/example/otaniemi/otaniemi/Pending", "merged", "(Lcom/example/otaniemi/otaniemi/State;JJ)J"⟩ : MethodName) prog_64_method_14_code 5 (some .long) :: ws) ({ frames := 1, cells := 0, slots := 0, locals := 12 } : Room)) (fun a U => a = #[(.ref x0), (.long m1), (.long m2)] ∧ Z.Warmed39 U.vm ∧ U.heap = h0) (fun _ _ _ _ _ => True) (fun _ U o U' => ∃ v L, o = .returned v ∧ Q_rmMg Z x0 nx0 dx0 m1 m2 h0 n0 v U'.heap L ∧ FrameEnd U o U' L ({ frames := 1, cells := 0, slots := 0, locals := 12 } : Room).cells ({ frames := 1, cells := 0, slots := 0, locals := 12 } : Room).slots) := by
  refine MetFree.of_bodySF (plainFor_of_name pn_151) hisR ?_
  intro p e s m args below meth c s₁ Bd hml0 hP hK
  obtain ⟨rfl, hZ, hh⟩ := hP
  have hx := Bd.exec
  have hby := Bd.bytes
  have hlk := Bd.notSynchronized
  have hml : c.maxLocals = 5 := hml0
  have hown : s.vm.findClass "com/example/otaniemi/otaniemi/Pending" = some m.cls := findClass_of_methodNamed Bd.named
  have hnm := (name_of_methodNamed Bd.named Bd.method).1
  have X0 : Stand p l e ({ frames := 1, cells := 0, slots := 0, locals := 12 } : Room) s m #[(.ref x0), (.long m1), (.long m2)] below meth c s₁ [] 0 0 := Stand.of_body Bd
  have e0 : s₁.heap = h0 := by rw [← hh, Bd.state]; rfl
  have N0 := Fr.nil n0
  change own_Go p e below s (Q_rmMg Z x0 nx0 dx0 m1 m2 h0 n0) ({ frames := 1, cells := 0, slots := 0, locals := 12 } : Room).cells ({ frames := 1, cells := 0, slots := 0, locals := 12 } : Room).slots _
  refine own_go (S' := (s₁.setTop (mkF m 0 #[.val (.ref x0), .val (.long m1), .second, .val (.long m2), .second] []))) (fun _ kont => castTop (ef_rmMg m x0 m1 m2) kont) ?_
  obtain ⟨lx1, Ex1, Fn1, Fd1, Fi1, pp1, lp1, Fp1, Ep1, Fc1⟩ := id U_x0
  refine own_go (S' := (s₁.setTop (mkF m 1 #[.val (.ref x0), .val (.long m1), .second, .val (.long m2), .second] [(.ref x0)]))) (fun _ kont => XS.aloadN X0.here hx rfl (hb hby d19_0) rfl rfl kont) ?_
  obtain ⟨cq2, kq2, q2a, q2b, q2c⟩ := isOf hZ e0 Ex1
  obtain ⟨v2, _, ⟨T2, L2, k2, n2⟩, -, X2, ⟨Lc2, hQ2, l2, y2, z2⟩, st2⟩ := X0.virtualBack hx (y := (⟨"com/example/otaniemi/otaniemi/State", "isCounted", "()Z"⟩ : MethodName)) (z := (⟨"com/example/otaniemi/otaniemi/State", "isCounted", "()Z"⟩ : MethodName)) hown (mvT hZ (oH hw 104 rfl)) (mvT hZ (oH hw 105 rfl)) (notFace_of_selects (args := #[]) (mvT hZ (oH hw 107 rfl))) (mvT hZ (oH hw 107 rfl)) (mvT hZ (oH hw 106 rfl)) (by decide) (backOf (W := 0) (rmIs l Z a0 hw [] x0 nx0 (1 : Int32) dx0 h0 n0 Z0 U_x0 (Or.inr rfl)) hZ (oH hw 108 rfl) (oH hw 2 rfl) (by decide) (by decide)) q2a q2c (g := (mkF m 1 #[.val (.ref x0), .val (.long m1), .second, .val (.long m2), .second] [(.ref x0)])) rfl (by rw [hml]; rfl) (Steps.refl _) (argsL := []) (rest := []) (lenOf pd_144 rfl) rfl (by show 2 * 0 + _ ≤ _; exact Nat.le_of_eq rfl) (hb hby d19_1) (fun _ _ => ⟨rfl, e0, (by decide : 0 + 0 ≤ _), (by decide : 0 + 0 ≤ _)⟩)
  dsimp only [Pt.U, Pt.locs, Pt.cells, Pt.slots] at X2 l2 y2 z2 st2 hQ2
  subst l2 y2 z2
  obtain ⟨rfl, eh2, rfl⟩ := hQ2
  have N2 := Fr.app N0 (Fr.nil n0)
  refine own_goT (S' := (T2.setTop (mkF m 4 #[.val (.ref x0), .val (.long m1), .second, .val (.long m2), .second] [(.int 1)]))) st2 ?_
  refine own_go (S' := (T2.setTop (mkF m 18 #[.val (.ref x0), .val (.long m1), .second, .val (.long m2), .second] [(.long (m1 + m2))]))) (fun _ kont => XS.ifNo X2.here hx rfl (hb hby d19_4) rfl ((if0 _ _).trans (feq (by decide)).1) (XS.lloadN X2.here hx rfl (hb hby d19_7) rfl (XS.lloadN X2.here hx rfl (hb hby d19_8) rfl (XS.ladd X2.here hx rfl (hb hby d19_9) rfl (XS.goto X2.here hx rfl (pc0 := 10) (pc' := 18) rfl (hb hby d19_10) (by decide) (by decide) kont))))) ?_
  refine own_retJ X2 hx hlk Bd.returns (hb hby d19_18) (by decide) (by decide) ?_
  exact ⟨rfl, eh2, rfl⟩
theorem d22_0 : decode prog_76_method_26_code 0 = .ok (.aload_n 0, 1) := by decide +kernel
theorem d22_1 : decode prog_76_method_26_code 1 = .ok (.getfield 179, 3) := by decide +kernel
theorem d22_4 : decode prog_76_method_26_code 4 = .ok (.ifCond .le 7, 3) := by decide +kernel
theorem d22_11 : decode prog_76_method_26_code 11 = .ok (.iconst 0, 1) := by decide +kernel
theorem d22_12 : decode prog_76_method_26_code 12 = .ok (.ireturn, 1) := by decide +kernel
theorem d22_7 : decode prog_76_method_26_code 7 = .ok (.iconst 1, 1) := by decide +kernel
theorem d22_8 : decode prog_76_method_26_code 8 = .ok (.goto 4, 3) := by decide +kernel
theorem ef_rmHi (m : MethodId) (x0 : Addr) : entryFrame m #[(.ref x0)] 1 = mkF m 0 #[.val (.ref x0)] [] := by first | (simp [entryFrame, mkF, argsToLocals, Value.category]; done) | rfl
def Q_rmHi (Z : State) (x0 : Addr) (nx0 cx0 dx0 : Int32) (h0 : Heap) (n0 : Nat) (v : Option Value) (h : Heap) (L : List Loc) : Prop := v = some (.int dx0) ∧ h = h0 ∧ L = []
set_option maxRecDepth 65536 in
set_option maxHeartbeats 40000000 in
theorem rmHi (l : Launch) (Z : State) (a0 : Array Value) (hw : ∀ d ∈ tables_1, d.before a0 Z = true) (ws : List Jvm.Cond) (x0 : Addr) (nx0 cx0 dx0 : Int32) (h0 : Heap) (n0 : Nat) (Z0 : n0 ≤ h0.size) (U_x0 : own_T Z n0 h0 x0 nx0 cx0 dx0) (hd : dx0 = 0 ∨ dx0 = 1) :
    MetFree l (⟨"com/example/otaniemi/otaniemi/State", "hasIds", "()Z"⟩ : MethodName) (head1 (Jvm.Cond.code (⟨"com/example/otaniemi/otaniemi/State", "hasIds", "()Z"⟩ : MethodName) prog_76_method_26_code 1 (some .boolean) :: ws) ({ frames := 0, cells := 0, slots := 0, locals := 0 } : Room)) (fun a U => a = #[(.ref x0)] ∧ Z.Warmed39 U.vm ∧ U.heap = h0) (fun _ _ _ _ _ => True) (fun _ U o U' => ∃ v L, o = .returned v ∧ Q_rmHi Z x0 nx0 cx0 dx0 h0 n0 v U'.heap L ∧ FrameEnd U o U' L ({ frames := 0, cells := 0, slots := 0, locals := 0 } : Room).cells ({ frames := 0, cells := 0, slots := 0, locals := 0 } : Room).slots) := by
  refine MetFree.of_bodySF (plainFor_of_name pn_39) hisR ?_
  intro p e s m args below meth c s₁ Bd hml0 hP hK
  obtain ⟨rfl, hZ, hh⟩ := hP
  have hx := Bd.exec
  have hby := Bd.bytes
  have hlk := Bd.notSynchronized
  have hml : c.maxLocals = 1 := hml0
  have hown : s.vm.findClass "com/example/otaniemi/otaniemi/State" = some m.cls := findClass_of_methodNamed Bd.named
  have hnm := (name_of_methodNamed Bd.named Bd.method).1
  have X0 : Stand p l e ({ frames := 0, cells := 0, slots := 0, locals := 0 } : Room) s m #[(.ref x0)] below meth c s₁ [] 0 0 := Stand.of_body Bd
  have e0 : s₁.heap = h0 := by rw [← hh, Bd.state]; rfl
  have N0 := Fr.nil n0
  change own_Go p e below s (Q_rmHi Z x0 nx0 cx0 dx0 h0 n0) ({ frames := 0, cells := 0, slots := 0, locals := 0 } : Room).cells ({ frames := 0, cells := 0, slots := 0, locals := 0 } : Room).slots _
  refine own_go (S' := (s₁.setTop (mkF m 0 #[.val (.ref x0)] []))) (fun _ kont => castTop (ef_rmHi m x0) kont) ?_
  rcases hd with rfl | rfl
  · obtain ⟨lx1, Ex1, Fn1, Fd1, Fi1, pp1, lp1, Fp1, Ep1, Fc1⟩ := id U_x0
    refine own_go (S' := (s₁.setTop (mkF m 1 #[.val (.ref x0)] [(.ref x0)]))) (fun _ kont => XS.aloadN X0.here hx rfl (hb hby d22_0) rfl rfl kont) ?_
    obtain ⟨T2, X2, e2, st2⟩ := getF X0 hx hZ hown (host := "") (Or.inl (oH hw 81 rfl)) Via.refl e0 Fi1 (g := (mkF m 1 #[.val (.ref x0)] [(.ref x0)])) rfl rfl (hb hby d22_1)
    refine own_go (S' := (T2.setTop (mkF m 4 #[.val (.ref x0)] [(.int 0)]))) st2 ?_
    refine own_go (S' := (T2.setTop (mkF m 12 #[.val (.ref x0)] [(.int 0)]))) (fun _ kont => XS.ifYes X2.here hx rfl (pc0 := 4) (pc' := 11) rfl (hb hby d22_4) rfl ((if0 _ _).trans (flt (by decide)).2.2.2) (by decide) (by decide) (XS.iconst X2.here hx rfl (hb hby d22_11) kont)) ?_
    refine own_retN (t := .boolean) X2 hx hlk (by simp) Bd.returns (hb hby d22_12) (by decide) (by decide) ?_
    exact ⟨rfl, e2, rfl⟩
  · obtain ⟨lx3, Ex3, Fn3, Fd3, Fi3, pp3, lp3, Fp3, Ep3, Fc3⟩ := id U_x0
    refine own_go (S' := (s₁.setTop (mkF m 1 #[.val (.ref x0)] [(.ref x0)]))) (fun _ kont => XS.aloadN X0.here hx rfl (hb hby d22_0) rfl rfl kont) ?_
    obtain ⟨T4, X4, e4, st4⟩ := getF X0 hx hZ hown (host := "") (Or.inl (oH hw 81 rfl)) Via.refl e0 Fi3 (g := (mkF m 1 #[.val (.ref x0)] [(.ref x0)])) rfl rfl (hb hby d22_1)
    refine own_go (S' := (T4.setTop (mkF m 4 #[.val (.ref x0)] [(.int 1)]))) st4 ?_
    refine own_go (S' := (T4.setTop (mkF m 12 #[.val (.ref x0)] [(.int 1)]))) (fun _ kont => XS.ifNo X4.here hx rfl (hb hby d22_4) rfl ((if0 _ _).trans (tlt (by decide)).2.2.2) (XS.iconst X4.here hx rfl (hb hby d22_7) (XS.goto X4.here hx rfl (pc0 := 8) (pc' := 12) rfl (hb hby d22_8) (by decide) (by decide) kont))) ?_
    refine own_retN (t := .boolean) X4 hx hlk (by simp) Bd.returns (hb hby d22_12) (by decide) (by decide) ?_
    exact ⟨rfl, e4, rfl⟩
theorem d21_0 : decode prog_76_method_25_code 0 = .ok (.aload_n 0, 1) := by decide +kernel
theorem d21_1 : decode prog_76_method_25_code 1 = .ok (.invokevirtual 170, 3) := by decide +kernel
theorem d21_4 : decode prog_76_method_25_code 4 = .ok (.ifCond .ne 18, 3) := by decide +kernel
theorem d21_7 : decode prog_76_method_25_code 7 = .ok (.aload_n 0, 1) := by decide +kernel
theorem d21_8 : decode prog_76_method_25_code 8 = .ok (.getfield 167, 3) := by decide +kernel
theorem d21_11 : decode prog_76_method_25_code 11 = .ok (.ifCond .le 15, 3) := by decide +kernel
theorem d21_26 : decode prog_76_method_25_code 26 = .ok (.iconst 0, 1) := by decide +kernel
theorem d21_27 : decode prog_76_method_25_code 27 = .ok (.ireturn, 1) := by decide +kernel
theorem d21_22 : decode prog_76_method_25_code 22 = .ok (.iconst 1, 1) := by decide +kernel
theorem d21_23 : decode prog_76_method_25_code 23 = .ok (.goto 4, 3) := by decide +kernel
theorem ef_rmEa (m : MethodId) (x0 : Addr) (x1 : Int32) : entryFrame m #[(.ref x0), (.int x1)] 2 = mkF m 0 #[.val (.ref x0), .val (.int x1)] [] := by first | (simp [entryFrame, mkF, argsToLocals, Value.category]; done) | rfl
def Q_rmEa (Z : State) (x0 : Addr) (gd : Int32) (nx0 cx0 dx0 : Int32) (h0 : Heap) (n0 : Nat) (v : Option Value) (h : Heap) (L : List Loc) : Prop := v = some (.int dx0) ∧ h = h0 ∧ L = []
set_option maxRecDepth 65536 in
set_option maxHeartbeats 40000000 in
theorem rmEa (l : Launch) (Z : State) (a0 : Array Value) (hw : ∀ d ∈ tables_1, d.before a0 Z = true) (ws : List Jvm.Cond) (x0 : Addr) (gd : Int32) (nx0 cx0 dx0 : Int32) (h0 : Heap) (n0 : Nat) (Z0 : n0 ≤ h0.size) (U_x0 : own_T Z n0 h0 x0 nx0 cx0 dx0) (hd : dx0 = 0 ∨ dx0 = 1) :
    MetFree l (⟨"com/example/otaniemi/otaniemi/State", "isEndAbove", "(I)Z"⟩ : MethodName) (head1 (Jvm.Cond.code (⟨"com/example/otaniemi/otaniemi/State", "isEndAbove", "(I)Z"⟩ : MethodName) prog_76_method_25_code 2 (some .boolean) :: ws) ({ frames := 1, cells := 0, slots := 0, locals := 12 } : Room)) (fun a U => a = #[(.ref x0), (.int gd)] ∧ Z.Warmed39 U.vm ∧ U.heap = h0) (fun _ _ _ _ _ => True) (fun _ U o U' => ∃ v L, o = .returned v ∧ Q_rmEa Z x0 gd nx0 cx0 dx0 h0 n0 v U'.heap L ∧ FrameEnd U o U' L ({ frames := 1, cells := 0, slots := 0, locals := 12 } : Room).cells ({ frames := 1, cells := 0, slots := 0, locals := 12 } : Room).slots) := by
  refine MetFree.of_bodySF (plainFor_of_name pn_39) hisR ?_
  intro p e s m args below meth c s₁ Bd hml0 hP hK
  obtain ⟨rfl, hZ, hh⟩ := hP
  have hx := Bd.exec
  have hby := Bd.bytes
  have hlk := Bd.notSynchronized
  have hml : c.maxLocals = 2 := hml0
  have hown : s.vm.findClass "com/example/otaniemi/otaniemi/State" = some m.cls := findClass_of_methodNamed Bd.named
  have hnm := (name_of_methodNamed Bd.named Bd.method).1
  have X0 : Stand p l e ({ frames := 1, cells := 0, slots := 0, locals := 12 } : Room) s m #[(.ref x0), (.int gd)] below meth c s₁ [] 0 0 := Stand.of_body Bd
  have e0 : s₁.heap = h0 := by rw [← hh, Bd.state]; rfl
  have N0 := Fr.nil n0
  change own_Go p e below s (Q_rmEa Z x0 gd nx0 cx0 dx0 h0 n0) ({ frames := 1, cells := 0, slots := 0, locals := 12 } : Room).cells ({ frames := 1, cells := 0, slots := 0, locals := 12 } : Room).slots _
  refine own_go (S' := (s₁.setTop (mkF m 0 #[.val (.ref x0), .val (.int gd)] []))) (fun _ kont => castTop (ef_rmEa m x0 gd) kont) ?_
  rcases hd with rfl | rfl
  · obtain ⟨lx1, Ex1, Fn1, Fd1, Fi1, pp1, lp1, Fp1, Ep1, Fc1⟩ := id U_x0
    refine own_go (S' := (s₁.setTop (mkF m 1 #[.val (.ref x0), .val (.int gd)] [(.ref x0)]))) (fun _ kont => XS.aloadN X0.here hx rfl (hb hby d21_0) rfl rfl kont) ?_
    obtain ⟨cq2, kq2, q2a, q2b, q2c⟩ := isOf hZ e0 Ex1
    obtain ⟨v2, _, ⟨T2, L2, k2, n2⟩, -, X2, ⟨Lc2, hQ2, l2, y2, z2⟩, st2⟩ := X0.virtualBack hx (y := (⟨"com/example/otaniemi/otaniemi/State", "hasIds", "()Z"⟩ : MethodName)) (z := (⟨"com/example/otaniemi/otaniemi/State", "hasIds", "()Z"⟩ : MethodName)) hown (mvT hZ (oH hw 145 rfl)) (mvT hZ (oH hw 146 rfl)) (notFace_of_selects (args := #[]) (mvT hZ (oH hw 148 rfl))) (mvT hZ (oH hw 148 rfl)) (mvT hZ (oH hw 147 rfl)) (by decide) (backOf (W := 0) (rmHi l Z a0 hw [] x0 nx0 cx0 (0 : Int32) h0 n0 Z0 U_x0 (by decide)) hZ (oH hw 149 rfl) (oH hw 2 rfl) (by decide) (by decide)) q2a q2c (g := (mkF m 1 #[.val (.ref x0), .val (.int gd)] [(.ref x0)])) rfl (by rw [hml]; rfl) (Steps.refl _) (argsL := []) (rest := []) (lenOf pd_144 rfl) rfl (by show 2 * 0 + _ ≤ _; exact Nat.le_of_eq rfl) (hb hby d21_1) (fun _ _ => ⟨rfl, e0, (by decide : 0 + 0 ≤ _), (by decide : 0 + 0 ≤ _)⟩)
    dsimp only [Pt.U, Pt.locs, Pt.cells, Pt.slots] at X2 l2 y2 z2 st2 hQ2
    subst l2 y2 z2
    obtain ⟨rfl, eh2, rfl⟩ := hQ2
    have N2 := Fr.app N0 (Fr.nil n0)
    refine own_goT (S' := (T2.setTop (mkF m 4 #[.val (.ref x0), .val (.int gd)] [(.int 0)]))) st2 ?_
    refine own_go (S' := (T2.setTop (mkF m 8 #[.val (.ref x0), .val (.int gd)] [(.ref x0)]))) (fun _ kont => XS.ifNo X2.here hx rfl (hb hby d21_4) rfl ((if0 _ _).trans (teq (by decide)).2) (XS.aloadN X2.here hx rfl (hb hby d21_7) rfl rfl kont)) ?_
    obtain ⟨T3, X3, e3, st3⟩ := getF X2 hx hZ hown (host := "") (Or.inl (oH hw 154 rfl)) Via.refl eh2 Fd1 (g := (mkF m 8 #[.val (.ref x0), .val (.int gd)] [(.ref x0)])) rfl rfl (hb hby d21_8)
    refine own_go (S' := (T3.setTop (mkF m 11 #[.val (.ref x0), .val (.int gd)] [(.int 0)]))) st3 ?_
    refine own_go (S' := (T3.setTop (mkF m 27 #[.val (.ref x0), .val (.int gd)] [(.int 0)]))) (fun _ kont => XS.ifYes X3.here hx rfl (pc0 := 11) (pc' := 26) rfl (hb hby d21_11) rfl ((if0 _ _).trans (flt (by decide)).2.2.2) (by decide) (by decide) (XS.iconst X3.here hx rfl (hb hby d21_26) kont)) ?_
    refine own_retN (t := .boolean) X3 hx hlk (by simp) Bd.returns (hb hby d21_27) (by decide) (by decide) ?_
    exact ⟨rfl, e3, rfl⟩
  · obtain ⟨lx4, Ex4, Fn4, Fd4, Fi4, pp4, lp4, Fp4, Ep4, Fc4⟩ := id U_x0
    refine own_go (S' := (s₁.setTop (mkF m 1 #[.val (.ref x0), .val (.int gd)] [(.ref x0)]))) (fun _ kont => XS.aloadN X0.here hx rfl (hb hby d21_0) rfl rfl kont) ?_
    obtain ⟨cq5, kq5, q5a, q5b, q5c⟩ := isOf hZ e0 Ex4
    obtain ⟨v5, _, ⟨T5, L5, k5, n5⟩, -, X5, ⟨Lc5, hQ5, l5, y5, z5⟩, st5⟩ := X0.virtualBack hx (y := (⟨"com/example/otaniemi/otaniemi/State", "hasIds", "()Z"⟩ : MethodName)) (z := (⟨"com/example/otaniemi/otaniemi/State", "hasIds", "()Z"⟩ : MethodName)) hown (mvT hZ (oH hw 145 rfl)) (mvT hZ (oH hw 146 rfl)) (notFace_of_selects (args := #[]) (mvT hZ (oH hw 148 rfl))) (mvT hZ (oH hw 148 rfl)) (mvT hZ (oH hw 147 rfl)) (by decide) (backOf (W := 0) (rmHi l Z a0 hw [] x0 nx0 cx0 (1 : Int32) h0 n0 Z0 U_x0 (by decide)) hZ (oH hw 149 rfl) (oH hw 2 rfl) (by decide) (by decide)) q5a q5c (g := (mkF m 1 #[.val (.ref x0), .val (.int gd)] [(.ref x0)])) rfl (by rw [hml]; rfl) (Steps.refl _) (argsL := []) (rest := []) (lenOf pd_144 rfl) rfl (by show 2 * 0 + _ ≤ _; exact Nat.le_of_eq rfl) (hb hby d21_1) (fun _ _ => ⟨rfl, e0, (by decide : 0 + 0 ≤ _), (by decide : 0 + 0 ≤ _)⟩)
    dsimp only [Pt.U, Pt.locs, Pt.cells, Pt.slots] at X5 l5 y5 z5 st5 hQ5
    subst l5 y5 z5
    obtain ⟨rfl, eh5, rfl⟩ := hQ5
    have N5 := Fr.app N0 (Fr.nil n0)
    refine own_goT (S' := (T5.setTop (mkF m 4 #[.val (.ref x0), .val (.int gd)] [(.int 1)]))) st5 ?_
    refine own_go (S' := (T5.setTop (mkF m 27 #[.val (.ref x0), .val (.int gd)] [(.int 1)]))) (fun _ kont => XS.ifYes X5.here hx rfl (pc0 := 4) (pc' := 22) rfl (hb hby d21_4) rfl ((if0 _ _).trans (feq (by decide)).2) (by decide) (by decide) (XS.iconst X5.here hx rfl (hb hby d21_22) (XS.goto X5.here hx rfl (pc0 := 23) (pc' := 27) rfl (hb hby d21_23) (by decide) (by decide) kont))) ?_
    refine own_retN (t := .boolean) X5 hx hlk (by simp) Bd.returns (hb hby d21_27) (by decide) (by decide) ?_
    exact ⟨rfl, eh5, rfl⟩
theorem d16_0 : decode prog_64_method_9_code 0 = .ok (.iconst (-1), 1) := by decide +kernel
theorem d16_1 : decode prog_64_method_9_code 1 = .ok (.istore_n 2, 1) := by decide +kernel
theorem d16_2 : decode prog_64_method_9_code 2 = .ok (.iconst 0, 1) := by decide +kernel
theorem d16_3 : decode prog_64_method_9_code 3 = .ok (.istore_n 3, 1) := by decide +kernel
theorem d16_4 : decode prog_64_method_9_code 4 = .ok (.iload_n 3, 1) := by decide +kernel
theorem d16_5 : decode prog_64_method_9_code 5 = .ok (.aload_n 0, 1) := by decide +kernel
theorem d16_6 : decode prog_64_method_9_code 6 = .ok (.getfield 15, 3) := by decide +kernel
theorem d16_9 : decode prog_64_method_9_code 9 = .ok (.if_icmp .ge 25, 3) := by decide +kernel
theorem d16_34 : decode prog_64_method_9_code 34 = .ok (.iload_n 2, 1) := by decide +kernel
theorem d16_35 : decode prog_64_method_9_code 35 = .ok (.ireturn, 1) := by decide +kernel
theorem ef_rmIx0 (m : MethodId) (x0 : Addr) (x1 : Addr) : entryFrame m #[(.ref x0), (.ref x1)] 4 = mkF m 0 #[.val (.ref x0), .val (.ref x1), .unset, .unset] [] := by first | (simp [entryFrame, mkF, argsToLocals, Value.category]; done) | rfl
def Q_rmIx0 (Z : State) (p0 fa x0 y0 : Addr) (kf : ClassId) (f1 : Value) (h0 : Heap) (n0 : Nat) (v : Option Value) (h : Heap) (L : List Loc) : Prop := v = some (.int (-1 : Int32)) ∧ h = h0 ∧ L = []
set_option maxRecDepth 65536 in
set_option maxHeartbeats 40000000 in
theorem rmIx0 (l : Launch) (Z : State) (a0 : Array Value) (hw : ∀ d ∈ tables_1, d.before a0 Z = true) (ws : List Jvm.Cond) (p0 fa x0 y0 : Addr) (kf : ClassId) (f1 : Value) (h0 : Heap) (n0 : Nat) (Z0 : n0 ≤ h0.size) (E_p0 : Exa Z h0 p0 "com/example/otaniemi/otaniemi/Pending") (F_p0_found : Fld Z h0 p0 "com/example/otaniemi/otaniemi/Pending" "found" "[Lcom/example/otaniemi/otaniemi/State;" (.ref fa)) (F_p0_foundCount : Fld Z h0 p0 "com/example/otaniemi/otaniemi/Pending" "foundCount" "I" (.int 0)) :
    MetFree l (⟨"com/example/otaniemi/otaniemi/Pending", "indexOf", "(Lcom/example/otaniemi/otaniemi/State;)I"⟩ : MethodName) (head1 (Jvm.Cond.code (⟨"com/example/otaniemi/otaniemi/Pending", "indexOf", "(Lcom/example/otaniemi/otaniemi/State;)I"⟩ : MethodName) prog_64_method_9_code 4 (some .int) :: ws) ({ frames := 0, cells := 0, slots := 0, locals := 0 } : Room)) (fun a U => a = #[(.ref p0), (.ref x0)] ∧ Z.Warmed39 U.vm ∧ U.heap = h0) (fun _ _ _ _ _ => True) (fun _ U o U' => ∃ v L, o = .returned v ∧ Q_rmIx0 Z p0 fa x0 y0 kf f1 h0 n0 v U'.heap L ∧ FrameEnd U o U' L ({ frames := 0, cells := 0, slots := 0, locals := 0 } : Room).cells ({ frames := 0, cells := 0, slots := 0, locals := 0 } : Room).slots) := by
  refine MetFree.of_bodySF (plainFor_of_name pn_151) hisR ?_
  intro p e s m args below meth c s₁ Bd hml0 hP hK
  obtain ⟨rfl, hZ, hh⟩ := hP
  have hx := Bd.exec
  have hby := Bd.bytes
  have hlk := Bd.notSynchronized
  have hml : c.maxLocals = 4 := hml0
  have hown : s.vm.findClass "com/example/otaniemi/otaniemi/Pending" = some m.cls := findClass_of_methodNamed Bd.named
  have hnm := (name_of_methodNamed Bd.named Bd.method).1
  have X0 : Stand p l e ({ frames := 0, cells := 0, slots := 0, locals := 0 } : Room) s m #[(.ref p0), (.ref x0)] below meth c s₁ [] 0 0 := Stand.of_body Bd
  have e0 : s₁.heap = h0 := by rw [← hh, Bd.state]; rfl
  have N0 := Fr.nil n0
  change own_Go p e below s (Q_rmIx0 Z p0 fa x0 y0 kf f1 h0 n0) ({ frames := 0, cells := 0, slots := 0, locals := 0 } : Room).cells ({ frames := 0, cells := 0, slots := 0, locals := 0 } : Room).slots _
  refine own_go (S' := (s₁.setTop (mkF m 0 #[.val (.ref p0), .val (.ref x0), .unset, .unset] []))) (fun _ kont => castTop (ef_rmIx0 m p0 x0) kont) ?_
  refine own_go (S' := (s₁.setTop (mkF m 6 #[.val (.ref p0), .val (.ref x0), .val (.int (-1 : Int32)), .val (.int 0)] [(.ref p0), (.int 0)]))) (fun _ kont => XS.iconst X0.here hx rfl (hb hby d16_0) (XS.istoreN X0.here hx rfl (hb hby d16_1) rfl (l' := #[.val (.ref p0), .val (.ref x0), .val (.int (-1 : Int32)), .unset]) rfl (XS.iconst X0.here hx rfl (hb hby d16_2) (XS.istoreN X0.here hx rfl (hb hby d16_3) rfl (l' := #[.val (.ref p0), .val (.ref x0), .val (.int (-1 : Int32)), .val (.int 0)]) rfl (XS.iloadN X0.here hx rfl (hb hby d16_4) rfl (XS.aloadN X0.here hx rfl (hb hby d16_5) rfl rfl kont)))))) ?_
  obtain ⟨T1, X1, e1, st1⟩ := getF X0 hx hZ hown (host := "") (Or.inl (oH hw 74 rfl)) Via.refl e0 F_p0_foundCount (g := (mkF m 6 #[.val (.ref p0), .val (.ref x0), .val (.int (-1 : Int32)), .val (.int 0)] [(.ref p0), (.int 0)])) rfl rfl (hb hby d16_6)
  refine own_go (S' := (T1.setTop (mkF m 9 #[.val (.ref p0), .val (.ref x0), .val (.int (-1 : Int32)), .val (.int 0)] [(.int 0), (.int 0)]))) st1 ?_
  refine own_go (S' := (T1.setTop (mkF m 35 #[.val (.ref p0), .val (.ref x0), .val (.int (-1 : Int32)), .val (.int 0)] [(.int (-1 : Int32))]))) (fun _ kont => XS.icmpYes X1.here hx rfl (pc0 := 9) (pc' := 34) rfl (hb hby d16_9) rfl (flt (by decide)).2.1 (by decide) (by decide) (XS.iloadN X1.here hx rfl (hb hby d16_34) rfl kont)) ?_
  refine own_retI X1 hx hlk Bd.returns (hb hby d16_35) (by decide) (by decide) ?_
  exact ⟨rfl, e1, rfl⟩
theorem d16_12 : decode prog_64_method_9_code 12 = .ok (.iload_n 2, 1) := by decide +kernel
theorem d16_13 : decode prog_64_method_9_code 13 = .ok (.ifCond .ge 21, 3) := by decide +kernel
theorem d16_16 : decode prog_64_method_9_code 16 = .ok (.aload_n 0, 1) := by decide +kernel
theorem d16_17 : decode prog_64_method_9_code 17 = .ok (.getfield 9, 3) := by decide +kernel
theorem d16_20 : decode prog_64_method_9_code 20 = .ok (.iload_n 3, 1) := by decide +kernel
theorem d16_21 : decode prog_64_method_9_code 21 = .ok (.aaload, 1) := by decide +kernel
theorem d16_22 : decode prog_64_method_9_code 22 = .ok (.aload_n 1, 1) := by decide +kernel
theorem d16_23 : decode prog_64_method_9_code 23 = .ok (.if_acmp .ne 5, 3) := by decide +kernel
theorem d16_26 : decode prog_64_method_9_code 26 = .ok (.iload_n 3, 1) := by decide +kernel
theorem d16_27 : decode prog_64_method_9_code 27 = .ok (.istore_n 2, 1) := by decide +kernel
theorem d16_28 : decode prog_64_method_9_code 28 = .ok (.iinc 3 1, 3) := by decide +kernel
theorem d16_31 : decode prog_64_method_9_code 31 = .ok (.goto (-27), 3) := by decide +kernel
theorem ef_rmIxs (m : MethodId) (x0 : Addr) (x1 : Addr) : entryFrame m #[(.ref x0), (.ref x1)] 4 = mkF m 0 #[.val (.ref x0), .val (.ref x1), .unset, .unset] [] := by first | (simp [entryFrame, mkF, argsToLocals, Value.category]; done) | rfl
def Q_rmIxs (Z : State) (p0 fa x0 y0 : Addr) (kf : ClassId) (f1 : Value) (h0 : Heap) (n0 : Nat) (v : Option Value) (h : Heap) (L : List Loc) : Prop := v = some (.int 0) ∧ h = h0 ∧ L = []
set_option maxRecDepth 65536 in
set_option maxHeartbeats 40000000 in
theorem rmIxs (l : Launch) (Z : State) (a0 : Array Value) (hw : ∀ d ∈ tables_1, d.before a0 Z = true) (ws : List Jvm.Cond) (p0 fa x0 y0 : Addr) (kf : ClassId) (f1 : Value) (h0 : Heap) (n0 : Nat) (Z0 : n0 ≤ h0.size) (E_p0 : Exa Z h0 p0 "com/example/otaniemi/otaniemi/Pending") (F_p0_found : Fld Z h0 p0 "com/example/otaniemi/otaniemi/Pending" "found" "[Lcom/example/otaniemi/otaniemi/State;" (.ref fa)) (F_p0_foundCount : Fld Z h0 p0 "com/example/otaniemi/otaniemi/Pending" "foundCount" "I" (.int 1)) (V_fa : Arv Z h0 fa kf (.object "com/example/otaniemi/otaniemi/State") (4 : Int32) [(.ref x0), f1] .null) :
    MetFree l (⟨"com/example/otaniemi/otaniemi/Pending", "indexOf", "(Lcom/example/otaniemi/otaniemi/State;)I"⟩ : MethodName) (head1 (Jvm.Cond.code (⟨"com/example/otaniemi/otaniemi/Pending", "indexOf", "(Lcom/example/otaniemi/otaniemi/State;)I"⟩ : MethodName) prog_64_method_9_code 4 (some .int) :: ws) ({ frames := 0, cells := 0, slots := 0, locals := 0 } : Room)) (fun a U => a = #[(.ref p0), (.ref x0)] ∧ Z.Warmed39 U.vm ∧ U.heap = h0) (fun _ _ _ _ _ => True) (fun _ U o U' => ∃ v L, o = .returned v ∧ Q_rmIxs Z p0 fa x0 y0 kf f1 h0 n0 v U'.heap L ∧ FrameEnd U o U' L ({ frames := 0, cells := 0, slots := 0, locals := 0 } : Room).cells ({ frames := 0, cells := 0, slots := 0, locals := 0 } : Room).slots) := by
  refine MetFree.of_bodySF (plainFor_of_name pn_151) hisR ?_
  intro p e s m args below meth c s₁ Bd hml0 hP hK
  obtain ⟨rfl, hZ, hh⟩ := hP
  have hx := Bd.exec
  have hby := Bd.bytes
  have hlk := Bd.notSynchronized
  have hml : c.maxLocals = 4 := hml0
  have hown : s.vm.findClass "com/example/otaniemi/otaniemi/Pending" = some m.cls := findClass_of_methodNamed Bd.named
  have hnm := (name_of_methodNamed Bd.named Bd.method).1
  have X0 : Stand p l e ({ frames := 0, cells := 0, slots := 0, locals := 0 } : Room) s m #[(.ref p0), (.ref x0)] below meth c s₁ [] 0 0 := Stand.of_body Bd
  have e0 : s₁.heap = h0 := by rw [← hh, Bd.state]; rfl
  have N0 := Fr.nil n0
  change own_Go p e below s (Q_rmIxs Z p0 fa x0 y0 kf f1 h0 n0) ({ frames := 0, cells := 0, slots := 0, locals := 0 } : Room).cells ({ frames := 0, cells := 0, slots := 0, locals := 0 } : Room).slots _
  refine own_go (S' := (s₁.setTop (mkF m 0 #[.val (.ref p0), .val (.ref x0), .unset, .unset] []))) (fun _ kont => castTop (ef_rmIxs m p0 x0) kont) ?_
  refine own_go (S' := (s₁.setTop (mkF m 6 #[.val (.ref p0), .val (.ref x0), .val (.int (-1 : Int32)), .val (.int 0)] [(.ref p0), (.int 0)]))) (fun _ kont => XS.iconst X0.here hx rfl (hb hby d16_0) (XS.istoreN X0.here hx rfl (hb hby d16_1) rfl (l' := #[.val (.ref p0), .val (.ref x0), .val (.int (-1 : Int32)), .unset]) rfl (XS.iconst X0.here hx rfl (hb hby d16_2) (XS.istoreN X0.here hx rfl (hb hby d16_3) rfl (l' := #[.val (.ref p0), .val (.ref x0), .val (.int (-1 : Int32)), .val (.int 0)]) rfl (XS.iloadN X0.here hx rfl (hb hby d16_4) rfl (XS.aloadN X0.here hx rfl (hb hby d16_5) rfl rfl kont)))))) ?_
  obtain ⟨T1, X1, e1, st1⟩ := getF X0 hx hZ hown (host := "") (Or.inl (oH hw 74 rfl)) Via.refl e0 F_p0_foundCount (g := (mkF m 6 #[.val (.ref p0), .val (.ref x0), .val (.int (-1 : Int32)), .val (.int 0)] [(.ref p0), (.int 0)])) rfl rfl (hb hby d16_6)
  refine own_go (S' := (T1.setTop (mkF m 9 #[.val (.ref p0), .val (.ref x0), .val (.int (-1 : Int32)), .val (.int 0)] [(.int 1), (.int 0)]))) st1 ?_
  refine own_go (S' := (T1.setTop (mkF m 17 #[.val (.ref p0), .val (.ref x0), .val (.int (-1 : Int32)), .val (.int 0)] [(.ref p0)]))) (fun _ kont => XS.icmpNo X1.here hx rfl (hb hby d16_9) rfl (tlt (by decide)).2.1 (XS.iloadN X1.here hx rfl (hb hby d16_12) rfl (XS.ifNo X1.here hx rfl (hb hby d16_13) rfl ((if0 _ _).trans (tlt (by decide)).2.1) (XS.aloadN X1.here hx rfl (hb hby d16_16) rfl rfl kont)))) ?_
  obtain ⟨T2, X2, e2, st2⟩ := getF X1 hx hZ hown (host := "") (Or.inl (oH hw 63 rfl)) Via.refl e1 F_p0_found (g := (mkF m 17 #[.val (.ref p0), .val (.ref x0), .val (.int (-1 : Int32)), .val (.int 0)] [(.ref p0)])) rfl rfl (hb hby d16_17)
  refine own_go (S' := (T2.setTop (mkF m 20 #[.val (.ref p0), .val (.ref x0), .val (.int (-1 : Int32)), .val (.int 0)] [(.ref fa)]))) st2 ?_
  refine own_go (S' := (T2.setTop (mkF m 21 #[.val (.ref p0), .val (.ref x0), .val (.int (-1 : Int32)), .val (.int 0)] [(.int 0), (.ref fa)]))) (fun _ kont => XS.iloadN X2.here hx rfl (hb hby d16_20) rfl kont) ?_
  obtain ⟨cl3, Ar3, -, S3, -, H3, -⟩ := id V_fa
  have hin3 := inb_of (j := (0 : Int32)) S3 ⟨by decide, by decide⟩
  have hat3 := Has.at (v := (.ref x0)) H3 hin3 (by first | rfl | decide)
  refine own_go (S' := (T2.setTop (mkF m 22 #[.val (.ref p0), .val (.ref x0), .val (.int (-1 : Int32)), .val (.int 0)] [(.ref x0)]))) (fun _ kont => X2.aaload hx (j := (0 : Int32)) (v := (.ref x0)) (by rw [e2]; exact Ar3.1) (State.isArrayOf_alike hZ.alike Ar3.2.1) rfl Ar3.2.2 hin3 hat3 (g := (mkF m 21 #[.val (.ref p0), .val (.ref x0), .val (.int (-1 : Int32)), .val (.int 0)] [(.int 0), (.ref fa)])) rfl rfl (hb hby d16_21) _ kont) ?_
  refine own_go (S' := (T2.setTop (mkF m 31 #[.val (.ref p0), .val (.ref x0), .val (.int 0), .val (.int ((0 : Int32) + (1 : Int32)))] []))) (fun _ kont => XS.aloadN X2.here hx rfl (hb hby d16_22) rfl rfl (Jvm.RoadKit.acmp (g := (mkF m 23 #[.val (.ref p0), .val (.ref x0), .val (.int (-1 : Int32)), .val (.int 0)] [(.ref x0), (.ref x0)])) X2 hx rfl rfl rfl (pc0 := 23) (pc' := 26) (same := true) rfl (hb hby d16_23) rfl (decide_eq_true rfl) (by decide) (by decide) (XS.iloadN X2.here hx rfl (hb hby d16_26) rfl (XS.istoreN X2.here hx rfl (hb hby d16_27) rfl (l' := #[.val (.ref p0), .val (.ref x0), .val (.int 0), .val (.int 0)]) rfl (XS.iinc X2.here hx rfl (hb hby d16_28) rfl (l' := #[.val (.ref p0), .val (.ref x0), .val (.int 0), .val (.int ((0 : Int32) + (1 : Int32)))]) rfl kont))))) ?_
  rw [show ((0 : Int32) + (1 : Int32)) = (1 : Int32) from by decide]
  refine own_go (S' := (T2.setTop (mkF m 6 #[.val (.ref p0), .val (.ref x0), .val (.int 0), .val (.int 1)] [(.ref p0), (.int 1)]))) (fun _ kont => XS.goto X2.here hx rfl (pc0 := 31) (pc' := 4) rfl (hb hby d16_31) (by decide) (by decide) (XS.iloadN X2.here hx rfl (hb hby d16_4) rfl (XS.aloadN X2.here hx rfl (hb hby d16_5) rfl rfl kont))) ?_
  obtain ⟨T4, X4, e4, st4⟩ := getF X2 hx hZ hown (host := "") (Or.inl (oH hw 74 rfl)) Via.refl e2 F_p0_foundCount (g := (mkF m 6 #[.val (.ref p0), .val (.ref x0), .val (.int 0), .val (.int 1)] [(.ref p0), (.int 1)])) rfl rfl (hb hby d16_6)
  refine own_go (S' := (T4.setTop (mkF m 9 #[.val (.ref p0), .val (.ref x0), .val (.int 0), .val (.int 1)] [(.int 1), (.int 1)]))) st4 ?_
  refine own_go (S' := (T4.setTop (mkF m 35 #[.val (.ref p0), .val (.ref x0), .val (.int 0), .val (.int 1)] [(.int 0)]))) (fun _ kont => XS.icmpYes X4.here hx rfl (pc0 := 9) (pc' := 34) rfl (hb hby d16_9) rfl (flt (by decide)).2.1 (by decide) (by decide) (XS.iloadN X4.here hx rfl (hb hby d16_34) rfl kont)) ?_
  refine own_retI X4 hx hlk Bd.returns (hb hby d16_35) (by decide) (by decide) ?_
  exact ⟨rfl, e4, rfl⟩
theorem ef_rmIxd (m : MethodId) (x0 : Addr) (x1 : Addr) : entryFrame m #[(.ref x0), (.ref x1)] 4 = mkF m 0 #[.val (.ref x0), .val (.ref x1), .unset, .unset] [] := by first | (simp [entryFrame, mkF, argsToLocals, Value.category]; done) | rfl
def Q_rmIxd (Z : State) (p0 fa x0 y0 : Addr) (kf : ClassId) (f1 : Value) (h0 : Heap) (n0 : Nat) (v : Option Value) (h : Heap) (L : List Loc) : Prop := v = some (.int (-1 : Int32)) ∧ h = h0 ∧ L = []
set_option maxRecDepth 65536 in
set_option maxHeartbeats 40000000 in
theorem rmIxd (l : Launch) (Z : State) (a0 : Array Value) (hw : ∀ d ∈ tables_1, d.before a0 Z = true) (ws : List Jvm.Cond) (p0 fa x0 y0 : Addr) (kf : ClassId) (f1 : Value) (h0 : Heap) (n0 : Nat) (Z0 : n0 ≤ h0.size) (E_p0 : Exa Z h0 p0 "com/example/otaniemi/otaniemi/Pending") (F_p0_found : Fld Z h0 p0 "com/example/otaniemi/otaniemi/Pending" "found" "[Lcom/example/otaniemi/otaniemi/State;" (.ref fa)) (F_p0_foundCount : Fld Z h0 p0 "com/example/otaniemi/otaniemi/Pending" "foundCount" "I" (.int 1)) (V_fa : Arv Z h0 fa kf (.object "com/example/otaniemi/otaniemi/State") (4 : Int32) [(.ref y0), f1] .null) (hne : y0 ≠ x0) :
    MetFree l (⟨"com/example/otaniemi/otaniemi/Pending", "indexOf", "(Lcom/example/otaniemi/otaniemi/State;)I"⟩ : MethodName) (head1 (Jvm.Cond.code (⟨"com/example/otaniemi/otaniemi/Pending", "indexOf", "(Lcom/example/otaniemi/otaniemi/State;)I"⟩ : MethodName) prog_64_method_9_code 4 (some .int) :: ws) ({ frames := 0, cells := 0, slots := 0, locals := 0 } : Room)) (fun a U => a = #[(.ref p0), (.ref x0)] ∧ Z.Warmed39 U.vm ∧ U.heap = h0) (fun _ _ _ _ _ => True) (fun _ U o U' => ∃ v L, o = .returned v ∧ Q_rmIxd Z p0 fa x0 y0 kf f1 h0 n0 v U'.heap L ∧ FrameEnd U o U' L ({ frames := 0, cells := 0, slots := 0, locals := 0 } : Room).cells ({ frames := 0, cells := 0, slots := 0, locals := 0 } : Room).slots) := by
  refine MetFree.of_bodySF (plainFor_of_name pn_151) hisR ?_
  intro p e s m args below meth c s₁ Bd hml0 hP hK
  obtain ⟨rfl, hZ, hh⟩ := hP
  have hx := Bd.exec
  have hby := Bd.bytes
  have hlk := Bd.notSynchronized
  have hml : c.maxLocals = 4 := hml0
  have hown : s.vm.findClass "com/example/otaniemi/otaniemi/Pending" = some m.cls := findClass_of_methodNamed Bd.named
  have hnm := (name_of_methodNamed Bd.named Bd.method).1
  have X0 : Stand p l e ({ frames := 0, cells := 0, slots := 0, locals := 0 } : Room) s m #[(.ref p0), (.ref x0)] below meth c s₁ [] 0 0 := Stand.of_body Bd
  have e0 : s₁.heap = h0 := by rw [← hh, Bd.state]; rfl
  have N0 := Fr.nil n0
  change own_Go p e below s (Q_rmIxd Z p0 fa x0 y0 kf f1 h0 n0) ({ frames := 0, cells := 0, slots := 0, locals := 0 } : Room).cells ({ frames := 0, cells := 0, slots := 0, locals := 0 } : Room).slots _
  refine own_go (S' := (s₁.setTop (mkF m 0 #[.val (.ref p0), .val (.ref x0), .unset, .unset] []))) (fun _ kont => castTop (ef_rmIxd m p0 x0) kont) ?_
  refine own_go (S' := (s₁.setTop (mkF m 6 #[.val (.ref p0), .val (.ref x0), .val (.int (-1 : Int32)), .val (.int 0)] [(.ref p0), (.int 0)]))) (fun _ kont => XS.iconst X0.here hx rfl (hb hby d16_0) (XS.istoreN X0.here hx rfl (hb hby d16_1) rfl (l' := #[.val (.ref p0), .val (.ref x0), .val (.int (-1 : Int32)), .unset]) rfl (XS.iconst X0.here hx rfl (hb hby d16_2) (XS.istoreN X0.here hx rfl (hb hby d16_3) rfl (l' := #[.val (.ref p0), .val (.ref x0), .val (.int (-1 : Int32)), .val (.int 0)]) rfl (XS.iloadN X0.here hx rfl (hb hby d16_4) rfl (XS.aloadN X0.here hx rfl (hb hby d16_5) rfl rfl kont)))))) ?_
  obtain ⟨T1, X1, e1, st1⟩ := getF X0 hx hZ hown (host := "") (Or.inl (oH hw 74 rfl)) Via.refl e0 F_p0_foundCount (g := (mkF m 6 #[.val (.ref p0), .val (.ref x0), .val (.int (-1 : Int32)), .val (.int 0)] [(.ref p0), (.int 0)])) rfl rfl (hb hby d16_6)
  refine own_go (S' := (T1.setTop (mkF m 9 #[.val (.ref p0), .val (.ref x0), .val (.int (-1 : Int32)), .val (.int 0)] [(.int 1), (.int 0)]))) st1 ?_
  refine own_go (S' := (T1.setTop (mkF m 17 #[.val (.ref p0), .val (.ref x0), .val (.int (-1 : Int32)), .val (.int 0)] [(.ref p0)]))) (fun _ kont => XS.icmpNo X1.here hx rfl (hb hby d16_9) rfl (tlt (by decide)).2.1 (XS.iloadN X1.here hx rfl (hb hby d16_12) rfl (XS.ifNo X1.here hx rfl (hb hby d16_13) rfl ((if0 _ _).trans (tlt (by decide)).2.1) (XS.aloadN X1.here hx rfl (hb hby d16_16) rfl rfl kont)))) ?_
  obtain ⟨T2, X2, e2, st2⟩ := getF X1 hx hZ hown (host := "") (Or.inl (oH hw 63 rfl)) Via.refl e1 F_p0_found (g := (mkF m 17 #[.val (.ref p0), .val (.ref x0), .val (.int (-1 : Int32)), .val (.int 0)] [(.ref p0)])) rfl rfl (hb hby d16_17)
  refine own_go (S' := (T2.setTop (mkF m 20 #[.val (.ref p0), .val (.ref x0), .val (.int (-1 : Int32)), .val (.int 0)] [(.ref fa)]))) st2 ?_
  refine own_go (S' := (T2.setTop (mkF m 21 #[.val (.ref p0), .val (.ref x0), .val (.int (-1 : Int32)), .val (.int 0)] [(.int 0), (.ref fa)]))) (fun _ kont => XS.iloadN X2.here hx rfl (hb hby d16_20) rfl kont) ?_
  obtain ⟨cl3, Ar3, -, S3, -, H3, -⟩ := id V_fa
  have hin3 := inb_of (j := (0 : Int32)) S3 ⟨by decide, by decide⟩
  have hat3 := Has.at (v := (.ref y0)) H3 hin3 (by first | rfl | decide)
  refine own_go (S' := (T2.setTop (mkF m 22 #[.val (.ref p0), .val (.ref x0), .val (.int (-1 : Int32)), .val (.int 0)] [(.ref y0)]))) (fun _ kont => X2.aaload hx (j := (0 : Int32)) (v := (.ref y0)) (by rw [e2]; exact Ar3.1) (State.isArrayOf_alike hZ.alike Ar3.2.1) rfl Ar3.2.2 hin3 hat3 (g := (mkF m 21 #[.val (.ref p0), .val (.ref x0), .val (.int (-1 : Int32)), .val (.int 0)] [(.int 0), (.ref fa)])) rfl rfl (hb hby d16_21) _ kont) ?_
  refine own_go (S' := (T2.setTop (mkF m 31 #[.val (.ref p0), .val (.ref x0), .val (.int (-1 : Int32)), .val (.int ((0 : Int32) + (1 : Int32)))] []))) (fun _ kont => XS.aloadN X2.here hx rfl (hb hby d16_22) rfl rfl (Jvm.RoadKit.acmp (g := (mkF m 23 #[.val (.ref p0), .val (.ref x0), .val (.int (-1 : Int32)), .val (.int 0)] [(.ref x0), (.ref y0)])) X2 hx rfl rfl rfl (pc0 := 23) (pc' := 28) (same := false) rfl (hb hby d16_23) rfl (decide_eq_false fun q => hne (Value.ref.inj q)) (by decide) (by decide) (XS.iinc X2.here hx rfl (hb hby d16_28) rfl (l' := #[.val (.ref p0), .val (.ref x0), .val (.int (-1 : Int32)), .val (.int ((0 : Int32) + (1 : Int32)))]) rfl kont))) ?_
  rw [show ((0 : Int32) + (1 : Int32)) = (1 : Int32) from by decide]
  refine own_go (S' := (T2.setTop (mkF m 6 #[.val (.ref p0), .val (.ref x0), .val (.int (-1 : Int32)), .val (.int 1)] [(.ref p0), (.int 1)]))) (fun _ kont => XS.goto X2.here hx rfl (pc0 := 31) (pc' := 4) rfl (hb hby d16_31) (by decide) (by decide) (XS.iloadN X2.here hx rfl (hb hby d16_4) rfl (XS.aloadN X2.here hx rfl (hb hby d16_5) rfl rfl kont))) ?_
  obtain ⟨T4, X4, e4, st4⟩ := getF X2 hx hZ hown (host := "") (Or.inl (oH hw 74 rfl)) Via.refl e2 F_p0_foundCount (g := (mkF m 6 #[.val (.ref p0), .val (.ref x0), .val (.int (-1 : Int32)), .val (.int 1)] [(.ref p0), (.int 1)])) rfl rfl (hb hby d16_6)
  refine own_go (S' := (T4.setTop (mkF m 9 #[.val (.ref p0), .val (.ref x0), .val (.int (-1 : Int32)), .val (.int 1)] [(.int 1), (.int 1)]))) st4 ?_
  refine own_go (S' := (T4.setTop (mkF m 35 #[.val (.ref p0), .val (.ref x0), .val (.int (-1 : Int32)), .val (.int 1)] [(.int (-1 : Int32))]))) (fun _ kont => XS.icmpYes X4.here hx rfl (pc0 := 9) (pc' := 34) rfl (hb hby d16_9) rfl (flt (by decide)).2.1 (by decide) (by decide) (XS.iloadN X4.here hx rfl (hb hby d16_34) rfl kont)) ?_
  refine own_retI X4 hx hlk Bd.returns (hb hby d16_35) (by decide) (by decide) ?_
  exact ⟨rfl, e4, rfl⟩
theorem d18_0 : decode prog_64_method_18_code 0 = .ok (.aload_n 0, 1) := by decide +kernel
theorem d18_1 : decode prog_64_method_18_code 1 = .ok (.getfield 19, 3) := by decide +kernel
theorem d18_4 : decode prog_64_method_18_code 4 = .ok (.ifnonnull 14, 3) := by decide +kernel
theorem d18_7 : decode prog_64_method_18_code 7 = .ok (.aload_n 0, 1) := by decide +kernel
theorem d18_8 : decode prog_64_method_18_code 8 = .ok (.aload_n 0, 1) := by decide +kernel
theorem d18_9 : decode prog_64_method_18_code 9 = .ok (.getfield 9, 3) := by decide +kernel
theorem d18_12 : decode prog_64_method_18_code 12 = .ok (.arraylength, 1) := by decide +kernel
theorem d18_13 : decode prog_64_method_18_code 13 = .ok (.newarray .long, 2) := by decide +kernel
theorem d18_15 : decode prog_64_method_18_code 15 = .ok (.putfield 19, 3) := by decide +kernel
theorem d18_18 : decode prog_64_method_18_code 18 = .ok (.return_, 1) := by decide +kernel
theorem ef_rmKvN (m : MethodId) (x0 : Addr) : entryFrame m #[(.ref x0)] 1 = mkF m 0 #[.val (.ref x0)] [] := by first | (simp [entryFrame, mkF, argsToLocals, Value.category]; done) | rfl
def Q_rmKvN (Z : State) (p0 fa : Addr) (kf : ClassId) (kc : Int32) (f0 : Value) (f1 : Value) (h0 : Heap) (n0 : Nat) (v : Option Value) (h : Heap) (L : List Loc) : Prop := ∃ va kv, v = none ∧ h0.size ≤ va ∧ Fr n0 L ∧ Keep h0 h [p0] ∧ Fld Z h p0 "com/example/otaniemi/otaniemi/Pending" "found" "[Lcom/example/otaniemi/otaniemi/State;" (.ref fa) ∧ Fld Z h p0 "com/example/otaniemi/otaniemi/Pending" "foundCount" "I" (.int kc) ∧ Fld Z h p0 "com/example/otaniemi/otaniemi/Pending" "passed" "Lcom/example/otaniemi/otaniemi/Pending$Passed;" .null ∧ Fld Z h p0 "com/example/otaniemi/otaniemi/Pending" "values" "[J" (.ref va) ∧ Arv Z h va kv .long (4 : Int32) [(.long 0), (.long 0)] (.long 0)
set_option maxRecDepth 65536 in
set_option maxHeartbeats 40000000 in
theorem rmKvN (l : Launch) (Z : State) (a0 : Array Value) (hw : ∀ d ∈ tables_1, d.before a0 Z = true) (ws : List Jvm.Cond) (p0 fa : Addr) (kf : ClassId) (kc : Int32) (f0 : Value) (f1 : Value) (h0 : Heap) (n0 : Nat) (Z0 : n0 ≤ h0.size) (E_p0 : Exa Z h0 p0 "com/example/otaniemi/otaniemi/Pending") (F_p0_found : Fld Z h0 p0 "com/example/otaniemi/otaniemi/Pending" "found" "[Lcom/example/otaniemi/otaniemi/State;" (.ref fa)) (F_p0_foundCount : Fld Z h0 p0 "com/example/otaniemi/otaniemi/Pending" "foundCount" "I" (.int kc)) (F_p0_passed : Fld Z h0 p0 "com/example/otaniemi/otaniemi/Pending" "passed" "Lcom/example/otaniemi/otaniemi/Pending$Passed;" .null) (F_p0_values : Fld Z h0 p0 "com/example/otaniemi/otaniemi/Pending" "values" "[J" .null) (g_p0 : n0 ≤ p0) (g_fa : n0 ≤ fa) (V_fa : Arv Z h0 fa kf (.object "com/example/otaniemi/otaniemi/State") (4 : Int32) [f0, f1] .null) (O_fa : Ovr Z kf "com/example/otaniemi/otaniemi/State") :
    MetFree l (⟨"com/example/otaniemi/otaniemi/Pending", "keepValues", "()V"⟩ : MethodName) (head1 (Jvm.Cond.code (⟨"com/example/otaniemi/otaniemi/Pending", "keepValues", "()V"⟩ : MethodName) prog_64_method_18_code 1 none :: ws) ({ frames := 0, cells := 1, slots := 4, locals := 0 } : Room)) (fun a U => a = #[(.ref p0)] ∧ Z.Warmed39 U.vm ∧ U.heap = h0) (fun _ _ _ _ _ => True) (fun _ U o U' => ∃ v L, o = .returned v ∧ Q_rmKvN Z p0 fa kf kc f0 f1 h0 n0 v U'.heap L ∧ FrameEnd U o U' L ({ frames := 0, cells := 1, slots := 4, locals := 0 } : Room).cells ({ frames := 0, cells := 1, slots := 4, locals := 0 } : Room).slots) := by
  refine MetFree.of_bodySF (plainFor_of_name pn_151) hisR ?_
  intro p e s m args below meth c s₁ Bd hml0 hP hK
  obtain ⟨rfl, hZ, hh⟩ := hP
  have hx := Bd.exec
  have hby := Bd.bytes
  have hlk := Bd.notSynchronized
  have hml : c.maxLocals = 1 := hml0
  have hown : s.vm.findClass "com/example/otaniemi/otaniemi/Pending" = some m.cls := findClass_of_methodNamed Bd.named
  have hnm := (name_of_methodNamed Bd.named Bd.method).1
  have X0 : Stand p l e ({ frames := 0, cells := 1, slots := 4, locals := 0 } : Room) s m #[(.ref p0)] below meth c s₁ [] 0 0 := Stand.of_body Bd
  have e0 : s₁.heap = h0 := by rw [← hh, Bd.state]; rfl
  have N0 := Fr.nil n0
  change own_Go p e below s (Q_rmKvN Z p0 fa kf kc f0 f1 h0 n0) ({ frames := 0, cells := 1, slots := 4, locals := 0 } : Room).cells ({ frames := 0, cells := 1, slots := 4, locals := 0 } : Room).slots _
  refine own_go (S' := (s₁.setTop (mkF m 0 #[.val (.ref p0)] []))) (fun _ kont => castTop (ef_rmKvN m p0) kont) ?_
  have npf := E_p0.neArv V_fa (oH hw 55 rfl)
  have K0 := Keep.refl h0 [p0]
  refine own_go (S' := (s₁.setTop (mkF m 1 #[.val (.ref p0)] [(.ref p0)]))) (fun _ kont => XS.aloadN X0.here hx rfl (hb hby d18_0) rfl rfl kont) ?_
  obtain ⟨T1, X1, e1, st1⟩ := getF X0 hx hZ hown (host := "") (Or.inl (oH hw 122 rfl)) Via.refl e0 F_p0_values (g := (mkF m 1 #[.val (.ref p0)] [(.ref p0)])) rfl rfl (hb hby d18_1)
  refine own_go (S' := (T1.setTop (mkF m 4 #[.val (.ref p0)] [.null]))) st1 ?_
  refine own_go (S' := (T1.setTop (mkF m 9 #[.val (.ref p0)] [(.ref p0), (.ref p0)]))) (fun _ kont => XS.ifnonnullNo X1.here hx rfl (hb hby d18_4) rfl (XS.aloadN X1.here hx rfl (hb hby d18_7) rfl rfl (XS.aloadN X1.here hx rfl (hb hby d18_8) rfl rfl kont))) ?_
  obtain ⟨T2, X2, e2, st2⟩ := getF X1 hx hZ hown (host := "") (Or.inl (oH hw 63 rfl)) Via.refl e1 F_p0_found (g := (mkF m 9 #[.val (.ref p0)] [(.ref p0), (.ref p0)])) rfl rfl (hb hby d18_9)
  refine own_go (S' := (T2.setTop (mkF m 12 #[.val (.ref p0)] [(.ref fa), (.ref p0)]))) st2 ?_
  obtain ⟨cl3, Ar3, -, S3, M3, -, -⟩ := id V_fa
  have ql3 := len_of S3 M3
  refine own_go (S' := (T2.setTop (mkF m 13 #[.val (.ref p0)] [(.int 4), (.ref p0)]))) (fun _ kont => X2.arraylength hx (by rw [e2]; exact Ar3.1) (State.isArrayOf_alike hZ.alike Ar3.2.1) (g := (mkF m 12 #[.val (.ref p0)] [(.ref fa), (.ref p0)])) rfl rfl (hb hby d18_12) _ (by rw [ql3]; exact kont)) ?_
  obtain ⟨T4, h4, k4, X4, e4, E4, A4, st4⟩ := newP X2 hx hZ (oH hw 131 rfl) e2 (g := (mkF m 13 #[.val (.ref p0)] [(.int 4), (.ref p0)])) rfl (hb hby d18_13) rfl (by decide) (cap := 4) (by decide) (by decide) (by decide) (by decide)
  obtain ⟨b4, gz4⟩ : ∃ z, z = h0.size := ⟨_, rfl⟩
  rw [← gz4] at A4 st4
  have sz_b4 : h0.size ≤ b4 := Nat.le_trans K0.1 (Nat.le_of_eq gz4.symm)
  have ne_p0_b4 : p0 ≠ b4 := Nat.ne_of_lt (by rw [gz4]; exact E_p0.lt)
  have ne_fa_b4 : fa ≠ b4 := Nat.ne_of_lt (by rw [gz4]; exact V_fa.lt)
  have c4_Ep0 := E_p0.ext E4
  have c4_Fp0_found := F_p0_found.ext E4
  have c4_Fp0_foundCount := F_p0_foundCount.ext E4
  have c4_Fp0_passed := F_p0_passed.ext E4
  have c4_Fp0_values := F_p0_values.ext E4
  have c4_Vfa := V_fa.ext E4
  have K4 := K0.ext E4
  have g_b4 : n0 ≤ b4 := Nat.le_trans Z0 (Nat.le_of_eq gz4.symm)
  have V4 := Arv.new A4 (by decide)
  have Z4 : n0 ≤ h4.size := Nat.le_trans Z0 E4.1
  refine own_go (S' := (T4.setTop (mkF m 15 #[.val (.ref p0)] [(.ref b4), (.ref p0)]))) st4 ?_
  have V5 : Arv Z h4 b4 k4 .long (4 : Int32) [(.long 0), (.long 0)] (.long 0) := V4.pad (pad_rep [] (.long 0) 2)
  obtain ⟨T6, h6, X6, e6, W6, st6⟩ := putF X4 hx hZ hown (host := "") (Or.inl (oH hw 122 rfl)) Via.refl e4 c4_Fp0_values c4_Ep0 (Or.inl (oH hw 123 rfl)) (oH hw 55 rfl) (ty := (.array .long)) (by decide) rfl rfl (g := (mkF m 15 #[.val (.ref p0)] [(.ref b4), (.ref p0)])) rfl rfl (hb hby d18_15)
  have c6_Ep0 := c4_Ep0.wr W6
  have c6_Fp0_found := c4_Fp0_found.other W6 (Or.inr (slot_ne (Or.inl (oH hw 64 rfl)) (Or.inl (oH hw 123 rfl)) (by decide) (by decide : parseFieldDescriptor "[Lcom/example/otaniemi/otaniemi/State;" = some (.array (.object "com/example/otaniemi/otaniemi/State"))) (by decide : parseFieldDescriptor "[J" = some (.array .long))))
  have c6_Fp0_foundCount := c4_Fp0_foundCount.other W6 (Or.inr (slot_ne (Or.inl (oH hw 75 rfl)) (Or.inl (oH hw 123 rfl)) (by decide) (by decide : parseFieldDescriptor "I" = some .int) (by decide : parseFieldDescriptor "[J" = some (.array .long))))
  have c6_Fp0_passed := c4_Fp0_passed.other W6 (Or.inr (slot_ne (Or.inl (oH hw 125 rfl)) (Or.inl (oH hw 123 rfl)) (by decide) (by decide : parseFieldDescriptor "Lcom/example/otaniemi/otaniemi/Pending$Passed;" = some (.object "com/example/otaniemi/otaniemi/Pending$Passed")) (by decide : parseFieldDescriptor "[J" = some (.array .long))))
  have c6_Fp0_values := c4_Fp0_values.same W6
  have c6_Vfa := c4_Vfa.other W6 (Ne.symm npf)
  have c6_Vb4 := V5.other W6 (Ne.symm ne_p0_b4)
  have K6 := K4.wr W6 (Or.inl (List.mem_of_getElem? (i := 0) rfl))
  have N6 := Fr.snoc X6 N0 g_p0
  have Z6 : n0 ≤ h6.size := Nat.le_trans Z4 (Nat.le_of_eq W6.size.symm)
  refine own_go (S' := (T6.setTop (mkF m 18 #[.val (.ref p0)] []))) st6 ?_
  refine own_ret0 X6 hx hlk Bd.returns (hb hby d18_18) (by decide) (by decide) ?_
  rw [e6]
  exact ⟨_, _, rfl, sz_b4, N6, K6, c6_Fp0_found, c6_Fp0_foundCount, c6_Fp0_passed, c6_Fp0_values, c6_Vb4⟩
theorem ef_rmKvA (m : MethodId) (x0 : Addr) : entryFrame m #[(.ref x0)] 1 = mkF m 0 #[.val (.ref x0)] [] := by first | (simp [entryFrame, mkF, argsToLocals, Value.category]; done) | rfl
def Q_rmKvA (Z : State) (p0 va : Addr) (h0 : Heap) (n0 : Nat) (v : Option Value) (h : Heap) (L : List Loc) : Prop := v = none ∧ h = h0 ∧ L = []
set_option maxRecDepth 65536 in
set_option maxHeartbeats 40000000 in
theorem rmKvA (l : Launch) (Z : State) (a0 : Array Value) (hw : ∀ d ∈ tables_1, d.before a0 Z = true) (ws : List Jvm.Cond) (p0 va : Addr) (h0 : Heap) (n0 : Nat) (Z0 : n0 ≤ h0.size) (E_p0 : Exa Z h0 p0 "com/example/otaniemi/otaniemi/Pending") (F_p0_values : Fld Z h0 p0 "com/example/otaniemi/otaniemi/Pending" "values" "[J" (.ref va)) :
    MetFree l (⟨"com/example/otaniemi/otaniemi/Pending", "keepValues", "()V"⟩ : MethodName) (head1 (Jvm.Cond.code (⟨"com/example/otaniemi/otaniemi/Pending", "keepValues", "()V"⟩ : MethodName) prog_64_method_18_code 1 none :: ws) ({ frames := 0, cells := 1, slots := 4, locals := 0 } : Room)) (fun a U => a = #[(.ref p0)] ∧ Z.Warmed39 U.vm ∧ U.heap = h0) (fun _ _ _ _ _ => True) (fun _ U o U' => ∃ v L, o = .returned v ∧ Q_rmKvA Z p0 va h0 n0 v U'.heap L ∧ FrameEnd U o U' L ({ frames := 0, cells := 1, slots := 4, locals := 0 } : Room).cells ({ frames := 0, cells := 1, slots := 4, locals := 0 } : Room).slots) := by
  refine MetFree.of_bodySF (plainFor_of_name pn_151) hisR ?_
  intro p e s m args below meth c s₁ Bd hml0 hP hK
  obtain ⟨rfl, hZ, hh⟩ := hP
  have hx := Bd.exec
  have hby := Bd.bytes
  have hlk := Bd.notSynchronized
  have hml : c.maxLocals = 1 := hml0
  have hown : s.vm.findClass "com/example/otaniemi/otaniemi/Pending" = some m.cls := findClass_of_methodNamed Bd.named
  have hnm := (name_of_methodNamed Bd.named Bd.method).1
  have X0 : Stand p l e ({ frames := 0, cells := 1, slots := 4, locals := 0 } : Room) s m #[(.ref p0)] below meth c s₁ [] 0 0 := Stand.of_body Bd
  have e0 : s₁.heap = h0 := by rw [← hh, Bd.state]; rfl
  have N0 := Fr.nil n0
  change own_Go p e below s (Q_rmKvA Z p0 va h0 n0) ({ frames := 0, cells := 1, slots := 4, locals := 0 } : Room).cells ({ frames := 0, cells := 1, slots := 4, locals := 0 } : Room).slots _
  refine own_go (S' := (s₁.setTop (mkF m 0 #[.val (.ref p0)] []))) (fun _ kont => castTop (ef_rmKvA m p0) kont) ?_
  refine own_go (S' := (s₁.setTop (mkF m 1 #[.val (.ref p0)] [(.ref p0)]))) (fun _ kont => XS.aloadN X0.here hx rfl (hb hby d18_0) rfl rfl kont) ?_
  obtain ⟨T1, X1, e1, st1⟩ := getF X0 hx hZ hown (host := "") (Or.inl (oH hw 122 rfl)) Via.refl e0 F_p0_values (g := (mkF m 1 #[.val (.ref p0)] [(.ref p0)])) rfl rfl (hb hby d18_1)
  refine own_go (S' := (T1.setTop (mkF m 4 #[.val (.ref p0)] [(.ref va)]))) st1 ?_
  refine own_go (S' := (T1.setTop (mkF m 18 #[.val (.ref p0)] []))) (fun _ kont => XS.ifnonnullYes X1.here hx rfl (pc0 := 4) (pc' := 18) rfl (hb hby d18_4) rfl (by decide) (by decide) kont) ?_
  refine own_ret0 X1 hx hlk Bd.returns (hb hby d18_18) (by decide) (by decide) ?_
  exact ⟨rfl, e1, rfl⟩
theorem d17_0 : decode prog_64_method_16_code 0 = .ok (.aload_n 0, 1) := by decide +kernel
theorem d17_1 : decode prog_64_method_16_code 1 = .ok (.getfield 9, 3) := by decide +kernel
theorem d17_4 : decode prog_64_method_16_code 4 = .ok (.iload_n 1, 1) := by decide +kernel
theorem d17_5 : decode prog_64_method_16_code 5 = .ok (.aload_n 2, 1) := by decide +kernel
theorem d17_6 : decode prog_64_method_16_code 6 = .ok (.aastore, 1) := by decide +kernel
theorem d17_7 : decode prog_64_method_16_code 7 = .ok (.aload_n 0, 1) := by decide +kernel
theorem d17_8 : decode prog_64_method_16_code 8 = .ok (.getfield 19, 3) := by decide +kernel
theorem d17_11 : decode prog_64_method_16_code 11 = .ok (.ifnull 10, 3) := by decide +kernel
theorem d17_21 : decode prog_64_method_16_code 21 = .ok (.aload_n 0, 1) := by decide +kernel
theorem d17_22 : decode prog_64_method_16_code 22 = .ok (.getfield 125, 3) := by decide +kernel
theorem d17_25 : decode prog_64_method_16_code 25 = .ok (.ifnull 14, 3) := by decide +kernel
theorem d17_39 : decode prog_64_method_16_code 39 = .ok (.return_, 1) := by decide +kernel
theorem ef_rmPu0N (m : MethodId) (x0 : Addr) (x1 : Int32) (x2 : Addr) (x3 : Int64) (x4 : Int64) : entryFrame m #[(.ref x0), (.int x1), (.ref x2), (.long x3), (.long x4)] 7 = mkF m 0 #[.val (.ref x0), .val (.int x1), .val (.ref x2), .val (.long x3), .second, .val (.long x4), .second] [] := by first | (simp [entryFrame, mkF, argsToLocals, Value.category]; done) | rfl
def Q_rmPu0N (Z : State) (p0 fa : Addr) (kf : ClassId) (kc : Int32) (f0 : Value) (f1 : Value) (x0 : Addr) (cj zj : Int64) (h0 : Heap) (n0 : Nat) (v : Option Value) (h : Heap) (L : List Loc) : Prop := v = none ∧ Fr n0 L ∧ Keep h0 h [fa] ∧ Arv Z h fa kf (.object "com/example/otaniemi/otaniemi/State") (4 : Int32) [(.ref x0), f1] .null
set_option maxRecDepth 65536 in
set_option maxHeartbeats 40000000 in
theorem rmPu0N (l : Launch) (Z : State) (a0 : Array Value) (hw : ∀ d ∈ tables_1, d.before a0 Z = true) (ws : List Jvm.Cond) (p0 fa : Addr) (kf : ClassId) (kc : Int32) (f0 : Value) (f1 : Value) (x0 : Addr) (cj zj : Int64) (h0 : Heap) (n0 : Nat) (Z0 : n0 ≤ h0.size) (E_p0 : Exa Z h0 p0 "com/example/otaniemi/otaniemi/Pending") (F_p0_found : Fld Z h0 p0 "com/example/otaniemi/otaniemi/Pending" "found" "[Lcom/example/otaniemi/otaniemi/State;" (.ref fa)) (F_p0_foundCount : Fld Z h0 p0 "com/example/otaniemi/otaniemi/Pending" "foundCount" "I" (.int kc)) (F_p0_passed : Fld Z h0 p0 "com/example/otaniemi/otaniemi/Pending" "passed" "Lcom/example/otaniemi/otaniemi/Pending$Passed;" .null) (F_p0_values : Fld Z h0 p0 "com/example/otaniemi/otaniemi/Pending" "values" "[J" .null) (g_p0 : n0 ≤ p0) (g_fa : n0 ≤ fa) (V_fa : Arv Z h0 fa kf (.object "com/example/otaniemi/otaniemi/State") (4 : Int32) [f0, f1] .null) (O_fa : Ovr Z kf "com/example/otaniemi/otaniemi/State") (Ex : Exa Z h0 x0 "com/example/otaniemi/otaniemi/State") :
    MetFree l (⟨"com/example/otaniemi/otaniemi/Pending", "put", "(ILcom/example/otaniemi/otaniemi/State;JJ)V"⟩ : MethodName) (head1 (Jvm.Cond.code (⟨"com/example/otaniemi/otaniemi/Pending", "put", "(ILcom/example/otaniemi/otaniemi/State;JJ)V"⟩ : MethodName) prog_64_method_16_code 7 none :: ws) ({ frames := 0, cells := 0, slots := 0, locals := 0 } : Room)) (fun a U => a = #[(.ref p0), (.int 0), (.ref x0), (.long cj), (.long zj)] ∧ Z.Warmed39 U.vm ∧ U.heap = h0) (fun _ _ _ _ _ => True) (fun _ U o U' => ∃ v L, o = .returned v ∧ Q_rmPu0N Z p0 fa kf kc f0 f1 x0 cj zj h0 n0 v U'.heap L ∧ FrameEnd U o U' L ({ frames := 0, cells := 0, slots := 0, locals := 0 } : Room).cells ({ frames := 0, cells := 0, slots := 0, locals := 0 } : Room).slots) := by
  refine MetFree.of_bodySF (plainFor_of_name pn_151) hisR ?_
  intro p e s m args below meth c s₁ Bd hml0 hP hK
  obtain ⟨rfl, hZ, hh⟩ := hP
  have hx := Bd.exec
  have hby := Bd.bytes
  have hlk := Bd.notSynchronized
  have hml : c.maxLocals = 7 := hml0
  have hown : s.vm.findClass "com/example/otaniemi/otaniemi/Pending" = some m.cls := findClass_of_methodNamed Bd.named
  have hnm := (name_of_methodNamed Bd.named Bd.method).1
  have X0 : Stand p l e ({ frames := 0, cells := 0, slots := 0, locals := 0 } : Room) s m #[(.ref p0), (.int 0), (.ref x0), (.long cj), (.long zj)] below meth c s₁ [] 0 0 := Stand.of_body Bd
  have e0 : s₁.heap = h0 := by rw [← hh, Bd.state]; rfl
  have N0 := Fr.nil n0
  change own_Go p e below s (Q_rmPu0N Z p0 fa kf kc f0 f1 x0 cj zj h0 n0) ({ frames := 0, cells := 0, slots := 0, locals := 0 } : Room).cells ({ frames := 0, cells := 0, slots := 0, locals := 0 } : Room).slots _
  refine own_go (S' := (s₁.setTop (mkF m 0 #[.val (.ref p0), .val (.int 0), .val (.ref x0), .val (.long cj), .second, .val (.long zj), .second] []))) (fun _ kont => castTop (ef_rmPu0N m p0 (0 : Int32) x0 cj zj) kont) ?_
  have npf := E_p0.neArv V_fa (oH hw 55 rfl)
  have K0 := Keep.refl h0 [fa]
  refine own_go (S' := (s₁.setTop (mkF m 1 #[.val (.ref p0), .val (.int 0), .val (.ref x0), .val (.long cj), .second, .val (.long zj), .second] [(.ref p0)]))) (fun _ kont => XS.aloadN X0.here hx rfl (hb hby d17_0) rfl rfl kont) ?_
  obtain ⟨T1, X1, e1, st1⟩ := getF X0 hx hZ hown (host := "") (Or.inl (oH hw 63 rfl)) Via.refl e0 F_p0_found (g := (mkF m 1 #[.val (.ref p0), .val (.int 0), .val (.ref x0), .val (.long cj), .second, .val (.long zj), .second] [(.ref p0)])) rfl rfl (hb hby d17_1)
  refine own_go (S' := (T1.setTop (mkF m 4 #[.val (.ref p0), .val (.int 0), .val (.ref x0), .val (.long cj), .second, .val (.long zj), .second] [(.ref fa)]))) st1 ?_
  refine own_go (S' := (T1.setTop (mkF m 6 #[.val (.ref p0), .val (.int 0), .val (.ref x0), .val (.long cj), .second, .val (.long zj), .second] [(.ref x0), (.int 0), (.ref fa)]))) (fun _ kont => XS.iloadN X1.here hx rfl (hb hby d17_4) rfl (XS.aloadN X1.here hx rfl (hb hby d17_5) rfl rfl kont)) ?_
  obtain ⟨cl2, Ar2, qc2, S2, M2, Ha2, Ga2⟩ := id V_fa
  have Sto2 := Sto.ofV Ar2 qc2 O_fa (Ins.self Ex)
  obtain ⟨T2, h2, X2, e2, W2, st2⟩ := stR X1 hx hZ e1 Ar2 (j := (0 : Int32)) (inb_of S2 ⟨by decide, by decide⟩) rfl Sto2 (g := (mkF m 6 #[.val (.ref p0), .val (.int 0), .val (.ref x0), .val (.long cj), .second, .val (.long zj), .second] [(.ref x0), (.int 0), (.ref fa)])) rfl rfl (hb hby d17_6)
  have c2_Ep0 := E_p0.wr W2
  have c2_Fp0_found := F_p0_found.other W2 (Or.inl npf)
  have c2_Fp0_foundCount := F_p0_foundCount.other W2 (Or.inl npf)
  have c2_Fp0_passed := F_p0_passed.other W2 (Or.inl npf)
  have c2_Fp0_values := F_p0_values.other W2 (Or.inl npf)
  have V2 : Arv Z h2 fa kf (.object "com/example/otaniemi/otaniemi/State") (4 : Int32) [(.ref x0), f1] .null := Arv.set Ar2 qc2 S2 M2 Ha2 Ga2 rfl W2 0 (by decide) (Nat.le_of_ble_eq_true rfl)
  have K2 := K0.wr W2 (Or.inl (List.mem_of_getElem? (i := 0) rfl))
  have N2 := Fr.snoc X2 N0 g_fa
  have Z2 : n0 ≤ h2.size := Nat.le_trans Z0 (Nat.le_of_eq W2.size.symm)
  refine own_go (S' := (T2.setTop (mkF m 7 #[.val (.ref p0), .val (.int 0), .val (.ref x0), .val (.long cj), .second, .val (.long zj), .second] []))) st2 ?_
  refine own_go (S' := (T2.setTop (mkF m 8 #[.val (.ref p0), .val (.int 0), .val (.ref x0), .val (.long cj), .second, .val (.long zj), .second] [(.ref p0)]))) (fun _ kont => XS.aloadN X2.here hx rfl (hb hby d17_7) rfl rfl kont) ?_
  obtain ⟨T3, X3, e3, st3⟩ := getF X2 hx hZ hown (host := "") (Or.inl (oH hw 122 rfl)) Via.refl e2 c2_Fp0_values (g := (mkF m 8 #[.val (.ref p0), .val (.int 0), .val (.ref x0), .val (.long cj), .second, .val (.long zj), .second] [(.ref p0)])) rfl rfl (hb hby d17_8)
  refine own_go (S' := (T3.setTop (mkF m 11 #[.val (.ref p0), .val (.int 0), .val (.ref x0), .val (.long cj), .second, .val (.long zj), .second] [.null]))) st3 ?_
  refine own_go (S' := (T3.setTop (mkF m 22 #[.val (.ref p0), .val (.int 0), .val (.ref x0), .val (.long cj), .second, .val (.long zj), .second] [(.ref p0)]))) (fun _ kont => XS.ifnullYes X3.here hx rfl (pc0 := 11) (pc' := 21) rfl (hb hby d17_11) rfl (by decide) (by decide) (XS.aloadN X3.here hx rfl (hb hby d17_21) rfl rfl kont)) ?_
  obtain ⟨T4, X4, e4, st4⟩ := getF X3 hx hZ hown (host := "") (Or.inl (oH hw 124 rfl)) Via.refl e3 c2_Fp0_passed (g := (mkF m 22 #[.val (.ref p0), .val (.int 0), .val (.ref x0), .val (.long cj), .second, .val (.long zj), .second] [(.ref p0)])) rfl rfl (hb hby d17_22)
  refine own_go (S' := (T4.setTop (mkF m 25 #[.val (.ref p0), .val (.int 0), .val (.ref x0), .val (.long cj), .second, .val (.long zj), .second] [.null]))) st4 ?_
  refine own_go (S' := (T4.setTop (mkF m 39 #[.val (.ref p0), .val (.int 0), .val (.ref x0), .val (.long cj), .second, .val (.long zj), .second] []))) (fun _ kont => XS.ifnullYes X4.here hx rfl (pc0 := 25) (pc' := 39) rfl (hb hby d17_25) rfl (by decide) (by decide) kont) ?_
  refine own_ret0 X4 hx hlk Bd.returns (hb hby d17_39) (by decide) (by decide) ?_
  rw [e4]
  exact ⟨rfl, N2, K2, V2⟩
theorem d17_14 : decode prog_64_method_16_code 14 = .ok (.aload_n 0, 1) := by decide +kernel
theorem d17_15 : decode prog_64_method_16_code 15 = .ok (.getfield 19, 3) := by decide +kernel
theorem d17_18 : decode prog_64_method_16_code 18 = .ok (.iload_n 1, 1) := by decide +kernel
theorem d17_19 : decode prog_64_method_16_code 19 = .ok (.lload_n 3, 1) := by decide +kernel
theorem d17_20 : decode prog_64_method_16_code 20 = .ok (.lastore, 1) := by decide +kernel
theorem ef_rmPu0A (m : MethodId) (x0 : Addr) (x1 : Int32) (x2 : Addr) (x3 : Int64) (x4 : Int64) : entryFrame m #[(.ref x0), (.int x1), (.ref x2), (.long x3), (.long x4)] 7 = mkF m 0 #[.val (.ref x0), .val (.int x1), .val (.ref x2), .val (.long x3), .second, .val (.long x4), .second] [] := by first | (simp [entryFrame, mkF, argsToLocals, Value.category]; done) | rfl
def Q_rmPu0A (Z : State) (p0 fa : Addr) (kf : ClassId) (kc : Int32) (f0 : Value) (f1 : Value) (va : Addr) (kv : ClassId) (v0 v1 : Int64) (x0 : Addr) (cj zj : Int64) (h0 : Heap) (n0 : Nat) (v : Option Value) (h : Heap) (L : List Loc) : Prop := v = none ∧ Fr n0 L ∧ Keep h0 h [fa, va] ∧ Arv Z h fa kf (.object "com/example/otaniemi/otaniemi/State") (4 : Int32) [(.ref x0), f1] .null ∧ Arv Z h va kv .long (4 : Int32) [(.long cj), (.long v1)] (.long 0)
set_option maxRecDepth 65536 in
set_option maxHeartbeats 40000000 in
theorem rmPu0A (l : Launch) (Z : State) (a0 : Array Value) (hw : ∀ d ∈ tables_1, d.before a0 Z = true) (ws : List Jvm.Cond) (p0 fa : Addr) (kf : ClassId) (kc : Int32) (f0 : Value) (f1 : Value) (va : Addr) (kv : ClassId) (v0 v1 : Int64) (x0 : Addr) (cj zj : Int64) (h0 : Heap) (n0 : Nat) (Z0 : n0 ≤ h0.size) (E_p0 : Exa Z h0 p0 "com/example/otaniemi/otaniemi/Pending") (F_p0_found : Fld Z h0 p0 "com/example/otaniemi/otaniemi/Pending" "found" "[Lcom/example/otaniemi/otaniemi/State;" (.ref fa)) (F_p0_foundCount : Fld Z h0 p0 "com/example/otaniemi/otaniemi/Pending" "foundCount" "I" (.int kc)) (F_p0_passed : Fld Z h0 p0 "com/example/otaniemi/otaniemi/Pending" "passed" "Lcom/example/otaniemi/otaniemi/Pending$Passed;" .null) (F_p0_values : Fld Z h0 p0 "com/example/otaniemi/otaniemi/Pending" "values" "[J" (.ref va)) (g_p0 : n0 ≤ p0) (g_fa : n0 ≤ fa) (V_fa : Arv Z h0 fa kf (.object "com/example/otaniemi/otaniemi/State") (4 : Int32) [f0, f1] .null) (O_fa : Ovr Z kf "com/example/otaniemi/otaniemi/State") (g_va : n0 ≤ va) (nfv : fa ≠ va) (V_va : Arv Z h0 va kv .long (4 : Int32) [(.long v0), (.long v1)] (.long 0)) (Ex : Exa Z h0 x0 "com/example/otaniemi/otaniemi/State") :
    MetFree l (⟨"com/example/otaniemi/otaniemi/Pending", "put", "(ILcom/example/otaniemi/otaniemi/State;JJ)V"⟩ : MethodName) (head1 (Jvm.Cond.code (⟨"com/example/otaniemi/otaniemi/Pending", "put", "(ILcom/example/otaniemi/otaniemi/State;JJ)V"⟩ : MethodName) prog_64_method_16_code 7 none :: ws) ({ frames := 0, cells := 0, slots := 0, locals := 0 } : Room)) (fun a U => a = #[(.ref p0), (.int 0), (.ref x0), (.long cj), (.long zj)] ∧ Z.Warmed39 U.vm ∧ U.heap = h0) (fun _ _ _ _ _ => True) (fun _ U o U' => ∃ v L, o = .returned v ∧ Q_rmPu0A Z p0 fa kf kc f0 f1 va kv v0 v1 x0 cj zj h0 n0 v U'.heap L ∧ FrameEnd U o U' L ({ frames := 0, cells := 0, slots := 0, locals := 0 } : Room).cells ({ frames := 0, cells := 0, slots := 0, locals := 0 } : Room).slots) := by
  refine MetFree.of_bodySF (plainFor_of_name pn_151) hisR ?_
  intro p e s m args below meth c s₁ Bd hml0 hP hK
  obtain ⟨rfl, hZ, hh⟩ := hP
  have hx := Bd.exec
  have hby := Bd.bytes
  have hlk := Bd.notSynchronized
  have hml : c.maxLocals = 7 := hml0
  have hown : s.vm.findClass "com/example/otaniemi/otaniemi/Pending" = some m.cls := findClass_of_methodNamed Bd.named
  have hnm := (name_of_methodNamed Bd.named Bd.method).1
  have X0 : Stand p l e ({ frames := 0, cells := 0, slots := 0, locals := 0 } : Room) s m #[(.ref p0), (.int 0), (.ref x0), (.long cj), (.long zj)] below meth c s₁ [] 0 0 := Stand.of_body Bd
  have e0 : s₁.heap = h0 := by rw [← hh, Bd.state]; rfl
  have N0 := Fr.nil n0
  change own_Go p e below s (Q_rmPu0A Z p0 fa kf kc f0 f1 va kv v0 v1 x0 cj zj h0 n0) ({ frames := 0, cells := 0, slots := 0, locals := 0 } : Room).cells ({ frames := 0, cells := 0, slots := 0, locals := 0 } : Room).slots _
  refine own_go (S' := (s₁.setTop (mkF m 0 #[.val (.ref p0), .val (.int 0), .val (.ref x0), .val (.long cj), .second, .val (.long zj), .second] []))) (fun _ kont => castTop (ef_rmPu0A m p0 (0 : Int32) x0 cj zj) kont) ?_
  have npf := E_p0.neArv V_fa (oH hw 55 rfl)
  have npv := E_p0.neArv V_va (oH hw 55 rfl)
  have K0 := Keep.refl h0 [fa, va]
  refine own_go (S' := (s₁.setTop (mkF m 1 #[.val (.ref p0), .val (.int 0), .val (.ref x0), .val (.long cj), .second, .val (.long zj), .second] [(.ref p0)]))) (fun _ kont => XS.aloadN X0.here hx rfl (hb hby d17_0) rfl rfl kont) ?_
  obtain ⟨T1, X1, e1, st1⟩ := getF X0 hx hZ hown (host := "") (Or.inl (oH hw 63 rfl)) Via.refl e0 F_p0_found (g := (mkF m 1 #[.val (.ref p0), .val (.int 0), .val (.ref x0), .val (.long cj), .second, .val (.long zj), .second] [(.ref p0)])) rfl rfl (hb hby d17_1)
  refine own_go (S' := (T1.setTop (mkF m 4 #[.val (.ref p0), .val (.int 0), .val (.ref x0), .val (.long cj), .second, .val (.long zj), .second] [(.ref fa)]))) st1 ?_
  refine own_go (S' := (T1.setTop (mkF m 6 #[.val (.ref p0), .val (.int 0), .val (.ref x0), .val (.long cj), .second, .val (.long zj), .second] [(.ref x0), (.int 0), (.ref fa)]))) (fun _ kont => XS.iloadN X1.here hx rfl (hb hby d17_4) rfl (XS.aloadN X1.here hx rfl (hb hby d17_5) rfl rfl kont)) ?_
  obtain ⟨cl2, Ar2, qc2, S2, M2, Ha2, Ga2⟩ := id V_fa
  have Sto2 := Sto.ofV Ar2 qc2 O_fa (Ins.self Ex)
  obtain ⟨T2, h2, X2, e2, W2, st2⟩ := stR X1 hx hZ e1 Ar2 (j := (0 : Int32)) (inb_of S2 ⟨by decide, by decide⟩) rfl Sto2 (g := (mkF m 6 #[.val (.ref p0), .val (.int 0), .val (.ref x0), .val (.long cj), .second, .val (.long zj), .second] [(.ref x0), (.int 0), (.ref fa)])) rfl rfl (hb hby d17_6)
  have c2_Ep0 := E_p0.wr W2
  have c2_Fp0_found := F_p0_found.other W2 (Or.inl npf)
  have c2_Fp0_foundCount := F_p0_foundCount.other W2 (Or.inl npf)
  have c2_Fp0_passed := F_p0_passed.other W2 (Or.inl npf)
  have c2_Fp0_values := F_p0_values.other W2 (Or.inl npf)
  have c2_Vva := V_va.other W2 (Ne.symm nfv)
  have V2 : Arv Z h2 fa kf (.object "com/example/otaniemi/otaniemi/State") (4 : Int32) [(.ref x0), f1] .null := Arv.set Ar2 qc2 S2 M2 Ha2 Ga2 rfl W2 0 (by decide) (Nat.le_of_ble_eq_true rfl)
  have K2 := K0.wr W2 (Or.inl (List.mem_of_getElem? (i := 0) rfl))
  have N2 := Fr.snoc X2 N0 g_fa
  have Z2 : n0 ≤ h2.size := Nat.le_trans Z0 (Nat.le_of_eq W2.size.symm)
  refine own_go (S' := (T2.setTop (mkF m 7 #[.val (.ref p0), .val (.int 0), .val (.ref x0), .val (.long cj), .second, .val (.long zj), .second] []))) st2 ?_
  refine own_go (S' := (T2.setTop (mkF m 8 #[.val (.ref p0), .val (.int 0), .val (.ref x0), .val (.long cj), .second, .val (.long zj), .second] [(.ref p0)]))) (fun _ kont => XS.aloadN X2.here hx rfl (hb hby d17_7) rfl rfl kont) ?_
  obtain ⟨T3, X3, e3, st3⟩ := getF X2 hx hZ hown (host := "") (Or.inl (oH hw 122 rfl)) Via.refl e2 c2_Fp0_values (g := (mkF m 8 #[.val (.ref p0), .val (.int 0), .val (.ref x0), .val (.long cj), .second, .val (.long zj), .second] [(.ref p0)])) rfl rfl (hb hby d17_8)
  refine own_go (S' := (T3.setTop (mkF m 11 #[.val (.ref p0), .val (.int 0), .val (.ref x0), .val (.long cj), .second, .val (.long zj), .second] [(.ref va)]))) st3 ?_
  refine own_go (S' := (T3.setTop (mkF m 15 #[.val (.ref p0), .val (.int 0), .val (.ref x0), .val (.long cj), .second, .val (.long zj), .second] [(.ref p0)]))) (fun _ kont => XS.ifnullNo X3.here hx rfl (hb hby d17_11) rfl (XS.aloadN X3.here hx rfl (hb hby d17_14) rfl rfl kont)) ?_
  obtain ⟨T4, X4, e4, st4⟩ := getF X3 hx hZ hown (host := "") (Or.inl (oH hw 122 rfl)) Via.refl e3 c2_Fp0_values (g := (mkF m 15 #[.val (.ref p0), .val (.int 0), .val (.ref x0), .val (.long cj), .second, .val (.long zj), .second] [(.ref p0)])) rfl rfl (hb hby d17_15)
  refine own_go (S' := (T4.setTop (mkF m 18 #[.val (.ref p0), .val (.int 0), .val (.ref x0), .val (.long cj), .second, .val (.long zj), .second] [(.ref va)]))) st4 ?_
  refine own_go (S' := (T4.setTop (mkF m 20 #[.val (.ref p0), .val (.int 0), .val (.ref x0), .val (.long cj), .second, .val (.long zj), .second] [(.long cj), (.int 0), (.ref va)]))) (fun _ kont => XS.iloadN X4.here hx rfl (hb hby d17_18) rfl (XS.lloadN X4.here hx rfl (hb hby d17_19) rfl kont)) ?_
  obtain ⟨cl5, Ar5, qc5, S5, M5, Ha5, Ga5⟩ := id c2_Vva
  obtain ⟨T5, h5, X5, e5, W5, st5⟩ := stJ X4 hx hZ e4 Ar5 (j := (0 : Int32)) (inb_of S5 ⟨by decide, by decide⟩) (g := (mkF m 20 #[.val (.ref p0), .val (.int 0), .val (.ref x0), .val (.long cj), .second, .val (.long zj), .second] [(.long cj), (.int 0), (.ref va)])) rfl rfl (hb hby d17_20)
  have c5_Ep0 := c2_Ep0.wr W5
  have c5_Fp0_found := c2_Fp0_found.other W5 (Or.inl npv)
  have c5_Fp0_foundCount := c2_Fp0_foundCount.other W5 (Or.inl npv)
  have c5_Fp0_passed := c2_Fp0_passed.other W5 (Or.inl npv)
  have c5_Fp0_values := c2_Fp0_values.other W5 (Or.inl npv)
  have c5_Vfa := V2.other W5 nfv
  have V5 : Arv Z h5 va kv .long (4 : Int32) [(.long cj), (.long v1)] (.long 0) := Arv.set Ar5 qc5 S5 M5 Ha5 Ga5 rfl W5 0 (by decide) (Nat.le_of_ble_eq_true rfl)
  have K5 := K2.wr W5 (Or.inl (List.mem_of_getElem? (i := 1) rfl))
  have N5 := Fr.snoc X5 N2 g_va
  have Z5 : n0 ≤ h5.size := Nat.le_trans Z2 (Nat.le_of_eq W5.size.symm)
  refine own_go (S' := (T5.setTop (mkF m 21 #[.val (.ref p0), .val (.int 0), .val (.ref x0), .val (.long cj), .second, .val (.long zj), .second] []))) st5 ?_
  refine own_go (S' := (T5.setTop (mkF m 22 #[.val (.ref p0), .val (.int 0), .val (.ref x0), .val (.long cj), .second, .val (.long zj), .second] [(.ref p0)]))) (fun _ kont => XS.aloadN X5.here hx rfl (hb hby d17_21) rfl rfl kont) ?_
  obtain ⟨T6, X6, e6, st6⟩ := getF X5 hx hZ hown (host := "") (Or.inl (oH hw 124 rfl)) Via.refl e5 c5_Fp0_passed (g := (mkF m 22 #[.val (.ref p0), .val (.int 0), .val (.ref x0), .val (.long cj), .second, .val (.long zj), .second] [(.ref p0)])) rfl rfl (hb hby d17_22)
  refine own_go (S' := (T6.setTop (mkF m 25 #[.val (.ref p0), .val (.int 0), .val (.ref x0), .val (.long cj), .second, .val (.long zj), .second] [.null]))) st6 ?_
  refine own_go (S' := (T6.setTop (mkF m 39 #[.val (.ref p0), .val (.int 0), .val (.ref x0), .val (.long cj), .second, .val (.long zj), .second] []))) (fun _ kont => XS.ifnullYes X6.here hx rfl (pc0 := 25) (pc' := 39) rfl (hb hby d17_25) rfl (by decide) (by decide) kont) ?_
  refine own_ret0 X6 hx hlk Bd.returns (hb hby d17_39) (by decide) (by decide) ?_
  rw [e6]
  exact ⟨rfl, N5, K5, c5_Vfa, V5⟩
theorem ef_rmPu1N (m : MethodId) (x0 : Addr) (x1 : Int32) (x2 : Addr) (x3 : Int64) (x4 : Int64) : entryFrame m #[(.ref x0), (.int x1), (.ref x2), (.long x3), (.long x4)] 7 = mkF m 0 #[.val (.ref x0), .val (.int x1), .val (.ref x2), .val (.long x3), .second, .val (.long x4), .second] [] := by first | (simp [entryFrame, mkF, argsToLocals, Value.category]; done) | rfl
def Q_rmPu1N (Z : State) (p0 fa : Addr) (kf : ClassId) (kc : Int32) (f0 : Value) (f1 : Value) (x0 : Addr) (cj zj : Int64) (h0 : Heap) (n0 : Nat) (v : Option Value) (h : Heap) (L : List Loc) : Prop := v = none ∧ Fr n0 L ∧ Keep h0 h [fa] ∧ Arv Z h fa kf (.object "com/example/otaniemi/otaniemi/State") (4 : Int32) [f0, (.ref x0)] .null
set_option maxRecDepth 65536 in
set_option maxHeartbeats 40000000 in
theorem rmPu1N (l : Launch) (Z : State) (a0 : Array Value) (hw : ∀ d ∈ tables_1, d.before a0 Z = true) (ws : List Jvm.Cond) (p0 fa : Addr) (kf : ClassId) (kc : Int32) (f0 : Value) (f1 : Value) (x0 : Addr) (cj zj : Int64) (h0 : Heap) (n0 : Nat) (Z0 : n0 ≤ h0.size) (E_p0 : Exa Z h0 p0 "com/example/otaniemi/otaniemi/Pending") (F_p0_found : Fld Z h0 p0 "com/example/otaniemi/otaniemi/Pending" "found" "[Lcom/example/otaniemi/otaniemi/State;" (.ref fa)) (F_p0_foundCount : Fld Z h0 p0 "com/example/otaniemi/otaniemi/Pending" "foundCount" "I" (.int kc)) (F_p0_passed : Fld Z h0 p0 "com/example/otaniemi/otaniemi/Pending" "passed" "Lcom/example/otaniemi/otaniemi/Pending$Passed;" .null) (F_p0_values : Fld Z h0 p0 "com/example/otaniemi/otaniemi/Pending" "values" "[J" .null) (g_p0 : n0 ≤ p0) (g_fa : n0 ≤ fa) (V_fa : Arv Z h0 fa kf (.object "com/example/otaniemi/otaniemi/State") (4 : Int32) [f0, f1] .null) (O_fa : Ovr Z kf "com/example/otaniemi/otaniemi/State") (Ex : Exa Z h0 x0 "com/example/otaniemi/otaniemi/State") :
    MetFree l (⟨"com/example/otaniemi/otaniemi/Pending", "put", "(ILcom/example/otaniemi/otaniemi/State;JJ)V"⟩ : MethodName) (head1 (Jvm.Cond.code (⟨"com/example/otaniemi/otaniemi/Pending", "put", "(ILcom/example/otaniemi/otaniemi/State;JJ)V"⟩ : MethodName) prog_64_method_16_code 7 none :: ws) ({ frames := 0, cells := 0, slots := 0, locals := 0 } : Room)) (fun a U => a = #[(.ref p0), (.int 1), (.ref x0), (.long cj), (.long zj)] ∧ Z.Warmed39 U.vm ∧ U.heap = h0) (fun _ _ _ _ _ => True) (fun _ U o U' => ∃ v L, o = .returned v ∧ Q_rmPu1N Z p0 fa kf kc f0 f1 x0 cj zj h0 n0 v U'.heap L ∧ FrameEnd U o U' L ({ frames := 0, cells := 0, slots := 0, locals := 0 } : Room).cells ({ frames := 0, cells := 0, slots := 0, locals := 0 } : Room).slots) := by
  refine MetFree.of_bodySF (plainFor_of_name pn_151) hisR ?_
  intro p e s m args below meth c s₁ Bd hml0 hP hK
  obtain ⟨rfl, hZ, hh⟩ := hP
  have hx := Bd.exec
  have hby := Bd.bytes
  have hlk := Bd.notSynchronized
  have hml : c.maxLocals = 7 := hml0
  have hown : s.vm.findClass "com/example/otaniemi/otaniemi/Pending" = some m.cls := findClass_of_methodNamed Bd.named
  have hnm := (name_of_methodNamed Bd.named Bd.method).1
  have X0 : Stand p l e ({ frames := 0, cells := 0, slots := 0, locals := 0 } : Room) s m #[(.ref p0), (.int 1), (.ref x0), (.long cj), (.long zj)] below meth c s₁ [] 0 0 := Stand.of_body Bd
  have e0 : s₁.heap = h0 := by rw [← hh, Bd.state]; rfl
  have N0 := Fr.nil n0
  change own_Go p e below s (Q_rmPu1N Z p0 fa kf kc f0 f1 x0 cj zj h0 n0) ({ frames := 0, cells := 0, slots := 0, locals := 0 } : Room).cells ({ frames := 0, cells := 0, slots := 0, locals := 0 } : Room).slots _
  refine own_go (S' := (s₁.setTop (mkF m 0 #[.val (.ref p0), .val (.int 1), .val (.ref x0), .val (.long cj), .second, .val (.long zj), .second] []))) (fun _ kont => castTop (ef_rmPu1N m p0 (1 : Int32) x0 cj zj) kont) ?_
  have npf := E_p0.neArv V_fa (oH hw 55 rfl)
  have K0 := Keep.refl h0 [fa]
  refine own_go (S' := (s₁.setTop (mkF m 1 #[.val (.ref p0), .val (.int 1), .val (.ref x0), .val (.long cj), .second, .val (.long zj), .second] [(.ref p0)]))) (fun _ kont => XS.aloadN X0.here hx rfl (hb hby d17_0) rfl rfl kont) ?_
  obtain ⟨T1, X1, e1, st1⟩ := getF X0 hx hZ hown (host := "") (Or.inl (oH hw 63 rfl)) Via.refl e0 F_p0_found (g := (mkF m 1 #[.val (.ref p0), .val (.int 1), .val (.ref x0), .val (.long cj), .second, .val (.long zj), .second] [(.ref p0)])) rfl rfl (hb hby d17_1)
  refine own_go (S' := (T1.setTop (mkF m 4 #[.val (.ref p0), .val (.int 1), .val (.ref x0), .val (.long cj), .second, .val (.long zj), .second] [(.ref fa)]))) st1 ?_
  refine own_go (S' := (T1.setTop (mkF m 6 #[.val (.ref p0), .val (.int 1), .val (.ref x0), .val (.long cj), .second, .val (.long zj), .second] [(.ref x0), (.int 1), (.ref fa)]))) (fun _ kont => XS.iloadN X1.here hx rfl (hb hby d17_4) rfl (XS.aloadN X1.here hx rfl (hb hby d17_5) rfl rfl kont)) ?_
  obtain ⟨cl2, Ar2, qc2, S2, M2, Ha2, Ga2⟩ := id V_fa
  have Sto2 := Sto.ofV Ar2 qc2 O_fa (Ins.self Ex)
  obtain ⟨T2, h2, X2, e2, W2, st2⟩ := stR X1 hx hZ e1 Ar2 (j := (1 : Int32)) (inb_of S2 ⟨by decide, by decide⟩) rfl Sto2 (g := (mkF m 6 #[.val (.ref p0), .val (.int 1), .val (.ref x0), .val (.long cj), .second, .val (.long zj), .second] [(.ref x0), (.int 1), (.ref fa)])) rfl rfl (hb hby d17_6)
  have c2_Ep0 := E_p0.wr W2
  have c2_Fp0_found := F_p0_found.other W2 (Or.inl npf)
  have c2_Fp0_foundCount := F_p0_foundCount.other W2 (Or.inl npf)
  have c2_Fp0_passed := F_p0_passed.other W2 (Or.inl npf)
  have c2_Fp0_values := F_p0_values.other W2 (Or.inl npf)
  have V2 : Arv Z h2 fa kf (.object "com/example/otaniemi/otaniemi/State") (4 : Int32) [f0, (.ref x0)] .null := Arv.set Ar2 qc2 S2 M2 Ha2 Ga2 rfl W2 1 (by decide) (Nat.le_of_ble_eq_true rfl)
  have K2 := K0.wr W2 (Or.inl (List.mem_of_getElem? (i := 0) rfl))
  have N2 := Fr.snoc X2 N0 g_fa
  have Z2 : n0 ≤ h2.size := Nat.le_trans Z0 (Nat.le_of_eq W2.size.symm)
  refine own_go (S' := (T2.setTop (mkF m 7 #[.val (.ref p0), .val (.int 1), .val (.ref x0), .val (.long cj), .second, .val (.long zj), .second] []))) st2 ?_
  refine own_go (S' := (T2.setTop (mkF m 8 #[.val (.ref p0), .val (.int 1), .val (.ref x0), .val (.long cj), .second, .val (.long zj), .second] [(.ref p0)]))) (fun _ kont => XS.aloadN X2.here hx rfl (hb hby d17_7) rfl rfl kont) ?_
  obtain ⟨T3, X3, e3, st3⟩ := getF X2 hx hZ hown (host := "") (Or.inl (oH hw 122 rfl)) Via.refl e2 c2_Fp0_values (g := (mkF m 8 #[.val (.ref p0), .val (.int 1), .val (.ref x0), .val (.long cj), .second, .val (.long zj), .second] [(.ref p0)])) rfl rfl (hb hby d17_8)
  refine own_go (S' := (T3.setTop (mkF m 11 #[.val (.ref p0), .val (.int 1), .val (.ref x0), .val (.long cj), .second, .val (.long zj), .second] [.null]))) st3 ?_
  refine own_go (S' := (T3.setTop (mkF m 22 #[.val (.ref p0), .val (.int 1), .val (.ref x0), .val (.long cj), .second, .val (.long zj), .second] [(.ref p0)]))) (fun _ kont => XS.ifnullYes X3.here hx rfl (pc0 := 11) (pc' := 21) rfl (hb hby d17_11) rfl (by decide) (by decide) (XS.aloadN X3.here hx rfl (hb hby d17_21) rfl rfl kont)) ?_
  obtain ⟨T4, X4, e4, st4⟩ := getF X3 hx hZ hown (host := "") (Or.inl (oH hw 124 rfl)) Via.refl e3 c2_Fp0_passed (g := (mkF m 22 #[.val (.ref p0), .val (.int 1), .val (.ref x0), .val (.long cj), .second, .val (.long zj), .second] [(.ref p0)])) rfl rfl (hb hby d17_22)
  refine own_go (S' := (T4.setTop (mkF m 25 #[.val (.ref p0), .val (.int 1), .val (.ref x0), .val (.long cj), .second, .val (.long zj), .second] [.null]))) st4 ?_
  refine own_go (S' := (T4.setTop (mkF m 39 #[.val (.ref p0), .val (.int 1), .val (.ref x0), .val (.long cj), .second, .val (.long zj), .second] []))) (fun _ kont => XS.ifnullYes X4.here hx rfl (pc0 := 25) (pc' := 39) rfl (hb hby d17_25) rfl (by decide) (by decide) kont) ?_
  refine own_ret0 X4 hx hlk Bd.returns (hb hby d17_39) (by decide) (by decide) ?_
  rw [e4]
  exact ⟨rfl, N2, K2, V2⟩
theorem ef_rmPu1A (m : MethodId) (x0 : Addr) (x1 : Int32) (x2 : Addr) (x3 : Int64) (x4 : Int64) : entryFrame m #[(.ref x0), (.int x1), (.ref x2), (.long x3), (.long x4)] 7 = mkF m 0 #[.val (.ref x0), .val (.int x1), .val (.ref x2), .val (.long x3), .second, .val (.long x4), .second] [] := by first | (simp [entryFrame, mkF, argsToLocals, Value.category]; done) | rfl
def Q_rmPu1A (Z : State) (p0 fa : Addr) (kf : ClassId) (kc : Int32) (f0 : Value) (f1 : Value) (va : Addr) (kv : ClassId) (v0 v1 : Int64) (x0 : Addr) (cj zj : Int64) (h0 : Heap) (n0 : Nat) (v : Option Value) (h : Heap) (L : List Loc) : Prop := v = none ∧ Fr n0 L ∧ Keep h0 h [fa, va] ∧ Arv Z h fa kf (.object "com/example/otaniemi/otaniemi/State") (4 : Int32) [f0, (.ref x0)] .null ∧ Arv Z h va kv .long (4 : Int32) [(.long v0), (.long cj)] (.long 0)
set_option maxRecDepth 65536 in
set_option maxHeartbeats 40000000 in
theorem rmPu1A (l : Launch) (Z : State) (a0 : Array Value) (hw : ∀ d ∈ tables_1, d.before a0 Z = true) (ws : List Jvm.Cond) (p0 fa : Addr) (kf : ClassId) (kc : Int32) (f0 : Value) (f1 : Value) (va : Addr) (kv : ClassId) (v0 v1 : Int64) (x0 : Addr) (cj zj : Int64) (h0 : Heap) (n0 : Nat) (Z0 : n0 ≤ h0.size) (E_p0 : Exa Z h0 p0 "com/example/otaniemi/otaniemi/Pending") (F_p0_found : Fld Z h0 p0 "com/example/otaniemi/otaniemi/Pending" "found" "[Lcom/example/otaniemi/otaniemi/State;" (.ref fa)) (F_p0_foundCount : Fld Z h0 p0 "com/example/otaniemi/otaniemi/Pending" "foundCount" "I" (.int kc)) (F_p0_passed : Fld Z h0 p0 "com/example/otaniemi/otaniemi/Pending" "passed" "Lcom/example/otaniemi/otaniemi/Pending$Passed;" .null) (F_p0_values : Fld Z h0 p0 "com/example/otaniemi/otaniemi/Pending" "values" "[J" (.ref va)) (g_p0 : n0 ≤ p0) (g_fa : n0 ≤ fa) (V_fa : Arv Z h0 fa kf (.object "com/example/otaniemi/otaniemi/State") (4 : Int32) [f0, f1] .null) (O_fa : Ovr Z kf "com/example/otaniemi/otaniemi/State") (g_va : n0 ≤ va) (nfv : fa ≠ va) (V_va : Arv Z h0 va kv .long (4 : Int32) [(.long v0), (.long v1)] (.long 0)) (Ex : Exa Z h0 x0 "com/example/otaniemi/otaniemi/State") :
    MetFree l (⟨"com/example/otaniemi/otaniemi/Pending", "put", "(ILcom/example/otaniemi/otaniemi/State;JJ)V"⟩ : MethodName) (head1 (Jvm.Cond.code (⟨"com/example/otaniemi/otaniemi/Pending", "put", "(ILcom/example/otaniemi/otaniemi/State;JJ)V"⟩ : MethodName) prog_64_method_16_code 7 none :: ws) ({ frames := 0, cells := 0, slots := 0, locals := 0 } : Room)) (fun a U => a = #[(.ref p0), (.int 1), (.ref x0), (.long cj), (.long zj)] ∧ Z.Warmed39 U.vm ∧ U.heap = h0) (fun _ _ _ _ _ => True) (fun _ U o U' => ∃ v L, o = .returned v ∧ Q_rmPu1A Z p0 fa kf kc f0 f1 va kv v0 v1 x0 cj zj h0 n0 v U'.heap L ∧ FrameEnd U o U' L ({ frames := 0, cells := 0, slots := 0, locals := 0 } : Room).cells ({ frames := 0, cells := 0, slots := 0, locals := 0 } : Room).slots) := by
  refine MetFree.of_bodySF (plainFor_of_name pn_151) hisR ?_
  intro p e s m args below meth c s₁ Bd hml0 hP hK
  obtain ⟨rfl, hZ, hh⟩ := hP
  have hx := Bd.exec
  have hby := Bd.bytes
  have hlk := Bd.notSynchronized
  have hml : c.maxLocals = 7 := hml0
  have hown : s.vm.findClass "com/example/otaniemi/otaniemi/Pending" = some m.cls := findClass_of_methodNamed Bd.named
  have hnm := (name_of_methodNamed Bd.named Bd.method).1
  have X0 : Stand p l e ({ frames := 0, cells := 0, slots := 0, locals := 0 } : Room) s m #[(.ref p0), (.int 1), (.ref x0), (.long cj), (.long zj)] below meth c s₁ [] 0 0 := Stand.of_body Bd
  have e0 : s₁.heap = h0 := by rw [← hh, Bd.state]; rfl
  have N0 := Fr.nil n0
  change own_Go p e below s (Q_rmPu1A Z p0 fa kf kc f0 f1 va kv v0 v1 x0 cj zj h0 n0) ({ frames := 0, cells := 0, slots := 0, locals := 0 } : Room).cells ({ frames := 0, cells := 0, slots := 0, locals := 0 } : Room).slots _
  refine own_go (S' := (s₁.setTop (mkF m 0 #[.val (.ref p0), .val (.int 1), .val (.ref x0), .val (.long cj), .second, .val (.long zj), .second] []))) (fun _ kont => castTop (ef_rmPu1A m p0 (1 : Int32) x0 cj zj) kont) ?_
  have npf := E_p0.neArv V_fa (oH hw 55 rfl)
  have npv := E_p0.neArv V_va (oH hw 55 rfl)
  have K0 := Keep.refl h0 [fa, va]
  refine own_go (S' := (s₁.setTop (mkF m 1 #[.val (.ref p0), .val (.int 1), .val (.ref x0), .val (.long cj), .second, .val (.long zj), .second] [(.ref p0)]))) (fun _ kont => XS.aloadN X0.here hx rfl (hb hby d17_0) rfl rfl kont) ?_
  obtain ⟨T1, X1, e1, st1⟩ := getF X0 hx hZ hown (host := "") (Or.inl (oH hw 63 rfl)) Via.refl e0 F_p0_found (g := (mkF m 1 #[.val (.ref p0), .val (.int 1), .val (.ref x0), .val (.long cj), .second, .val (.long zj), .second] [(.ref p0)])) rfl rfl (hb hby d17_1)
  refine own_go (S' := (T1.setTop (mkF m 4 #[.val (.ref p0), .val (.int 1), .val (.ref x0), .val (.long cj), .second, .val (.long zj), .second] [(.ref fa)]))) st1 ?_
  refine own_go (S' := (T1.setTop (mkF m 6 #[.val (.ref p0), .val (.int 1), .val (.ref x0), .val (.long cj), .second, .val (.long zj), .second] [(.ref x0), (.int 1), (.ref fa)]))) (fun _ kont => XS.iloadN X1.here hx rfl (hb hby d17_4) rfl (XS.aloadN X1.here hx rfl (hb hby d17_5) rfl rfl kont)) ?_
  obtain ⟨cl2, Ar2, qc2, S2, M2, Ha2, Ga2⟩ := id V_fa
  have Sto2 := Sto.ofV Ar2 qc2 O_fa (Ins.self Ex)
  obtain ⟨T2, h2, X2, e2, W2, st2⟩ := stR X1 hx hZ e1 Ar2 (j := (1 : Int32)) (inb_of S2 ⟨by decide, by decide⟩) rfl Sto2 (g := (mkF m 6 #[.val (.ref p0), .val (.int 1), .val (.ref x0), .val (.long cj), .second, .val (.long zj), .second] [(.ref x0), (.int 1), (.ref fa)])) rfl rfl (hb hby d17_6)
  have c2_Ep0 := E_p0.wr W2
  have c2_Fp0_found := F_p0_found.other W2 (Or.inl npf)
  have c2_Fp0_foundCount := F_p0_foundCount.other W2 (Or.inl npf)
  have c2_Fp0_passed := F_p0_passed.other W2 (Or.inl npf)
  have c2_Fp0_values := F_p0_values.other W2 (Or.inl npf)
  have c2_Vva := V_va.other W2 (Ne.symm nfv)
  have V2 : Arv Z h2 fa kf (.object "com/example/otaniemi/otaniemi/State") (4 : Int32) [f0, (.ref x0)] .null := Arv.set Ar2 qc2 S2 M2 Ha2 Ga2 rfl W2 1 (by decide) (Nat.le_of_ble_eq_true rfl)
  have K2 := K0.wr W2 (Or.inl (List.mem_of_getElem? (i := 0) rfl))
  have N2 := Fr.snoc X2 N0 g_fa
  have Z2 : n0 ≤ h2.size := Nat.le_trans Z0 (Nat.le_of_eq W2.size.symm)
  refine own_go (S' := (T2.setTop (mkF m 7 #[.val (.ref p0), .val (.int 1), .val (.ref x0), .val (.long cj), .second, .val (.long zj), .second] []))) st2 ?_
  refine own_go (S' := (T2.setTop (mkF m 8 #[.val (.ref p0), .val (.int 1), .val (.ref x0), .val (.long cj), .second, .val (.long zj), .second] [(.ref p0)]))) (fun _ kont => XS.aloadN X2.here hx rfl (hb hby d17_7) rfl rfl kont) ?_
  obtain ⟨T3, X3, e3, st3⟩ := getF X2 hx hZ hown (host := "") (Or.inl (oH hw 122 rfl)) Via.refl e2 c2_Fp0_values (g := (mkF m 8 #[.val (.ref p0), .val (.int 1), .val (.ref x0), .val (.long cj), .second, .val (.long zj), .second] [(.ref p0)])) rfl rfl (hb hby d17_8)
  refine own_go (S' := (T3.setTop (mkF m 11 #[.val (.ref p0), .val (.int 1), .val (.ref x0), .val (.long cj), .second, .val (.long zj), .second] [(.ref va)]))) st3 ?_
  refine own_go (S' := (T3.setTop (mkF m 15 #[.val (.ref p0), .val (.int 1), .val (.ref x0), .val (.long cj), .second, .val (.long zj), .second] [(.ref p0)]))) (fun _ kont => XS.ifnullNo X3.here hx rfl (hb hby d17_11) rfl (XS.aloadN X3.here hx rfl (hb hby d17_14) rfl rfl kont)) ?_
  obtain ⟨T4, X4, e4, st4⟩ := getF X3 hx hZ hown (host := "") (Or.inl (oH hw 122 rfl)) Via.refl e3 c2_Fp0_values (g := (mkF m 15 #[.val (.ref p0), .val (.int 1), .val (.ref x0), .val (.long cj), .second, .val (.long zj), .second] [(.ref p0)])) rfl rfl (hb hby d17_15)
  refine own_go (S' := (T4.setTop (mkF m 18 #[.val (.ref p0), .val (.int 1), .val (.ref x0), .val (.long cj), .second, .val (.long zj), .second] [(.ref va)]))) st4 ?_
  refine own_go (S' := (T4.setTop (mkF m 20 #[.val (.ref p0), .val (.int 1), .val (.ref x0), .val (.long cj), .second, .val (.long zj), .second] [(.long cj), (.int 1), (.ref va)]))) (fun _ kont => XS.iloadN X4.here hx rfl (hb hby d17_18) rfl (XS.lloadN X4.here hx rfl (hb hby d17_19) rfl kont)) ?_
  obtain ⟨cl5, Ar5, qc5, S5, M5, Ha5, Ga5⟩ := id c2_Vva
  obtain ⟨T5, h5, X5, e5, W5, st5⟩ := stJ X4 hx hZ e4 Ar5 (j := (1 : Int32)) (inb_of S5 ⟨by decide, by decide⟩) (g := (mkF m 20 #[.val (.ref p0), .val (.int 1), .val (.ref x0), .val (.long cj), .second, .val (.long zj), .second] [(.long cj), (.int 1), (.ref va)])) rfl rfl (hb hby d17_20)
  have c5_Ep0 := c2_Ep0.wr W5
  have c5_Fp0_found := c2_Fp0_found.other W5 (Or.inl npv)
  have c5_Fp0_foundCount := c2_Fp0_foundCount.other W5 (Or.inl npv)
  have c5_Fp0_passed := c2_Fp0_passed.other W5 (Or.inl npv)
  have c5_Fp0_values := c2_Fp0_values.other W5 (Or.inl npv)
  have c5_Vfa := V2.other W5 nfv
  have V5 : Arv Z h5 va kv .long (4 : Int32) [(.long v0), (.long cj)] (.long 0) := Arv.set Ar5 qc5 S5 M5 Ha5 Ga5 rfl W5 1 (by decide) (Nat.le_of_ble_eq_true rfl)
  have K5 := K2.wr W5 (Or.inl (List.mem_of_getElem? (i := 1) rfl))
  have N5 := Fr.snoc X5 N2 g_va
  have Z5 : n0 ≤ h5.size := Nat.le_trans Z2 (Nat.le_of_eq W5.size.symm)
  refine own_go (S' := (T5.setTop (mkF m 21 #[.val (.ref p0), .val (.int 1), .val (.ref x0), .val (.long cj), .second, .val (.long zj), .second] []))) st5 ?_
  refine own_go (S' := (T5.setTop (mkF m 22 #[.val (.ref p0), .val (.int 1), .val (.ref x0), .val (.long cj), .second, .val (.long zj), .second] [(.ref p0)]))) (fun _ kont => XS.aloadN X5.here hx rfl (hb hby d17_21) rfl rfl kont) ?_
  obtain ⟨T6, X6, e6, st6⟩ := getF X5 hx hZ hown (host := "") (Or.inl (oH hw 124 rfl)) Via.refl e5 c5_Fp0_passed (g := (mkF m 22 #[.val (.ref p0), .val (.int 1), .val (.ref x0), .val (.long cj), .second, .val (.long zj), .second] [(.ref p0)])) rfl rfl (hb hby d17_22)
  refine own_go (S' := (T6.setTop (mkF m 25 #[.val (.ref p0), .val (.int 1), .val (.ref x0), .val (.long cj), .second, .val (.long zj), .second] [.null]))) st6 ?_
  refine own_go (S' := (T6.setTop (mkF m 39 #[.val (.ref p0), .val (.int 1), .val (.ref x0), .val (.long cj), .second, .val (.long zj), .second] []))) (fun _ kont => XS.ifnullYes X6.here hx rfl (pc0 := 25) (pc' := 39) rfl (hb hby d17_25) rfl (by decide) (by decide) kont) ?_
  refine own_ret0 X6 hx hlk Bd.returns (hb hby d17_39) (by decide) (by decide) ?_
  rw [e6]
  exact ⟨rfl, N5, K5, c5_Vfa, V5⟩
theorem d23_0 : decode prog_64_method_15_code 0 = .ok (.aload_n 0, 1) := by decide +kernel
theorem d23_1 : decode prog_64_method_15_code 1 = .ok (.iload_n 2, 1) := by decide +kernel
theorem d23_2 : decode prog_64_method_15_code 2 = .ok (.aload_n 0, 1) := by decide +kernel
theorem d23_3 : decode prog_64_method_15_code 3 = .ok (.getfield 9, 3) := by decide +kernel
theorem d23_6 : decode prog_64_method_15_code 6 = .ok (.iload_n 1, 1) := by decide +kernel
theorem d23_7 : decode prog_64_method_15_code 7 = .ok (.aaload, 1) := by decide +kernel
theorem d23_8 : decode prog_64_method_15_code 8 = .ok (.aload_n 0, 1) := by decide +kernel
theorem d23_9 : decode prog_64_method_15_code 9 = .ok (.getfield 19, 3) := by decide +kernel
theorem d23_12 : decode prog_64_method_15_code 12 = .ok (.ifnonnull 7, 3) := by decide +kernel
theorem d23_15 : decode prog_64_method_15_code 15 = .ok (.lconst 0, 1) := by decide +kernel
theorem d23_16 : decode prog_64_method_15_code 16 = .ok (.goto 9, 3) := by decide +kernel
theorem d23_25 : decode prog_64_method_15_code 25 = .ok (.aload_n 0, 1) := by decide +kernel
theorem d23_26 : decode prog_64_method_15_code 26 = .ok (.getfield 125, 3) := by decide +kernel
theorem d23_29 : decode prog_64_method_15_code 29 = .ok (.ifnonnull 7, 3) := by decide +kernel
theorem d23_32 : decode prog_64_method_15_code 32 = .ok (.lconst 0, 1) := by decide +kernel
theorem d23_33 : decode prog_64_method_15_code 33 = .ok (.goto 12, 3) := by decide +kernel
theorem d23_45 : decode prog_64_method_15_code 45 = .ok (.invokevirtual 115, 3) := by decide +kernel
theorem pd_235 : parseMethodDescriptor "(ILcom/example/otaniemi/otaniemi/State;JJ)V" = some ⟨[.int, (.object "com/example/otaniemi/otaniemi/State"), .long, .long], none⟩ := by decide +kernel
theorem d23_48 : decode prog_64_method_15_code 48 = .ok (.return_, 1) := by decide +kernel
theorem ef_rmMv01N (m : MethodId) (x0 : Addr) (x1 : Int32) (x2 : Int32) : entryFrame m #[(.ref x0), (.int x1), (.int x2)] 3 = mkF m 0 #[.val (.ref x0), .val (.int x1), .val (.int x2)] [] := by first | (simp [entryFrame, mkF, argsToLocals, Value.category]; done) | rfl
def Q_rmMv01N (Z : State) (p0 fa : Addr) (kf : ClassId) (kc : Int32) (f1 : Value) (x0 : Addr) (h0 : Heap) (n0 : Nat) (v : Option Value) (h : Heap) (L : List Loc) : Prop := v = none ∧ Fr n0 L ∧ Keep h0 h [fa] ∧ Arv Z h fa kf (.object "com/example/otaniemi/otaniemi/State") (4 : Int32) [(.ref x0), (.ref x0)] .null
set_option maxRecDepth 65536 in
set_option maxHeartbeats 40000000 in
theorem rmMv01N (l : Launch) (Z : State) (a0 : Array Value) (hw : ∀ d ∈ tables_1, d.before a0 Z = true) (ws : List Jvm.Cond) (p0 fa : Addr) (kf : ClassId) (kc : Int32) (f1 : Value) (x0 : Addr) (h0 : Heap) (n0 : Nat) (Z0 : n0 ≤ h0.size) (E_p0 : Exa Z h0 p0 "com/example/otaniemi/otaniemi/Pending") (F_p0_found : Fld Z h0 p0 "com/example/otaniemi/otaniemi/Pending" "found" "[Lcom/example/otaniemi/otaniemi/State;" (.ref fa)) (F_p0_foundCount : Fld Z h0 p0 "com/example/otaniemi/otaniemi/Pending" "foundCount" "I" (.int kc)) (F_p0_passed : Fld Z h0 p0 "com/example/otaniemi/otaniemi/Pending" "passed" "Lcom/example/otaniemi/otaniemi/Pending$Passed;" .null) (F_p0_values : Fld Z h0 p0 "com/example/otaniemi/otaniemi/Pending" "values" "[J" .null) (g_p0 : n0 ≤ p0) (g_fa : n0 ≤ fa) (V_fa : Arv Z h0 fa kf (.object "com/example/otaniemi/otaniemi/State") (4 : Int32) [(.ref x0), f1] .null) (O_fa : Ovr Z kf "com/example/otaniemi/otaniemi/State") (Ex : Exa Z h0 x0 "com/example/otaniemi/otaniemi/State") :
    MetFree l (⟨"com/example/otaniemi/otaniemi/Pending", "move", "(II)V"⟩ : MethodName) (head1 (Jvm.Cond.code (⟨"com/example/otaniemi/otaniemi/Pending", "move", "(II)V"⟩ : MethodName) prog_64_method_15_code 3 none :: ws) ({ frames := 1, cells := 0, slots := 0, locals := 18 } : Room)) (fun a U => a = #[(.ref p0), (.int 0), (.int 1)] ∧ Z.Warmed39 U.vm ∧ U.heap = h0) (fun _ _ _ _ _ => True) (fun _ U o U' => ∃ v L, o = .returned v ∧ Q_rmMv01N Z p0 fa kf kc f1 x0 h0 n0 v U'.heap L ∧ FrameEnd U o U' L ({ frames := 1, cells := 0, slots := 0, locals := 18 } : Room).cells ({ frames := 1, cells := 0, slots := 0, locals := 18 } : Room).slots) := by
  refine MetFree.of_bodySF (plainFor_of_name pn_151) hisR ?_
  intro p e s m args below meth c s₁ Bd hml0 hP hK
  obtain ⟨rfl, hZ, hh⟩ := hP
  have hx := Bd.exec
  have hby := Bd.bytes
  have hlk := Bd.notSynchronized
  have hml : c.maxLocals = 3 := hml0
  have hown : s.vm.findClass "com/example/otaniemi/otaniemi/Pending" = some m.cls := findClass_of_methodNamed Bd.named
  have hnm := (name_of_methodNamed Bd.named Bd.method).1
  have X0 : Stand p l e ({ frames := 1, cells := 0, slots := 0, locals := 18 } : Room) s m #[(.ref p0), (.int 0), (.int 1)] below meth c s₁ [] 0 0 := Stand.of_body Bd
  have e0 : s₁.heap = h0 := by rw [← hh, Bd.state]; rfl
  have N0 := Fr.nil n0
  change own_Go p e below s (Q_rmMv01N Z p0 fa kf kc f1 x0 h0 n0) ({ frames := 1, cells := 0, slots := 0, locals := 18 } : Room).cells ({ frames := 1, cells := 0, slots := 0, locals := 18 } : Room).slots _
  refine own_go (S' := (s₁.setTop (mkF m 0 #[.val (.ref p0), .val (.int 0), .val (.int 1)] []))) (fun _ kont => castTop (ef_rmMv01N m p0 (0 : Int32) (1 : Int32)) kont) ?_
  have npf := E_p0.neArv V_fa (oH hw 55 rfl)
  have K0 := Keep.refl h0 [fa]
  refine own_go (S' := (s₁.setTop (mkF m 3 #[.val (.ref p0), .val (.int 0), .val (.int 1)] [(.ref p0), (.int 1), (.ref p0)]))) (fun _ kont => XS.aloadN X0.here hx rfl (hb hby d23_0) rfl rfl (XS.iloadN X0.here hx rfl (hb hby d23_1) rfl (XS.aloadN X0.here hx rfl (hb hby d23_2) rfl rfl kont))) ?_
  obtain ⟨T1, X1, e1, st1⟩ := getF X0 hx hZ hown (host := "") (Or.inl (oH hw 63 rfl)) Via.refl e0 F_p0_found (g := (mkF m 3 #[.val (.ref p0), .val (.int 0), .val (.int 1)] [(.ref p0), (.int 1), (.ref p0)])) rfl rfl (hb hby d23_3)
  refine own_go (S' := (T1.setTop (mkF m 6 #[.val (.ref p0), .val (.int 0), .val (.int 1)] [(.ref fa), (.int 1), (.ref p0)]))) st1 ?_
  refine own_go (S' := (T1.setTop (mkF m 7 #[.val (.ref p0), .val (.int 0), .val (.int 1)] [(.int 0), (.ref fa), (.int 1), (.ref p0)]))) (fun _ kont => XS.iloadN X1.here hx rfl (hb hby d23_6) rfl kont) ?_
  obtain ⟨cl2, Ar2, -, S2, -, H2, -⟩ := id V_fa
  have hin2 := inb_of (j := (0 : Int32)) S2 ⟨by decide, by decide⟩
  have hat2 := Has.at (v := (.ref x0)) H2 hin2 (by first | rfl | decide)
  refine own_go (S' := (T1.setTop (mkF m 8 #[.val (.ref p0), .val (.int 0), .val (.int 1)] [(.ref x0), (.int 1), (.ref p0)]))) (fun _ kont => X1.aaload hx (j := (0 : Int32)) (v := (.ref x0)) (by rw [e1]; exact Ar2.1) (State.isArrayOf_alike hZ.alike Ar2.2.1) rfl Ar2.2.2 hin2 hat2 (g := (mkF m 7 #[.val (.ref p0), .val (.int 0), .val (.int 1)] [(.int 0), (.ref fa), (.int 1), (.ref p0)])) rfl rfl (hb hby d23_7) _ kont) ?_
  refine own_go (S' := (T1.setTop (mkF m 9 #[.val (.ref p0), .val (.int 0), .val (.int 1)] [(.ref p0), (.ref x0), (.int 1), (.ref p0)]))) (fun _ kont => XS.aloadN X1.here hx rfl (hb hby d23_8) rfl rfl kont) ?_
  obtain ⟨T3, X3, e3, st3⟩ := getF X1 hx hZ hown (host := "") (Or.inl (oH hw 122 rfl)) Via.refl e1 F_p0_values (g := (mkF m 9 #[.val (.ref p0), .val (.int 0), .val (.int 1)] [(.ref p0), (.ref x0), (.int 1), (.ref p0)])) rfl rfl (hb hby d23_9)
  refine own_go (S' := (T3.setTop (mkF m 12 #[.val (.ref p0), .val (.int 0), .val (.int 1)] [.null, (.ref x0), (.int 1), (.ref p0)]))) st3 ?_
  refine own_go (S' := (T3.setTop (mkF m 26 #[.val (.ref p0), .val (.int 0), .val (.int 1)] [(.ref p0), (.long 0), (.ref x0), (.int 1), (.ref p0)]))) (fun _ kont => XS.ifnonnullNo X3.here hx rfl (hb hby d23_12) rfl (XS.lconst X3.here hx rfl (hb hby d23_15) (XS.goto X3.here hx rfl (pc0 := 16) (pc' := 25) rfl (hb hby d23_16) (by decide) (by decide) (XS.aloadN X3.here hx rfl (hb hby d23_25) rfl rfl kont)))) ?_
  obtain ⟨T4, X4, e4, st4⟩ := getF X3 hx hZ hown (host := "") (Or.inl (oH hw 124 rfl)) Via.refl e3 F_p0_passed (g := (mkF m 26 #[.val (.ref p0), .val (.int 0), .val (.int 1)] [(.ref p0), (.long 0), (.ref x0), (.int 1), (.ref p0)])) rfl rfl (hb hby d23_26)
  refine own_go (S' := (T4.setTop (mkF m 29 #[.val (.ref p0), .val (.int 0), .val (.int 1)] [.null, (.long 0), (.ref x0), (.int 1), (.ref p0)]))) st4 ?_
  refine own_go (S' := (T4.setTop (mkF m 45 #[.val (.ref p0), .val (.int 0), .val (.int 1)] [(.long 0), (.long 0), (.ref x0), (.int 1), (.ref p0)]))) (fun _ kont => XS.ifnonnullNo X4.here hx rfl (hb hby d23_29) rfl (XS.lconst X4.here hx rfl (hb hby d23_32) (XS.goto X4.here hx rfl (pc0 := 33) (pc' := 45) rfl (hb hby d23_33) (by decide) (by decide) kont))) ?_
  obtain ⟨cq5, qp5, qp5'⟩ := E_p0.cell
  obtain ⟨v5, _, ⟨T5, L5, k5, n5⟩, -, X5, ⟨Lc5, hQ5, l5, y5, z5⟩, st5⟩ := X4.privateBack hx (y := (⟨"com/example/otaniemi/otaniemi/Pending", "put", "(ILcom/example/otaniemi/otaniemi/State;JJ)V"⟩ : MethodName)) hown (mvT hZ (oH hw 117 rfl)) (mvT hZ (oH hw 118 rfl)) (own_selP (args := #[]) (mvT hZ (oH hw 55 rfl)) (mvP hZ (oH hw 119 rfl)) (mvT hZ (oH hw 118 rfl)) (by decide)) (Cond.privateMethod_at (mvP hZ (oH hw 119 rfl) (args := #[]))) (mvT hZ (oH hw 120 rfl)) (by decide) (backOf (W := 0) (rmPu1N l Z a0 hw [] p0 fa kf kc (.ref x0) f1 x0 (0 : Int64) (0 : Int64) h0 n0 Z0 E_p0 F_p0_found F_p0_foundCount F_p0_passed F_p0_values g_p0 g_fa V_fa O_fa Ex) hZ (oH hw 120 rfl) (oH hw 56 rfl) (by decide) (by decide)) (g := (mkF m 45 #[.val (.ref p0), .val (.int 0), .val (.int 1)] [(.long 0), (.long 0), (.ref x0), (.int 1), (.ref p0)])) rfl (by rw [hml]; rfl) (Steps.refl _) (a := p0) (by rw [e4]; exact qp5) qp5' (argsL := [(.int 1), (.ref x0), (.long 0), (.long 0)]) (rest := []) (lenOf pd_235 rfl) rfl (by show 2 * 0 + _ ≤ _; exact Nat.le_of_eq rfl) (hb hby d23_45) (fun _ _ => ⟨rfl, e4, (by decide : 0 + 0 ≤ _), (by decide : 0 + 0 ≤ _)⟩)
  dsimp only [Pt.U, Pt.locs, Pt.cells, Pt.slots] at X5 l5 y5 z5 st5 hQ5
  subst l5 y5 z5
  obtain ⟨rfl, Nq5, Kc5, Vf5⟩ := hQ5
  have Kt5 := K0.trans Kc5 (fun x hx => by simp only [List.mem_cons, List.mem_singleton, List.not_mem_nil, or_false] at hx; rcases hx with rfl <;> first | (left; simp; done) | (right; assumption))
  have N5 := Fr.app N0 Nq5
  have Z5 : n0 ≤ T5.heap.size := Nat.le_trans Z0 Kc5.1
  have c5_Ep0 := E_p0.keep Kc5
  have c5_Fp0_found := F_p0_found.keep Kc5 (ninS npf nin0)
  have c5_Fp0_foundCount := F_p0_foundCount.keep Kc5 (ninS npf nin0)
  have c5_Fp0_passed := F_p0_passed.keep Kc5 (ninS npf nin0)
  have c5_Fp0_values := F_p0_values.keep Kc5 (ninS npf nin0)
  refine own_goT (S' := (T5.setTop (mkF m 48 #[.val (.ref p0), .val (.int 0), .val (.int 1)] []))) st5 ?_
  refine own_ret0 X5 hx hlk Bd.returns (hb hby d23_48) (by decide) (by decide) ?_
  exact ⟨rfl, N5, Kt5, Vf5⟩
theorem d23_19 : decode prog_64_method_15_code 19 = .ok (.aload_n 0, 1) := by decide +kernel
theorem d23_20 : decode prog_64_method_15_code 20 = .ok (.getfield 19, 3) := by decide +kernel
theorem d23_23 : decode prog_64_method_15_code 23 = .ok (.iload_n 1, 1) := by decide +kernel
theorem d23_24 : decode prog_64_method_15_code 24 = .ok (.laload, 1) := by decide +kernel
theorem ef_rmMv01A (m : MethodId) (x0 : Addr) (x1 : Int32) (x2 : Int32) : entryFrame m #[(.ref x0), (.int x1), (.int x2)] 3 = mkF m 0 #[.val (.ref x0), .val (.int x1), .val (.int x2)] [] := by first | (simp [entryFrame, mkF, argsToLocals, Value.category]; done) | rfl
def Q_rmMv01A (Z : State) (p0 fa : Addr) (kf : ClassId) (kc : Int32) (f1 : Value) (va : Addr) (kv : ClassId) (v0 v1 : Int64) (x0 : Addr) (h0 : Heap) (n0 : Nat) (v : Option Value) (h : Heap) (L : List Loc) : Prop := v = none ∧ Fr n0 L ∧ Keep h0 h [fa, va] ∧ Arv Z h fa kf (.object "com/example/otaniemi/otaniemi/State") (4 : Int32) [(.ref x0), (.ref x0)] .null ∧ Arv Z h va kv .long (4 : Int32) [(.long v0), (.long v0)] (.long 0)
set_option maxRecDepth 65536 in
set_option maxHeartbeats 40000000 in
theorem rmMv01A (l : Launch) (Z : State) (a0 : Array Value) (hw : ∀ d ∈ tables_1, d.before a0 Z = true) (ws : List Jvm.Cond) (p0 fa : Addr) (kf : ClassId) (kc : Int32) (f1 : Value) (va : Addr) (kv : ClassId) (v0 v1 : Int64) (x0 : Addr) (h0 : Heap) (n0 : Nat) (Z0 : n0 ≤ h0.size) (E_p0 : Exa Z h0 p0 "com/example/otaniemi/otaniemi/Pending") (F_p0_found : Fld Z h0 p0 "com/example/otaniemi/otaniemi/Pending" "found" "[Lcom/example/otaniemi/otaniemi/State;" (.ref fa)) (F_p0_foundCount : Fld Z h0 p0 "com/example/otaniemi/otaniemi/Pending" "foundCount" "I" (.int kc)) (F_p0_passed : Fld Z h0 p0 "com/example/otaniemi/otaniemi/Pending" "passed" "Lcom/example/otaniemi/otaniemi/Pending$Passed;" .null) (F_p0_values : Fld Z h0 p0 "com/example/otaniemi/otaniemi/Pending" "values" "[J" (.ref va)) (g_p0 : n0 ≤ p0) (g_fa : n0 ≤ fa) (V_fa : Arv Z h0 fa kf (.object "com/example/otaniemi/otaniemi/State") (4 : Int32) [(.ref x0), f1] .null) (O_fa : Ovr Z kf "com/example/otaniemi/otaniemi/State") (g_va : n0 ≤ va) (nfv : fa ≠ va) (V_va : Arv Z h0 va kv .long (4 : Int32) [(.long v0), (.long v1)] (.long 0)) (Ex : Exa Z h0 x0 "com/example/otaniemi/otaniemi/State") :
    MetFree l (⟨"com/example/otaniemi/otaniemi/Pending", "move", "(II)V"⟩ : MethodName) (head1 (Jvm.Cond.code (⟨"com/example/otaniemi/otaniemi/Pending", "move", "(II)V"⟩ : MethodName) prog_64_method_15_code 3 none :: ws) ({ frames := 1, cells := 0, slots := 0, locals := 18 } : Room)) (fun a U => a = #[(.ref p0), (.int 0), (.int 1)] ∧ Z.Warmed39 U.vm ∧ U.heap = h0) (fun _ _ _ _ _ => True) (fun _ U o U' => ∃ v L, o = .returned v ∧ Q_rmMv01A Z p0 fa kf kc f1 va kv v0 v1 x0 h0 n0 v U'.heap L ∧ FrameEnd U o U' L ({ frames := 1, cells := 0, slots := 0, locals := 18 } : Room).cells ({ frames := 1, cells := 0, slots := 0, locals := 18 } : Room).slots) := by
  refine MetFree.of_bodySF (plainFor_of_name pn_151) hisR ?_
  intro p e s m args below meth c s₁ Bd hml0 hP hK
  obtain ⟨rfl, hZ, hh⟩ := hP
  have hx := Bd.exec
  have hby := Bd.bytes
  have hlk := Bd.notSynchronized
  have hml : c.maxLocals = 3 := hml0
  have hown : s.vm.findClass "com/example/otaniemi/otaniemi/Pending" = some m.cls := findClass_of_methodNamed Bd.named
  have hnm := (name_of_methodNamed Bd.named Bd.method).1
  have X0 : Stand p l e ({ frames := 1, cells := 0, slots := 0, locals := 18 } : Room) s m #[(.ref p0), (.int 0), (.int 1)] below meth c s₁ [] 0 0 := Stand.of_body Bd
  have e0 : s₁.heap = h0 := by rw [← hh, Bd.state]; rfl
  have N0 := Fr.nil n0
  change own_Go p e below s (Q_rmMv01A Z p0 fa kf kc f1 va kv v0 v1 x0 h0 n0) ({ frames := 1, cells := 0, slots := 0, locals := 18 } : Room).cells ({ frames := 1, cells := 0, slots := 0, locals := 18 } : Room).slots _
  refine own_go (S' := (s₁.setTop (mkF m 0 #[.val (.ref p0), .val (.int 0), .val (.int 1)] []))) (fun _ kont => castTop (ef_rmMv01A m p0 (0 : Int32) (1 : Int32)) kont) ?_
  have npf := E_p0.neArv V_fa (oH hw 55 rfl)
  have npv := E_p0.neArv V_va (oH hw 55 rfl)
  have K0 := Keep.refl h0 [fa, va]
  refine own_go (S' := (s₁.setTop (mkF m 3 #[.val (.ref p0), .val (.int 0), .val (.int 1)] [(.ref p0), (.int 1), (.ref p0)]))) (fun _ kont => XS.aloadN X0.here hx rfl (hb hby d23_0) rfl rfl (XS.iloadN X0.here hx rfl (hb hby d23_1) rfl (XS.aloadN X0.here hx rfl (hb hby d23_2) rfl rfl kont))) ?_
  obtain ⟨T1, X1, e1, st1⟩ := getF X0 hx hZ hown (host := "") (Or.inl (oH hw 63 rfl)) Via.refl e0 F_p0_found (g := (mkF m 3 #[.val (.ref p0), .val (.int 0), .val (.int 1)] [(.ref p0), (.int 1), (.ref p0)])) rfl rfl (hb hby d23_3)
  refine own_go (S' := (T1.setTop (mkF m 6 #[.val (.ref p0), .val (.int 0), .val (.int 1)] [(.ref fa), (.int 1), (.ref p0)]))) st1 ?_
  refine own_go (S' := (T1.setTop (mkF m 7 #[.val (.ref p0), .val (.int 0), .val (.int 1)] [(.int 0), (.ref fa), (.int 1), (.ref p0)]))) (fun _ kont => XS.iloadN X1.here hx rfl (hb hby d23_6) rfl kont) ?_
  obtain ⟨cl2, Ar2, -, S2, -, H2, -⟩ := id V_fa
  have hin2 := inb_of (j := (0 : Int32)) S2 ⟨by decide, by decide⟩
  have hat2 := Has.at (v := (.ref x0)) H2 hin2 (by first | rfl | decide)
  refine own_go (S' := (T1.setTop (mkF m 8 #[.val (.ref p0), .val (.int 0), .val (.int 1)] [(.ref x0), (.int 1), (.ref p0)]))) (fun _ kont => X1.aaload hx (j := (0 : Int32)) (v := (.ref x0)) (by rw [e1]; exact Ar2.1) (State.isArrayOf_alike hZ.alike Ar2.2.1) rfl Ar2.2.2 hin2 hat2 (g := (mkF m 7 #[.val (.ref p0), .val (.int 0), .val (.int 1)] [(.int 0), (.ref fa), (.int 1), (.ref p0)])) rfl rfl (hb hby d23_7) _ kont) ?_
  refine own_go (S' := (T1.setTop (mkF m 9 #[.val (.ref p0), .val (.int 0), .val (.int 1)] [(.ref p0), (.ref x0), (.int 1), (.ref p0)]))) (fun _ kont => XS.aloadN X1.here hx rfl (hb hby d23_8) rfl rfl kont) ?_
  obtain ⟨T3, X3, e3, st3⟩ := getF X1 hx hZ hown (host := "") (Or.inl (oH hw 122 rfl)) Via.refl e1 F_p0_values (g := (mkF m 9 #[.val (.ref p0), .val (.int 0), .val (.int 1)] [(.ref p0), (.ref x0), (.int 1), (.ref p0)])) rfl rfl (hb hby d23_9)
  refine own_go (S' := (T3.setTop (mkF m 12 #[.val (.ref p0), .val (.int 0), .val (.int 1)] [(.ref va), (.ref x0), (.int 1), (.ref p0)]))) st3 ?_
  refine own_go (S' := (T3.setTop (mkF m 20 #[.val (.ref p0), .val (.int 0), .val (.int 1)] [(.ref p0), (.ref x0), (.int 1), (.ref p0)]))) (fun _ kont => XS.ifnonnullYes X3.here hx rfl (pc0 := 12) (pc' := 19) rfl (hb hby d23_12) rfl (by decide) (by decide) (XS.aloadN X3.here hx rfl (hb hby d23_19) rfl rfl kont)) ?_
  obtain ⟨T4, X4, e4, st4⟩ := getF X3 hx hZ hown (host := "") (Or.inl (oH hw 122 rfl)) Via.refl e3 F_p0_values (g := (mkF m 20 #[.val (.ref p0), .val (.int 0), .val (.int 1)] [(.ref p0), (.ref x0), (.int 1), (.ref p0)])) rfl rfl (hb hby d23_20)
  refine own_go (S' := (T4.setTop (mkF m 23 #[.val (.ref p0), .val (.int 0), .val (.int 1)] [(.ref va), (.ref x0), (.int 1), (.ref p0)]))) st4 ?_
  refine own_go (S' := (T4.setTop (mkF m 24 #[.val (.ref p0), .val (.int 0), .val (.int 1)] [(.int 0), (.ref va), (.ref x0), (.int 1), (.ref p0)]))) (fun _ kont => XS.iloadN X4.here hx rfl (hb hby d23_23) rfl kont) ?_
  obtain ⟨cl5, Ar5, -, S5, -, H5, -⟩ := id V_va
  have hin5 := inb_of (j := (0 : Int32)) S5 ⟨by decide, by decide⟩
  have hat5 := Has.at (v := (.long v0)) H5 hin5 (by first | rfl | decide)
  refine own_go (S' := (T4.setTop (mkF m 25 #[.val (.ref p0), .val (.int 0), .val (.int 1)] [(.long v0), (.ref x0), (.int 1), (.ref p0)]))) (fun _ kont => X4.laload hx (j := (0 : Int32)) (v := (.long v0)) (by rw [e4]; exact Ar5.1) (State.isArrayOf_alike hZ.alike Ar5.2.1) Ar5.2.2 hin5 hat5 (g := (mkF m 24 #[.val (.ref p0), .val (.int 0), .val (.int 1)] [(.int 0), (.ref va), (.ref x0), (.int 1), (.ref p0)])) rfl rfl (hb hby d23_24) _ kont) ?_
  refine own_go (S' := (T4.setTop (mkF m 26 #[.val (.ref p0), .val (.int 0), .val (.int 1)] [(.ref p0), (.long v0), (.ref x0), (.int 1), (.ref p0)]))) (fun _ kont => XS.aloadN X4.here hx rfl (hb hby d23_25) rfl rfl kont) ?_
  obtain ⟨T6, X6, e6, st6⟩ := getF X4 hx hZ hown (host := "") (Or.inl (oH hw 124 rfl)) Via.refl e4 F_p0_passed (g := (mkF m 26 #[.val (.ref p0), .val (.int 0), .val (.int 1)] [(.ref p0), (.long v0), (.ref x0), (.int 1), (.ref p0)])) rfl rfl (hb hby d23_26)
  refine own_go (S' := (T6.setTop (mkF m 29 #[.val (.ref p0), .val (.int 0), .val (.int 1)] [.null, (.long v0), (.ref x0), (.int 1), (.ref p0)]))) st6 ?_
  refine own_go (S' := (T6.setTop (mkF m 45 #[.val (.ref p0), .val (.int 0), .val (.int 1)] [(.long 0), (.long v0), (.ref x0), (.int 1), (.ref p0)]))) (fun _ kont => XS.ifnonnullNo X6.here hx rfl (hb hby d23_29) rfl (XS.lconst X6.here hx rfl (hb hby d23_32) (XS.goto X6.here hx rfl (pc0 := 33) (pc' := 45) rfl (hb hby d23_33) (by decide) (by decide) kont))) ?_
  obtain ⟨cq7, qp7, qp7'⟩ := E_p0.cell
  obtain ⟨v7, _, ⟨T7, L7, k7, n7⟩, -, X7, ⟨Lc7, hQ7, l7, y7, z7⟩, st7⟩ := X6.privateBack hx (y := (⟨"com/example/otaniemi/otaniemi/Pending", "put", "(ILcom/example/otaniemi/otaniemi/State;JJ)V"⟩ : MethodName)) hown (mvT hZ (oH hw 117 rfl)) (mvT hZ (oH hw 118 rfl)) (own_selP (args := #[]) (mvT hZ (oH hw 55 rfl)) (mvP hZ (oH hw 119 rfl)) (mvT hZ (oH hw 118 rfl)) (by decide)) (Cond.privateMethod_at (mvP hZ (oH hw 119 rfl) (args := #[]))) (mvT hZ (oH hw 120 rfl)) (by decide) (backOf (W := 0) (rmPu1A l Z a0 hw [] p0 fa kf kc (.ref x0) f1 va kv v0 v1 x0 v0 (0 : Int64) h0 n0 Z0 E_p0 F_p0_found F_p0_foundCount F_p0_passed F_p0_values g_p0 g_fa V_fa O_fa g_va nfv V_va Ex) hZ (oH hw 120 rfl) (oH hw 56 rfl) (by decide) (by decide)) (g := (mkF m 45 #[.val (.ref p0), .val (.int 0), .val (.int 1)] [(.long 0), (.long v0), (.ref x0), (.int 1), (.ref p0)])) rfl (by rw [hml]; rfl) (Steps.refl _) (a := p0) (by rw [e6]; exact qp7) qp7' (argsL := [(.int 1), (.ref x0), (.long v0), (.long 0)]) (rest := []) (lenOf pd_235 rfl) rfl (by show 2 * 0 + _ ≤ _; exact Nat.le_of_eq rfl) (hb hby d23_45) (fun _ _ => ⟨rfl, e6, (by decide : 0 + 0 ≤ _), (by decide : 0 + 0 ≤ _)⟩)
  dsimp only [Pt.U, Pt.locs, Pt.cells, Pt.slots] at X7 l7 y7 z7 st7 hQ7
  subst l7 y7 z7
  obtain ⟨rfl, Nq7, Kc7, Vf7, Vv7⟩ := hQ7
  have Kt7 := K0.trans Kc7 (fun x hx => by simp only [List.mem_cons, List.mem_singleton, List.not_mem_nil, or_false] at hx; rcases hx with rfl | rfl <;> first | (left; simp; done) | (right; assumption))
  have N7 := Fr.app N0 Nq7
  have Z7 : n0 ≤ T7.heap.size := Nat.le_trans Z0 Kc7.1
  have c7_Ep0 := E_p0.keep Kc7
  have c7_Fp0_found := F_p0_found.keep Kc7 (ninS npf (ninS npv nin0))
  have c7_Fp0_foundCount := F_p0_foundCount.keep Kc7 (ninS npf (ninS npv nin0))
  have c7_Fp0_passed := F_p0_passed.keep Kc7 (ninS npf (ninS npv nin0))
  have c7_Fp0_values := F_p0_values.keep Kc7 (ninS npf (ninS npv nin0))
  refine own_goT (S' := (T7.setTop (mkF m 48 #[.val (.ref p0), .val (.int 0), .val (.int 1)] []))) st7 ?_
  refine own_ret0 X7 hx hlk Bd.returns (hb hby d23_48) (by decide) (by decide) ?_
  exact ⟨rfl, N7, Kt7, Vf7, Vv7⟩
theorem ef_rmMv00N (m : MethodId) (x0 : Addr) (x1 : Int32) (x2 : Int32) : entryFrame m #[(.ref x0), (.int x1), (.int x2)] 3 = mkF m 0 #[.val (.ref x0), .val (.int x1), .val (.int x2)] [] := by first | (simp [entryFrame, mkF, argsToLocals, Value.category]; done) | rfl
def Q_rmMv00N (Z : State) (p0 fa : Addr) (kf : ClassId) (kc : Int32) (f1 : Value) (x0 : Addr) (h0 : Heap) (n0 : Nat) (v : Option Value) (h : Heap) (L : List Loc) : Prop := v = none ∧ Fr n0 L ∧ Keep h0 h [fa] ∧ Arv Z h fa kf (.object "com/example/otaniemi/otaniemi/State") (4 : Int32) [(.ref x0), f1] .null
set_option maxRecDepth 65536 in
set_option maxHeartbeats 40000000 in
theorem rmMv00N (l : Launch) (Z : State) (a0 : Array Value) (hw : ∀ d ∈ tables_1, d.before a0 Z = true) (ws : List Jvm.Cond) (p0 fa : Addr) (kf : ClassId) (kc : Int32) (f1 : Value) (x0 : Addr) (h0 : Heap) (n0 : Nat) (Z0 : n0 ≤ h0.size) (E_p0 : Exa Z h0 p0 "com/example/otaniemi/otaniemi/Pending") (F_p0_found : Fld Z h0 p0 "com/example/otaniemi/otaniemi/Pending" "found" "[Lcom/example/otaniemi/otaniemi/State;" (.ref fa)) (F_p0_foundCount : Fld Z h0 p0 "com/example/otaniemi/otaniemi/Pending" "foundCount" "I" (.int kc)) (F_p0_passed : Fld Z h0 p0 "com/example/otaniemi/otaniemi/Pending" "passed" "Lcom/example/otaniemi/otaniemi/Pending$Passed;" .null) (F_p0_values : Fld Z h0 p0 "com/example/otaniemi/otaniemi/Pending" "values" "[J" .null) (g_p0 : n0 ≤ p0) (g_fa : n0 ≤ fa) (V_fa : Arv Z h0 fa kf (.object "com/example/otaniemi/otaniemi/State") (4 : Int32) [(.ref x0), f1] .null) (O_fa : Ovr Z kf "com/example/otaniemi/otaniemi/State") (Ex : Exa Z h0 x0 "com/example/otaniemi/otaniemi/State") :
    MetFree l (⟨"com/example/otaniemi/otaniemi/Pending", "move", "(II)V"⟩ : MethodName) (head1 (Jvm.Cond.code (⟨"com/example/otaniemi/otaniemi/Pending", "move", "(II)V"⟩ : MethodName) prog_64_method_15_code 3 none :: ws) ({ frames := 1, cells := 0, slots := 0, locals := 18 } : Room)) (fun a U => a = #[(.ref p0), (.int 0), (.int 0)] ∧ Z.Warmed39 U.vm ∧ U.heap = h0) (fun _ _ _ _ _ => True) (fun _ U o U' => ∃ v L, o = .returned v ∧ Q_rmMv00N Z p0 fa kf kc f1 x0 h0 n0 v U'.heap L ∧ FrameEnd U o U' L ({ frames := 1, cells := 0, slots := 0, locals := 18 } : Room).cells ({ frames := 1, cells := 0, slots := 0, locals := 18 } : Room).slots) := by
  refine MetFree.of_bodySF (plainFor_of_name pn_151) hisR ?_
  intro p e s m args below meth c s₁ Bd hml0 hP hK
  obtain ⟨rfl, hZ, hh⟩ := hP
  have hx := Bd.exec
  have hby := Bd.bytes
  have hlk := Bd.notSynchronized
  have hml : c.maxLocals = 3 := hml0
  have hown : s.vm.findClass "com/example/otaniemi/otaniemi/Pending" = some m.cls := findClass_of_methodNamed Bd.named
  have hnm := (name_of_methodNamed Bd.named Bd.method).1
  have X0 : Stand p l e ({ frames := 1, cells := 0, slots := 0, locals := 18 } : Room) s m #[(.ref p0), (.int 0), (.int 0)] below meth c s₁ [] 0 0 := Stand.of_body Bd
  have e0 : s₁.heap = h0 := by rw [← hh, Bd.state]; rfl
  have N0 := Fr.nil n0
  change own_Go p e below s (Q_rmMv00N Z p0 fa kf kc f1 x0 h0 n0) ({ frames := 1, cells := 0, slots := 0, locals := 18 } : Room).cells ({ frames := 1, cells := 0, slots := 0, locals := 18 } : Room).slots _
  refine own_go (S' := (s₁.setTop (mkF m 0 #[.val (.ref p0), .val (.int 0), .val (.int 0)] []))) (fun _ kont => castTop (ef_rmMv00N m p0 (0 : Int32) (0 : Int32)) kont) ?_
  have npf := E_p0.neArv V_fa (oH hw 55 rfl)
  have K0 := Keep.refl h0 [fa]
  refine own_go (S' := (s₁.setTop (mkF m 3 #[.val (.ref p0), .val (.int 0), .val (.int 0)] [(.ref p0), (.int 0), (.ref p0)]))) (fun _ kont => XS.aloadN X0.here hx rfl (hb hby d23_0) rfl rfl (XS.iloadN X0.here hx rfl (hb hby d23_1) rfl (XS.aloadN X0.here hx rfl (hb hby d23_2) rfl rfl kont))) ?_
  obtain ⟨T1, X1, e1, st1⟩ := getF X0 hx hZ hown (host := "") (Or.inl (oH hw 63 rfl)) Via.refl e0 F_p0_found (g := (mkF m 3 #[.val (.ref p0), .val (.int 0), .val (.int 0)] [(.ref p0), (.int 0), (.ref p0)])) rfl rfl (hb hby d23_3)
  refine own_go (S' := (T1.setTop (mkF m 6 #[.val (.ref p0), .val (.int 0), .val (.int 0)] [(.ref fa), (.int 0), (.ref p0)]))) st1 ?_
  refine own_go (S' := (T1.setTop (mkF m 7 #[.val (.ref p0), .val (.int 0), .val (.int 0)] [(.int 0), (.ref fa), (.int 0), (.ref p0)]))) (fun _ kont => XS.iloadN X1.here hx rfl (hb hby d23_6) rfl kont) ?_
  obtain ⟨cl2, Ar2, -, S2, -, H2, -⟩ := id V_fa
  have hin2 := inb_of (j := (0 : Int32)) S2 ⟨by decide, by decide⟩
  have hat2 := Has.at (v := (.ref x0)) H2 hin2 (by first | rfl | decide)
  refine own_go (S' := (T1.setTop (mkF m 8 #[.val (.ref p0), .val (.int 0), .val (.int 0)] [(.ref x0), (.int 0), (.ref p0)]))) (fun _ kont => X1.aaload hx (j := (0 : Int32)) (v := (.ref x0)) (by rw [e1]; exact Ar2.1) (State.isArrayOf_alike hZ.alike Ar2.2.1) rfl Ar2.2.2 hin2 hat2 (g := (mkF m 7 #[.val (.ref p0), .val (.int 0), .val (.int 0)] [(.int 0), (.ref fa), (.int 0), (.ref p0)])) rfl rfl (hb hby d23_7) _ kont) ?_
  refine own_go (S' := (T1.setTop (mkF m 9 #[.val (.ref p0), .val (.int 0), .val (.int 0)] [(.ref p0), (.ref x0), (.int 0), (.ref p0)]))) (fun _ kont => XS.aloadN X1.here hx rfl (hb hby d23_8) rfl rfl kont) ?_
  obtain ⟨T3, X3, e3, st3⟩ := getF X1 hx hZ hown (host := "") (Or.inl (oH hw 122 rfl)) Via.refl e1 F_p0_values (g := (mkF m 9 #[.val (.ref p0), .val (.int 0), .val (.int 0)] [(.ref p0), (.ref x0), (.int 0), (.ref p0)])) rfl rfl (hb hby d23_9)
  refine own_go (S' := (T3.setTop (mkF m 12 #[.val (.ref p0), .val (.int 0), .val (.int 0)] [.null, (.ref x0), (.int 0), (.ref p0)]))) st3 ?_
  refine own_go (S' := (T3.setTop (mkF m 26 #[.val (.ref p0), .val (.int 0), .val (.int 0)] [(.ref p0), (.long 0), (.ref x0), (.int 0), (.ref p0)]))) (fun _ kont => XS.ifnonnullNo X3.here hx rfl (hb hby d23_12) rfl (XS.lconst X3.here hx rfl (hb hby d23_15) (XS.goto X3.here hx rfl (pc0 := 16) (pc' := 25) rfl (hb hby d23_16) (by decide) (by decide) (XS.aloadN X3.here hx rfl (hb hby d23_25) rfl rfl kont)))) ?_
  obtain ⟨T4, X4, e4, st4⟩ := getF X3 hx hZ hown (host := "") (Or.inl (oH hw 124 rfl)) Via.refl e3 F_p0_passed (g := (mkF m 26 #[.val (.ref p0), .val (.int 0), .val (.int 0)] [(.ref p0), (.long 0), (.ref x0), (.int 0), (.ref p0)])) rfl rfl (hb hby d23_26)
  refine own_go (S' := (T4.setTop (mkF m 29 #[.val (.ref p0), .val (.int 0), .val (.int 0)] [.null, (.long 0), (.ref x0), (.int 0), (.ref p0)]))) st4 ?_
  refine own_go (S' := (T4.setTop (mkF m 45 #[.val (.ref p0), .val (.int 0), .val (.int 0)] [(.long 0), (.long 0), (.ref x0), (.int 0), (.ref p0)]))) (fun _ kont => XS.ifnonnullNo X4.here hx rfl (hb hby d23_29) rfl (XS.lconst X4.here hx rfl (hb hby d23_32) (XS.goto X4.here hx rfl (pc0 := 33) (pc' := 45) rfl (hb hby d23_33) (by decide) (by decide) kont))) ?_
  obtain ⟨cq5, qp5, qp5'⟩ := E_p0.cell
  obtain ⟨v5, _, ⟨T5, L5, k5, n5⟩, -, X5, ⟨Lc5, hQ5, l5, y5, z5⟩, st5⟩ := X4.privateBack hx (y := (⟨"com/example/otaniemi/otaniemi/Pending", "put", "(ILcom/example/otaniemi/otaniemi/State;JJ)V"⟩ : MethodName)) hown (mvT hZ (oH hw 117 rfl)) (mvT hZ (oH hw 118 rfl)) (own_selP (args := #[]) (mvT hZ (oH hw 55 rfl)) (mvP hZ (oH hw 119 rfl)) (mvT hZ (oH hw 118 rfl)) (by decide)) (Cond.privateMethod_at (mvP hZ (oH hw 119 rfl) (args := #[]))) (mvT hZ (oH hw 120 rfl)) (by decide) (backOf (W := 0) (rmPu0N l Z a0 hw [] p0 fa kf kc (.ref x0) f1 x0 (0 : Int64) (0 : Int64) h0 n0 Z0 E_p0 F_p0_found F_p0_foundCount F_p0_passed F_p0_values g_p0 g_fa V_fa O_fa Ex) hZ (oH hw 120 rfl) (oH hw 56 rfl) (by decide) (by decide)) (g := (mkF m 45 #[.val (.ref p0), .val (.int 0), .val (.int 0)] [(.long 0), (.long 0), (.ref x0), (.int 0), (.ref p0)])) rfl (by rw [hml]; rfl) (Steps.refl _) (a := p0) (by rw [e4]; exact qp5) qp5' (argsL := [(.int 0), (.ref x0), (.long 0), (.long 0)]) (rest := []) (lenOf pd_235 rfl) rfl (by show 2 * 0 + _ ≤ _; exact Nat.le_of_eq rfl) (hb hby d23_45) (fun _ _ => ⟨rfl, e4, (by decide : 0 + 0 ≤ _), (by decide : 0 + 0 ≤ _)⟩)
  dsimp only [Pt.U, Pt.locs, Pt.cells, Pt.slots] at X5 l5 y5 z5 st5 hQ5
  subst l5 y5 z5
  obtain ⟨rfl, Nq5, Kc5, Vf5⟩ := hQ5
  have Kt5 := K0.trans Kc5 (fun x hx => by simp only [List.mem_cons, List.mem_singleton, List.not_mem_nil, or_false] at hx; rcases hx with rfl <;> first | (left; simp; done) | (right; assumption))
  have N5 := Fr.app N0 Nq5
  have Z5 : n0 ≤ T5.heap.size := Nat.le_trans Z0 Kc5.1
  have c5_Ep0 := E_p0.keep Kc5
  have c5_Fp0_found := F_p0_found.keep Kc5 (ninS npf nin0)
  have c5_Fp0_foundCount := F_p0_foundCount.keep Kc5 (ninS npf nin0)
  have c5_Fp0_passed := F_p0_passed.keep Kc5 (ninS npf nin0)
  have c5_Fp0_values := F_p0_values.keep Kc5 (ninS npf nin0)
  refine own_goT (S' := (T5.setTop (mkF m 48 #[.val (.ref p0), .val (.int 0), .val (.int 0)] []))) st5 ?_
  refine own_ret0 X5 hx hlk Bd.returns (hb hby d23_48) (by decide) (by decide) ?_
  exact ⟨rfl, N5, Kt5, Vf5⟩
theorem ef_rmMv00A (m : MethodId) (x0 : Addr) (x1 : Int32) (x2 : Int32) : entryFrame m #[(.ref x0), (.int x1), (.int x2)] 3 = mkF m 0 #[.val (.ref x0), .val (.int x1), .val (.int x2)] [] := by first | (simp [entryFrame, mkF, argsToLocals, Value.category]; done) | rfl
def Q_rmMv00A (Z : State) (p0 fa : Addr) (kf : ClassId) (kc : Int32) (f1 : Value) (va : Addr) (kv : ClassId) (v0 v1 : Int64) (x0 : Addr) (h0 : Heap) (n0 : Nat) (v : Option Value) (h : Heap) (L : List Loc) : Prop := v = none ∧ Fr n0 L ∧ Keep h0 h [fa, va] ∧ Arv Z h fa kf (.object "com/example/otaniemi/otaniemi/State") (4 : Int32) [(.ref x0), f1] .null ∧ Arv Z h va kv .long (4 : Int32) [(.long v0), (.long v1)] (.long 0)
set_option maxRecDepth 65536 in
set_option maxHeartbeats 40000000 in
theorem rmMv00A (l : Launch) (Z : State) (a0 : Array Value) (hw : ∀ d ∈ tables_1, d.before a0 Z = true) (ws : List Jvm.Cond) (p0 fa : Addr) (kf : ClassId) (kc : Int32) (f1 : Value) (va : Addr) (kv : ClassId) (v0 v1 : Int64) (x0 : Addr) (h0 : Heap) (n0 : Nat) (Z0 : n0 ≤ h0.size) (E_p0 : Exa Z h0 p0 "com/example/otaniemi/otaniemi/Pending") (F_p0_found : Fld Z h0 p0 "com/example/otaniemi/otaniemi/Pending" "found" "[Lcom/example/otaniemi/otaniemi/State;" (.ref fa)) (F_p0_foundCount : Fld Z h0 p0 "com/example/otaniemi/otaniemi/Pending" "foundCount" "I" (.int kc)) (F_p0_passed : Fld Z h0 p0 "com/example/otaniemi/otaniemi/Pending" "passed" "Lcom/example/otaniemi/otaniemi/Pending$Passed;" .null) (F_p0_values : Fld Z h0 p0 "com/example/otaniemi/otaniemi/Pending" "values" "[J" (.ref va)) (g_p0 : n0 ≤ p0) (g_fa : n0 ≤ fa) (V_fa : Arv Z h0 fa kf (.object "com/example/otaniemi/otaniemi/State") (4 : Int32) [(.ref x0), f1] .null) (O_fa : Ovr Z kf "com/example/otaniemi/otaniemi/State") (g_va : n0 ≤ va) (nfv : fa ≠ va) (V_va : Arv Z h0 va kv .long (4 : Int32) [(.long v0), (.long v1)] (.long 0)) (Ex : Exa Z h0 x0 "com/example/otaniemi/otaniemi/State") :
    MetFree l (⟨"com/example/otaniemi/otaniemi/Pending", "move", "(II)V"⟩ : MethodName) (head1 (Jvm.Cond.code (⟨"com/example/otaniemi/otaniemi/Pending", "move", "(II)V"⟩ : MethodName) prog_64_method_15_code 3 none :: ws) ({ frames := 1, cells := 0, slots := 0, locals := 18 } : Room)) (fun a U => a = #[(.ref p0), (.int 0), (.int 0)] ∧ Z.Warmed39 U.vm ∧ U.heap = h0) (fun _ _ _ _ _ => True) (fun _ U o U' => ∃ v L, o = .returned v ∧ Q_rmMv00A Z p0 fa kf kc f1 va kv v0 v1 x0 h0 n0 v U'.heap L ∧ FrameEnd U o U' L ({ frames := 1, cells := 0, slots := 0, locals := 18 } : Room).cells ({ frames := 1, cells := 0, slots := 0, locals := 18 } : Room).slots) := by
  refine MetFree.of_bodySF (plainFor_of_name pn_151) hisR ?_
  intro p e s m args below meth c s₁ Bd hml0 hP hK
  obtain ⟨rfl, hZ, hh⟩ := hP
  have hx := Bd.exec
  have hby := Bd.bytes
  have hlk := Bd.notSynchronized
  have hml : c.maxLocals = 3 := hml0
  have hown : s.vm.findClass "com/example/otaniemi/otaniemi/Pending" = some m.cls := findClass_of_methodNamed Bd.named
  have hnm := (name_of_methodNamed Bd.named Bd.method).1
  have X0 : Stand p l e ({ frames := 1, cells := 0, slots := 0, locals := 18 } : Room) s m #[(.ref p0), (.int 0), (.int 0)] below meth c s₁ [] 0 0 := Stand.of_body Bd
  have e0 : s₁.heap = h0 := by rw [← hh, Bd.state]; rfl
  have N0 := Fr.nil n0
  change own_Go p e below s (Q_rmMv00A Z p0 fa kf kc f1 va kv v0 v1 x0 h0 n0) ({ frames := 1, cells := 0, slots := 0, locals := 18 } : Room).cells ({ frames := 1, cells := 0, slots := 0, locals := 18 } : Room).slots _
  refine own_go (S' := (s₁.setTop (mkF m 0 #[.val (.ref p0), .val (.int 0), .val (.int 0)] []))) (fun _ kont => castTop (ef_rmMv00A m p0 (0 : Int32) (0 : Int32)) kont) ?_
  have npf := E_p0.neArv V_fa (oH hw 55 rfl)
  have npv := E_p0.neArv V_va (oH hw 55 rfl)
  have K0 := Keep.refl h0 [fa, va]
  refine own_go (S' := (s₁.setTop (mkF m 3 #[.val (.ref p0), .val (.int 0), .val (.int 0)] [(.ref p0), (.int 0), (.ref p0)]))) (fun _ kont => XS.aloadN X0.here hx rfl (hb hby d23_0) rfl rfl (XS.iloadN X0.here hx rfl (hb hby d23_1) rfl (XS.aloadN X0.here hx rfl (hb hby d23_2) rfl rfl kont))) ?_
  obtain ⟨T1, X1, e1, st1⟩ := getF X0 hx hZ hown (host := "") (Or.inl (oH hw 63 rfl)) Via.refl e0 F_p0_found (g := (mkF m 3 #[.val (.ref p0), .val (.int 0), .val (.int 0)] [(.ref p0), (.int 0), (.ref p0)])) rfl rfl (hb hby d23_3)
  refine own_go (S' := (T1.setTop (mkF m 6 #[.val (.ref p0), .val (.int 0), .val (.int 0)] [(.ref fa), (.int 0), (.ref p0)]))) st1 ?_
  refine own_go (S' := (T1.setTop (mkF m 7 #[.val (.ref p0), .val (.int 0), .val (.int 0)] [(.int 0), (.ref fa), (.int 0), (.ref p0)]))) (fun _ kont => XS.iloadN X1.here hx rfl (hb hby d23_6) rfl kont) ?_
  obtain ⟨cl2, Ar2, -, S2, -, H2, -⟩ := id V_fa
  have hin2 := inb_of (j := (0 : Int32)) S2 ⟨by decide, by decide⟩
  have hat2 := Has.at (v := (.ref x0)) H2 hin2 (by first | rfl | decide)
  refine own_go (S' := (T1.setTop (mkF m 8 #[.val (.ref p0), .val (.int 0), .val (.int 0)] [(.ref x0), (.int 0), (.ref p0)]))) (fun _ kont => X1.aaload hx (j := (0 : Int32)) (v := (.ref x0)) (by rw [e1]; exact Ar2.1) (State.isArrayOf_alike hZ.alike Ar2.2.1) rfl Ar2.2.2 hin2 hat2 (g := (mkF m 7 #[.val (.ref p0), .val (.int 0), .val (.int 0)] [(.int 0), (.ref fa), (.int 0), (.ref p0)])) rfl rfl (hb hby d23_7) _ kont) ?_
  refine own_go (S' := (T1.setTop (mkF m 9 #[.val (.ref p0), .val (.int 0), .val (.int 0)] [(.ref p0), (.ref x0), (.int 0), (.ref p0)]))) (fun _ kont => XS.aloadN X1.here hx rfl (hb hby d23_8) rfl rfl kont) ?_
  obtain ⟨T3, X3, e3, st3⟩ := getF X1 hx hZ hown (host := "") (Or.inl (oH hw 122 rfl)) Via.refl e1 F_p0_values (g := (mkF m 9 #[.val (.ref p0), .val (.int 0), .val (.int 0)] [(.ref p0), (.ref x0), (.int 0), (.ref p0)])) rfl rfl (hb hby d23_9)
  refine own_go (S' := (T3.setTop (mkF m 12 #[.val (.ref p0), .val (.int 0), .val (.int 0)] [(.ref va), (.ref x0), (.int 0), (.ref p0)]))) st3 ?_
  refine own_go (S' := (T3.setTop (mkF m 20 #[.val (.ref p0), .val (.int 0), .val (.int 0)] [(.ref p0), (.ref x0), (.int 0), (.ref p0)]))) (fun _ kont => XS.ifnonnullYes X3.here hx rfl (pc0 := 12) (pc' := 19) rfl (hb hby d23_12) rfl (by decide) (by decide) (XS.aloadN X3.here hx rfl (hb hby d23_19) rfl rfl kont)) ?_
  obtain ⟨T4, X4, e4, st4⟩ := getF X3 hx hZ hown (host := "") (Or.inl (oH hw 122 rfl)) Via.refl e3 F_p0_values (g := (mkF m 20 #[.val (.ref p0), .val (.int 0), .val (.int 0)] [(.ref p0), (.ref x0), (.int 0), (.ref p0)])) rfl rfl (hb hby d23_20)
  refine own_go (S' := (T4.setTop (mkF m 23 #[.val (.ref p0), .val (.int 0), .val (.int 0)] [(.ref va), (.ref x0), (.int 0), (.ref p0)]))) st4 ?_
  refine own_go (S' := (T4.setTop (mkF m 24 #[.val (.ref p0), .val (.int 0), .val (.int 0)] [(.int 0), (.ref va), (.ref x0), (.int 0), (.ref p0)]))) (fun _ kont => XS.iloadN X4.here hx rfl (hb hby d23_23) rfl kont) ?_
  obtain ⟨cl5, Ar5, -, S5, -, H5, -⟩ := id V_va
  have hin5 := inb_of (j := (0 : Int32)) S5 ⟨by decide, by decide⟩
  have hat5 := Has.at (v := (.long v0)) H5 hin5 (by first | rfl | decide)
  refine own_go (S' := (T4.setTop (mkF m 25 #[.val (.ref p0), .val (.int 0), .val (.int 0)] [(.long v0), (.ref x0), (.int 0), (.ref p0)]))) (fun _ kont => X4.laload hx (j := (0 : Int32)) (v := (.long v0)) (by rw [e4]; exact Ar5.1) (State.isArrayOf_alike hZ.alike Ar5.2.1) Ar5.2.2 hin5 hat5 (g := (mkF m 24 #[.val (.ref p0), .val (.int 0), .val (.int 0)] [(.int 0), (.ref va), (.ref x0), (.int 0), (.ref p0)])) rfl rfl (hb hby d23_24) _ kont) ?_
  refine own_go (S' := (T4.setTop (mkF m 26 #[.val (.ref p0), .val (.int 0), .val (.int 0)] [(.ref p0), (.long v0), (.ref x0), (.int 0), (.ref p0)]))) (fun _ kont => XS.aloadN X4.here hx rfl (hb hby d23_25) rfl rfl kont) ?_
  obtain ⟨T6, X6, e6, st6⟩ := getF X4 hx hZ hown (host := "") (Or.inl (oH hw 124 rfl)) Via.refl e4 F_p0_passed (g := (mkF m 26 #[.val (.ref p0), .val (.int 0), .val (.int 0)] [(.ref p0), (.long v0), (.ref x0), (.int 0), (.ref p0)])) rfl rfl (hb hby d23_26)
  refine own_go (S' := (T6.setTop (mkF m 29 #[.val (.ref p0), .val (.int 0), .val (.int 0)] [.null, (.long v0), (.ref x0), (.int 0), (.ref p0)]))) st6 ?_
  refine own_go (S' := (T6.setTop (mkF m 45 #[.val (.ref p0), .val (.int 0), .val (.int 0)] [(.long 0), (.long v0), (.ref x0), (.int 0), (.ref p0)]))) (fun _ kont => XS.ifnonnullNo X6.here hx rfl (hb hby d23_29) rfl (XS.lconst X6.here hx rfl (hb hby d23_32) (XS.goto X6.here hx rfl (pc0 := 33) (pc' := 45) rfl (hb hby d23_33) (by decide) (by decide) kont))) ?_
  obtain ⟨cq7, qp7, qp7'⟩ := E_p0.cell
  obtain ⟨v7, _, ⟨T7, L7, k7, n7⟩, -, X7, ⟨Lc7, hQ7, l7, y7, z7⟩, st7⟩ := X6.privateBack hx (y := (⟨"com/example/otaniemi/otaniemi/Pending", "put", "(ILcom/example/otaniemi/otaniemi/State;JJ)V"⟩ : MethodName)) hown (mvT hZ (oH hw 117 rfl)) (mvT hZ (oH hw 118 rfl)) (own_selP (args := #[]) (mvT hZ (oH hw 55 rfl)) (mvP hZ (oH hw 119 rfl)) (mvT hZ (oH hw 118 rfl)) (by decide)) (Cond.privateMethod_at (mvP hZ (oH hw 119 rfl) (args := #[]))) (mvT hZ (oH hw 120 rfl)) (by decide) (backOf (W := 0) (rmPu0A l Z a0 hw [] p0 fa kf kc (.ref x0) f1 va kv v0 v1 x0 v0 (0 : Int64) h0 n0 Z0 E_p0 F_p0_found F_p0_foundCount F_p0_passed F_p0_values g_p0 g_fa V_fa O_fa g_va nfv V_va Ex) hZ (oH hw 120 rfl) (oH hw 56 rfl) (by decide) (by decide)) (g := (mkF m 45 #[.val (.ref p0), .val (.int 0), .val (.int 0)] [(.long 0), (.long v0), (.ref x0), (.int 0), (.ref p0)])) rfl (by rw [hml]; rfl) (Steps.refl _) (a := p0) (by rw [e6]; exact qp7) qp7' (argsL := [(.int 0), (.ref x0), (.long v0), (.long 0)]) (rest := []) (lenOf pd_235 rfl) rfl (by show 2 * 0 + _ ≤ _; exact Nat.le_of_eq rfl) (hb hby d23_45) (fun _ _ => ⟨rfl, e6, (by decide : 0 + 0 ≤ _), (by decide : 0 + 0 ≤ _)⟩)
  dsimp only [Pt.U, Pt.locs, Pt.cells, Pt.slots] at X7 l7 y7 z7 st7 hQ7
  subst l7 y7 z7
  obtain ⟨rfl, Nq7, Kc7, Vf7, Vv7⟩ := hQ7
  have Kt7 := K0.trans Kc7 (fun x hx => by simp only [List.mem_cons, List.mem_singleton, List.not_mem_nil, or_false] at hx; rcases hx with rfl | rfl <;> first | (left; simp; done) | (right; assumption))
  have N7 := Fr.app N0 Nq7
  have Z7 : n0 ≤ T7.heap.size := Nat.le_trans Z0 Kc7.1
  have c7_Ep0 := E_p0.keep Kc7
  have c7_Fp0_found := F_p0_found.keep Kc7 (ninS npf (ninS npv nin0))
  have c7_Fp0_foundCount := F_p0_foundCount.keep Kc7 (ninS npf (ninS npv nin0))
  have c7_Fp0_passed := F_p0_passed.keep Kc7 (ninS npf (ninS npv nin0))
  have c7_Fp0_values := F_p0_values.keep Kc7 (ninS npf (ninS npv nin0))
  refine own_goT (S' := (T7.setTop (mkF m 48 #[.val (.ref p0), .val (.int 0), .val (.int 0)] []))) st7 ?_
  refine own_ret0 X7 hx hlk Bd.returns (hb hby d23_48) (by decide) (by decide) ?_
  exact ⟨rfl, N7, Kt7, Vf7, Vv7⟩
theorem ef_rmMv10N (m : MethodId) (x0 : Addr) (x1 : Int32) (x2 : Int32) : entryFrame m #[(.ref x0), (.int x1), (.int x2)] 3 = mkF m 0 #[.val (.ref x0), .val (.int x1), .val (.int x2)] [] := by first | (simp [entryFrame, mkF, argsToLocals, Value.category]; done) | rfl
def Q_rmMv10N (Z : State) (p0 fa : Addr) (kf : ClassId) (kc : Int32) (f0 : Value) (x0 : Addr) (h0 : Heap) (n0 : Nat) (v : Option Value) (h : Heap) (L : List Loc) : Prop := v = none ∧ Fr n0 L ∧ Keep h0 h [fa] ∧ Arv Z h fa kf (.object "com/example/otaniemi/otaniemi/State") (4 : Int32) [(.ref x0), (.ref x0)] .null
set_option maxRecDepth 65536 in
set_option maxHeartbeats 40000000 in
theorem rmMv10N (l : Launch) (Z : State) (a0 : Array Value) (hw : ∀ d ∈ tables_1, d.before a0 Z = true) (ws : List Jvm.Cond) (p0 fa : Addr) (kf : ClassId) (kc : Int32) (f0 : Value) (x0 : Addr) (h0 : Heap) (n0 : Nat) (Z0 : n0 ≤ h0.size) (E_p0 : Exa Z h0 p0 "com/example/otaniemi/otaniemi/Pending") (F_p0_found : Fld Z h0 p0 "com/example/otaniemi/otaniemi/Pending" "found" "[Lcom/example/otaniemi/otaniemi/State;" (.ref fa)) (F_p0_foundCount : Fld Z h0 p0 "com/example/otaniemi/otaniemi/Pending" "foundCount" "I" (.int kc)) (F_p0_passed : Fld Z h0 p0 "com/example/otaniemi/otaniemi/Pending" "passed" "Lcom/example/otaniemi/otaniemi/Pending$Passed;" .null) (F_p0_values : Fld Z h0 p0 "com/example/otaniemi/otaniemi/Pending" "values" "[J" .null) (g_p0 : n0 ≤ p0) (g_fa : n0 ≤ fa) (V_fa : Arv Z h0 fa kf (.object "com/example/otaniemi/otaniemi/State") (4 : Int32) [f0, (.ref x0)] .null) (O_fa : Ovr Z kf "com/example/otaniemi/otaniemi/State") (Ex : Exa Z h0 x0 "com/example/otaniemi/otaniemi/State") :
    MetFree l (⟨"com/example/otaniemi/otaniemi/Pending", "move", "(II)V"⟩ : MethodName) (head1 (Jvm.Cond.code (⟨"com/example/otaniemi/otaniemi/Pending", "move", "(II)V"⟩ : MethodName) prog_64_method_15_code 3 none :: ws) ({ frames := 1, cells := 0, slots := 0, locals := 18 } : Room)) (fun a U => a = #[(.ref p0), (.int 1), (.int 0)] ∧ Z.Warmed39 U.vm ∧ U.heap = h0) (fun _ _ _ _ _ => True) (fun _ U o U' => ∃ v L, o = .returned v ∧ Q_rmMv10N Z p0 fa kf kc f0 x0 h0 n0 v U'.heap L ∧ FrameEnd U o U' L ({ frames := 1, cells := 0, slots := 0, locals := 18 } : Room).cells ({ frames := 1, cells := 0, slots := 0, locals := 18 } : Room).slots) := by
  refine MetFree.of_bodySF (plainFor_of_name pn_151) hisR ?_
  intro p e s m args below meth c s₁ Bd hml0 hP hK
  obtain ⟨rfl, hZ, hh⟩ := hP
  have hx := Bd.exec
  have hby := Bd.bytes
  have hlk := Bd.notSynchronized
  have hml : c.maxLocals = 3 := hml0
  have hown : s.vm.findClass "com/example/otaniemi/otaniemi/Pending" = some m.cls := findClass_of_methodNamed Bd.named
  have hnm := (name_of_methodNamed Bd.named Bd.method).1
  have X0 : Stand p l e ({ frames := 1, cells := 0, slots := 0, locals := 18 } : Room) s m #[(.ref p0), (.int 1), (.int 0)] below meth c s₁ [] 0 0 := Stand.of_body Bd
  have e0 : s₁.heap = h0 := by rw [← hh, Bd.state]; rfl
  have N0 := Fr.nil n0
  change own_Go p e below s (Q_rmMv10N Z p0 fa kf kc f0 x0 h0 n0) ({ frames := 1, cells := 0, slots := 0, locals := 18 } : Room).cells ({ frames := 1, cells := 0, slots := 0, locals := 18 } : Room).slots _
  refine own_go (S' := (s₁.setTop (mkF m 0 #[.val (.ref p0), .val (.int 1), .val (.int 0)] []))) (fun _ kont => castTop (ef_rmMv10N m p0 (1 : Int32) (0 : Int32)) kont) ?_
  have npf := E_p0.neArv V_fa (oH hw 55 rfl)
  have K0 := Keep.refl h0 [fa]
  refine own_go (S' := (s₁.setTop (mkF m 3 #[.val (.ref p0), .val (.int 1), .val (.int 0)] [(.ref p0), (.int 0), (.ref p0)]))) (fun _ kont => XS.aloadN X0.here hx rfl (hb hby d23_0) rfl rfl (XS.iloadN X0.here hx rfl (hb hby d23_1) rfl (XS.aloadN X0.here hx rfl (hb hby d23_2) rfl rfl kont))) ?_
  obtain ⟨T1, X1, e1, st1⟩ := getF X0 hx hZ hown (host := "") (Or.inl (oH hw 63 rfl)) Via.refl e0 F_p0_found (g := (mkF m 3 #[.val (.ref p0), .val (.int 1), .val (.int 0)] [(.ref p0), (.int 0), (.ref p0)])) rfl rfl (hb hby d23_3)
  refine own_go (S' := (T1.setTop (mkF m 6 #[.val (.ref p0), .val (.int 1), .val (.int 0)] [(.ref fa), (.int 0), (.ref p0)]))) st1 ?_
  refine own_go (S' := (T1.setTop (mkF m 7 #[.val (.ref p0), .val (.int 1), .val (.int 0)] [(.int 1), (.ref fa), (.int 0), (.ref p0)]))) (fun _ kont => XS.iloadN X1.here hx rfl (hb hby d23_6) rfl kont) ?_
  obtain ⟨cl2, Ar2, -, S2, -, H2, -⟩ := id V_fa
  have hin2 := inb_of (j := (1 : Int32)) S2 ⟨by decide, by decide⟩
  have hat2 := Has.at (v := (.ref x0)) H2 hin2 (by first | rfl | decide)
  refine own_go (S' := (T1.setTop (mkF m 8 #[.val (.ref p0), .val (.int 1), .val (.int 0)] [(.ref x0), (.int 0), (.ref p0)]))) (fun _ kont => X1.aaload hx (j := (1 : Int32)) (v := (.ref x0)) (by rw [e1]; exact Ar2.1) (State.isArrayOf_alike hZ.alike Ar2.2.1) rfl Ar2.2.2 hin2 hat2 (g := (mkF m 7 #[.val (.ref p0), .val (.int 1), .val (.int 0)] [(.int 1), (.ref fa), (.int 0), (.ref p0)])) rfl rfl (hb hby d23_7) _ kont) ?_
  refine own_go (S' := (T1.setTop (mkF m 9 #[.val (.ref p0), .val (.int 1), .val (.int 0)] [(.ref p0), (.ref x0), (.int 0), (.ref p0)]))) (fun _ kont => XS.aloadN X1.here hx rfl (hb hby d23_8) rfl rfl kont) ?_
  obtain ⟨T3, X3, e3, st3⟩ := getF X1 hx hZ hown (host := "") (Or.inl (oH hw 122 rfl)) Via.refl e1 F_p0_values (g := (mkF m 9 #[.val (.ref p0), .val (.int 1), .val (.int 0)] [(.ref p0), (.ref x0), (.int 0), (.ref p0)])) rfl rfl (hb hby d23_9)
  refine own_go (S' := (T3.setTop (mkF m 12 #[.val (.ref p0), .val (.int 1), .val (.int 0)] [.null, (.ref x0), (.int 0), (.ref p0)]))) st3 ?_
  refine own_go (S' := (T3.setTop (mkF m 26 #[.val (.ref p0), .val (.int 1), .val (.int 0)] [(.ref p0), (.long 0), (.ref x0), (.int 0), (.ref p0)]))) (fun _ kont => XS.ifnonnullNo X3.here hx rfl (hb hby d23_12) rfl (XS.lconst X3.here hx rfl (hb hby d23_15) (XS.goto X3.here hx rfl (pc0 := 16) (pc' := 25) rfl (hb hby d23_16) (by decide) (by decide) (XS.aloadN X3.here hx rfl (hb hby d23_25) rfl rfl kont)))) ?_
  obtain ⟨T4, X4, e4, st4⟩ := getF X3 hx hZ hown (host := "") (Or.inl (oH hw 124 rfl)) Via.refl e3 F_p0_passed (g := (mkF m 26 #[.val (.ref p0), .val (.int 1), .val (.int 0)] [(.ref p0), (.long 0), (.ref x0), (.int 0), (.ref p0)])) rfl rfl (hb hby d23_26)
  refine own_go (S' := (T4.setTop (mkF m 29 #[.val (.ref p0), .val (.int 1), .val (.int 0)] [.null, (.long 0), (.ref x0), (.int 0), (.ref p0)]))) st4 ?_
  refine own_go (S' := (T4.setTop (mkF m 45 #[.val (.ref p0), .val (.int 1), .val (.int 0)] [(.long 0), (.long 0), (.ref x0), (.int 0), (.ref p0)]))) (fun _ kont => XS.ifnonnullNo X4.here hx rfl (hb hby d23_29) rfl (XS.lconst X4.here hx rfl (hb hby d23_32) (XS.goto X4.here hx rfl (pc0 := 33) (pc' := 45) rfl (hb hby d23_33) (by decide) (by decide) kont))) ?_
  obtain ⟨cq5, qp5, qp5'⟩ := E_p0.cell
  obtain ⟨v5, _, ⟨T5, L5, k5, n5⟩, -, X5, ⟨Lc5, hQ5, l5, y5, z5⟩, st5⟩ := X4.privateBack hx (y := (⟨"com/example/otaniemi/otaniemi/Pending", "put", "(ILcom/example/otaniemi/otaniemi/State;JJ)V"⟩ : MethodName)) hown (mvT hZ (oH hw 117 rfl)) (mvT hZ (oH hw 118 rfl)) (own_selP (args := #[]) (mvT hZ (oH hw 55 rfl)) (mvP hZ (oH hw 119 rfl)) (mvT hZ (oH hw 118 rfl)) (by decide)) (Cond.privateMethod_at (mvP hZ (oH hw 119 rfl) (args := #[]))) (mvT hZ (oH hw 120 rfl)) (by decide) (backOf (W := 0) (rmPu0N l Z a0 hw [] p0 fa kf kc f0 (.ref x0) x0 (0 : Int64) (0 : Int64) h0 n0 Z0 E_p0 F_p0_found F_p0_foundCount F_p0_passed F_p0_values g_p0 g_fa V_fa O_fa Ex) hZ (oH hw 120 rfl) (oH hw 56 rfl) (by decide) (by decide)) (g := (mkF m 45 #[.val (.ref p0), .val (.int 1), .val (.int 0)] [(.long 0), (.long 0), (.ref x0), (.int 0), (.ref p0)])) rfl (by rw [hml]; rfl) (Steps.refl _) (a := p0) (by rw [e4]; exact qp5) qp5' (argsL := [(.int 0), (.ref x0), (.long 0), (.long 0)]) (rest := []) (lenOf pd_235 rfl) rfl (by show 2 * 0 + _ ≤ _; exact Nat.le_of_eq rfl) (hb hby d23_45) (fun _ _ => ⟨rfl, e4, (by decide : 0 + 0 ≤ _), (by decide : 0 + 0 ≤ _)⟩)
  dsimp only [Pt.U, Pt.locs, Pt.cells, Pt.slots] at X5 l5 y5 z5 st5 hQ5
  subst l5 y5 z5
  obtain ⟨rfl, Nq5, Kc5, Vf5⟩ := hQ5
  have Kt5 := K0.trans Kc5 (fun x hx => by simp only [List.mem_cons, List.mem_singleton, List.not_mem_nil, or_false] at hx; rcases hx with rfl <;> first | (left; simp; done) | (right; assumption))
  have N5 := Fr.app N0 Nq5
  have Z5 : n0 ≤ T5.heap.size := Nat.le_trans Z0 Kc5.1
  have c5_Ep0 := E_p0.keep Kc5
  have c5_Fp0_found := F_p0_found.keep Kc5 (ninS npf nin0)
  have c5_Fp0_foundCount := F_p0_foundCount.keep Kc5 (ninS npf nin0)
  have c5_Fp0_passed := F_p0_passed.keep Kc5 (ninS npf nin0)
  have c5_Fp0_values := F_p0_values.keep Kc5 (ninS npf nin0)
  refine own_goT (S' := (T5.setTop (mkF m 48 #[.val (.ref p0), .val (.int 1), .val (.int 0)] []))) st5 ?_
  refine own_ret0 X5 hx hlk Bd.returns (hb hby d23_48) (by decide) (by decide) ?_
  exact ⟨rfl, N5, Kt5, Vf5⟩
theorem ef_rmMv10A (m : MethodId) (x0 : Addr) (x1 : Int32) (x2 : Int32) : entryFrame m #[(.ref x0), (.int x1), (.int x2)] 3 = mkF m 0 #[.val (.ref x0), .val (.int x1), .val (.int x2)] [] := by first | (simp [entryFrame, mkF, argsToLocals, Value.category]; done) | rfl
def Q_rmMv10A (Z : State) (p0 fa : Addr) (kf : ClassId) (kc : Int32) (f0 : Value) (va : Addr) (kv : ClassId) (v0 v1 : Int64) (x0 : Addr) (h0 : Heap) (n0 : Nat) (v : Option Value) (h : Heap) (L : List Loc) : Prop := v = none ∧ Fr n0 L ∧ Keep h0 h [fa, va] ∧ Arv Z h fa kf (.object "com/example/otaniemi/otaniemi/State") (4 : Int32) [(.ref x0), (.ref x0)] .null ∧ Arv Z h va kv .long (4 : Int32) [(.long v1), (.long v1)] (.long 0)
set_option maxRecDepth 65536 in
set_option maxHeartbeats 40000000 in
theorem rmMv10A (l : Launch) (Z : State) (a0 : Array Value) (hw : ∀ d ∈ tables_1, d.before a0 Z = true) (ws : List Jvm.Cond) (p0 fa : Addr) (kf : ClassId) (kc : Int32) (f0 : Value) (va : Addr) (kv : ClassId) (v0 v1 : Int64) (x0 : Addr) (h0 : Heap) (n0 : Nat) (Z0 : n0 ≤ h0.size) (E_p0 : Exa Z h0 p0 "com/example/otaniemi/otaniemi/Pending") (F_p0_found : Fld Z h0 p0 "com/example/otaniemi/otaniemi/Pending" "found" "[Lcom/example/otaniemi/otaniemi/State;" (.ref fa)) (F_p0_foundCount : Fld Z h0 p0 "com/example/otaniemi/otaniemi/Pending" "foundCount" "I" (.int kc)) (F_p0_passed : Fld Z h0 p0 "com/example/otaniemi/otaniemi/Pending" "passed" "Lcom/example/otaniemi/otaniemi/Pending$Passed;" .null) (F_p0_values : Fld Z h0 p0 "com/example/otaniemi/otaniemi/Pending" "values" "[J" (.ref va)) (g_p0 : n0 ≤ p0) (g_fa : n0 ≤ fa) (V_fa : Arv Z h0 fa kf (.object "com/example/otaniemi/otaniemi/State") (4 : Int32) [f0, (.ref x0)] .null) (O_fa : Ovr Z kf "com/example/otaniemi/otaniemi/State") (g_va : n0 ≤ va) (nfv : fa ≠ va) (V_va : Arv Z h0 va kv .long (4 : Int32) [(.long v0), (.long v1)] (.long 0)) (Ex : Exa Z h0 x0 "com/example/otaniemi/otaniemi/State") :
    MetFree l (⟨"com/example/otaniemi/otaniemi/Pending", "move", "(II)V"⟩ : MethodName) (head1 (Jvm.Cond.code (⟨"com/example/otaniemi/otaniemi/Pending", "move", "(II)V"⟩ : MethodName) prog_64_method_15_code 3 none :: ws) ({ frames := 1, cells := 0, slots := 0, locals := 18 } : Room)) (fun a U => a = #[(.ref p0), (.int 1), (.int 0)] ∧ Z.Warmed39 U.vm ∧ U.heap = h0) (fun _ _ _ _ _ => True) (fun _ U o U' => ∃ v L, o = .returned v ∧ Q_rmMv10A Z p0 fa kf kc f0 va kv v0 v1 x0 h0 n0 v U'.heap L ∧ FrameEnd U o U' L ({ frames := 1, cells := 0, slots := 0, locals := 18 } : Room).cells ({ frames := 1, cells := 0, slots := 0, locals := 18 } : Room).slots) := by
  refine MetFree.of_bodySF (plainFor_of_name pn_151) hisR ?_
  intro p e s m args below meth c s₁ Bd hml0 hP hK
  obtain ⟨rfl, hZ, hh⟩ := hP
  have hx := Bd.exec
  have hby := Bd.bytes
  have hlk := Bd.notSynchronized
  have hml : c.maxLocals = 3 := hml0
  have hown : s.vm.findClass "com/example/otaniemi/otaniemi/Pending" = some m.cls := findClass_of_methodNamed Bd.named
  have hnm := (name_of_methodNamed Bd.named Bd.method).1
  have X0 : Stand p l e ({ frames := 1, cells := 0, slots := 0, locals := 18 } : Room) s m #[(.ref p0), (.int 1), (.int 0)] below meth c s₁ [] 0 0 := Stand.of_body Bd
  have e0 : s₁.heap = h0 := by rw [← hh, Bd.state]; rfl
  have N0 := Fr.nil n0
  change own_Go p e below s (Q_rmMv10A Z p0 fa kf kc f0 va kv v0 v1 x0 h0 n0) ({ frames := 1, cells := 0, slots := 0, locals := 18 } : Room).cells ({ frames := 1, cells := 0, slots := 0, locals := 18 } : Room).slots _
  refine own_go (S' := (s₁.setTop (mkF m 0 #[.val (.ref p0), .val (.int 1), .val (.int 0)] []))) (fun _ kont => castTop (ef_rmMv10A m p0 (1 : Int32) (0 : Int32)) kont) ?_
  have npf := E_p0.neArv V_fa (oH hw 55 rfl)
  have npv := E_p0.neArv V_va (oH hw 55 rfl)
  have K0 := Keep.refl h0 [fa, va]
  refine own_go (S' := (s₁.setTop (mkF m 3 #[.val (.ref p0), .val (.int 1), .val (.int 0)] [(.ref p0), (.int 0), (.ref p0)]))) (fun _ kont => XS.aloadN X0.here hx rfl (hb hby d23_0) rfl rfl (XS.iloadN X0.here hx rfl (hb hby d23_1) rfl (XS.aloadN X0.here hx rfl (hb hby d23_2) rfl rfl kont))) ?_
  obtain ⟨T1, X1, e1, st1⟩ := getF X0 hx hZ hown (host := "") (Or.inl (oH hw 63 rfl)) Via.refl e0 F_p0_found (g := (mkF m 3 #[.val (.ref p0), .val (.int 1), .val (.int 0)] [(.ref p0), (.int 0), (.ref p0)])) rfl rfl (hb hby d23_3)
  refine own_go (S' := (T1.setTop (mkF m 6 #[.val (.ref p0), .val (.int 1), .val (.int 0)] [(.ref fa), (.int 0), (.ref p0)]))) st1 ?_
  refine own_go (S' := (T1.setTop (mkF m 7 #[.val (.ref p0), .val (.int 1), .val (.int 0)] [(.int 1), (.ref fa), (.int 0), (.ref p0)]))) (fun _ kont => XS.iloadN X1.here hx rfl (hb hby d23_6) rfl kont) ?_
  obtain ⟨cl2, Ar2, -, S2, -, H2, -⟩ := id V_fa
  have hin2 := inb_of (j := (1 : Int32)) S2 ⟨by decide, by decide⟩
  have hat2 := Has.at (v := (.ref x0)) H2 hin2 (by first | rfl | decide)
  refine own_go (S' := (T1.setTop (mkF m 8 #[.val (.ref p0), .val (.int 1), .val (.int 0)] [(.ref x0), (.int 0), (.ref p0)]))) (fun _ kont => X1.aaload hx (j := (1 : Int32)) (v := (.ref x0)) (by rw [e1]; exact Ar2.1) (State.isArrayOf_alike hZ.alike Ar2.2.1) rfl Ar2.2.2 hin2 hat2 (g := (mkF m 7 #[.val (.ref p0), .val (.int 1), .val (.int 0)] [(.int 1), (.ref fa), (.int 0), (.ref p0)])) rfl rfl (hb hby d23_7) _ kont) ?_
  refine own_go (S' := (T1.setTop (mkF m 9 #[.val (.ref p0), .val (.int 1), .val (.int 0)] [(.ref p0), (.ref x0), (.int 0), (.ref p0)]))) (fun _ kont => XS.aloadN X1.here hx rfl (hb hby d23_8) rfl rfl kont) ?_
  obtain ⟨T3, X3, e3, st3⟩ := getF X1 hx hZ hown (host := "") (Or.inl (oH hw 122 rfl)) Via.refl e1 F_p0_values (g := (mkF m 9 #[.val (.ref p0), .val (.int 1), .val (.int 0)] [(.ref p0), (.ref x0), (.int 0), (.ref p0)])) rfl rfl (hb hby d23_9)
  refine own_go (S' := (T3.setTop (mkF m 12 #[.val (.ref p0), .val (.int 1), .val (.int 0)] [(.ref va), (.ref x0), (.int 0), (.ref p0)]))) st3 ?_
  refine own_go (S' := (T3.setTop (mkF m 20 #[.val (.ref p0), .val (.int 1), .val (.int 0)] [(.ref p0), (.ref x0), (.int 0), (.ref p0)]))) (fun _ kont => XS.ifnonnullYes X3.here hx rfl (pc0 := 12) (pc' := 19) rfl (hb hby d23_12) rfl (by decide) (by decide) (XS.aloadN X3.here hx rfl (hb hby d23_19) rfl rfl kont)) ?_
  obtain ⟨T4, X4, e4, st4⟩ := getF X3 hx hZ hown (host := "") (Or.inl (oH hw 122 rfl)) Via.refl e3 F_p0_values (g := (mkF m 20 #[.val (.ref p0), .val (.int 1), .val (.int 0)] [(.ref p0), (.ref x0), (.int 0), (.ref p0)])) rfl rfl (hb hby d23_20)
  refine own_go (S' := (T4.setTop (mkF m 23 #[.val (.ref p0), .val (.int 1), .val (.int 0)] [(.ref va), (.ref x0), (.int 0), (.ref p0)]))) st4 ?_
  refine own_go (S' := (T4.setTop (mkF m 24 #[.val (.ref p0), .val (.int 1), .val (.int 0)] [(.int 1), (.ref va), (.ref x0), (.int 0), (.ref p0)]))) (fun _ kont => XS.iloadN X4.here hx rfl (hb hby d23_23) rfl kont) ?_
  obtain ⟨cl5, Ar5, -, S5, -, H5, -⟩ := id V_va
  have hin5 := inb_of (j := (1 : Int32)) S5 ⟨by decide, by decide⟩
  have hat5 := Has.at (v := (.long v1)) H5 hin5 (by first | rfl | decide)
  refine own_go (S' := (T4.setTop (mkF m 25 #[.val (.ref p0), .val (.int 1), .val (.int 0)] [(.long v1), (.ref x0), (.int 0), (.ref p0)]))) (fun _ kont => X4.laload hx (j := (1 : Int32)) (v := (.long v1)) (by rw [e4]; exact Ar5.1) (State.isArrayOf_alike hZ.alike Ar5.2.1) Ar5.2.2 hin5 hat5 (g := (mkF m 24 #[.val (.ref p0), .val (.int 1), .val (.int 0)] [(.int 1), (.ref va), (.ref x0), (.int 0), (.ref p0)])) rfl rfl (hb hby d23_24) _ kont) ?_
  refine own_go (S' := (T4.setTop (mkF m 26 #[.val (.ref p0), .val (.int 1), .val (.int 0)] [(.ref p0), (.long v1), (.ref x0), (.int 0), (.ref p0)]))) (fun _ kont => XS.aloadN X4.here hx rfl (hb hby d23_25) rfl rfl kont) ?_
  obtain ⟨T6, X6, e6, st6⟩ := getF X4 hx hZ hown (host := "") (Or.inl (oH hw 124 rfl)) Via.refl e4 F_p0_passed (g := (mkF m 26 #[.val (.ref p0), .val (.int 1), .val (.int 0)] [(.ref p0), (.long v1), (.ref x0), (.int 0), (.ref p0)])) rfl rfl (hb hby d23_26)
  refine own_go (S' := (T6.setTop (mkF m 29 #[.val (.ref p0), .val (.int 1), .val (.int 0)] [.null, (.long v1), (.ref x0), (.int 0), (.ref p0)]))) st6 ?_
  refine own_go (S' := (T6.setTop (mkF m 45 #[.val (.ref p0), .val (.int 1), .val (.int 0)] [(.long 0), (.long v1), (.ref x0), (.int 0), (.ref p0)]))) (fun _ kont => XS.ifnonnullNo X6.here hx rfl (hb hby d23_29) rfl (XS.lconst X6.here hx rfl (hb hby d23_32) (XS.goto X6.here hx rfl (pc0 := 33) (pc' := 45) rfl (hb hby d23_33) (by decide) (by decide) kont))) ?_
  obtain ⟨cq7, qp7, qp7'⟩ := E_p0.cell
  obtain ⟨v7, _, ⟨T7, L7, k7, n7⟩, -, X7, ⟨Lc7, hQ7, l7, y7, z7⟩, st7⟩ := X6.privateBack hx (y := (⟨"com/example/otaniemi/otaniemi/Pending", "put", "(ILcom/example/otaniemi/otaniemi/State;JJ)V"⟩ : MethodName)) hown (mvT hZ (oH hw 117 rfl)) (mvT hZ (oH hw 118 rfl)) (own_selP (args := #[]) (mvT hZ (oH hw 55 rfl)) (mvP hZ (oH hw 119 rfl)) (mvT hZ (oH hw 118 rfl)) (by decide)) (Cond.privateMethod_at (mvP hZ (oH hw 119 rfl) (args := #[]))) (mvT hZ (oH hw 120 rfl)) (by decide) (backOf (W := 0) (rmPu0A l Z a0 hw [] p0 fa kf kc f0 (.ref x0) va kv v0 v1 x0 v1 (0 : Int64) h0 n0 Z0 E_p0 F_p0_found F_p0_foundCount F_p0_passed F_p0_values g_p0 g_fa V_fa O_fa g_va nfv V_va Ex) hZ (oH hw 120 rfl) (oH hw 56 rfl) (by decide) (by decide)) (g := (mkF m 45 #[.val (.ref p0), .val (.int 1), .val (.int 0)] [(.long 0), (.long v1), (.ref x0), (.int 0), (.ref p0)])) rfl (by rw [hml]; rfl) (Steps.refl _) (a := p0) (by rw [e6]; exact qp7) qp7' (argsL := [(.int 0), (.ref x0), (.long v1), (.long 0)]) (rest := []) (lenOf pd_235 rfl) rfl (by show 2 * 0 + _ ≤ _; exact Nat.le_of_eq rfl) (hb hby d23_45) (fun _ _ => ⟨rfl, e6, (by decide : 0 + 0 ≤ _), (by decide : 0 + 0 ≤ _)⟩)
  dsimp only [Pt.U, Pt.locs, Pt.cells, Pt.slots] at X7 l7 y7 z7 st7 hQ7
  subst l7 y7 z7
  obtain ⟨rfl, Nq7, Kc7, Vf7, Vv7⟩ := hQ7
  have Kt7 := K0.trans Kc7 (fun x hx => by simp only [List.mem_cons, List.mem_singleton, List.not_mem_nil, or_false] at hx; rcases hx with rfl | rfl <;> first | (left; simp; done) | (right; assumption))
  have N7 := Fr.app N0 Nq7
  have Z7 : n0 ≤ T7.heap.size := Nat.le_trans Z0 Kc7.1
  have c7_Ep0 := E_p0.keep Kc7
  have c7_Fp0_found := F_p0_found.keep Kc7 (ninS npf (ninS npv nin0))
  have c7_Fp0_foundCount := F_p0_foundCount.keep Kc7 (ninS npf (ninS npv nin0))
  have c7_Fp0_passed := F_p0_passed.keep Kc7 (ninS npf (ninS npv nin0))
  have c7_Fp0_values := F_p0_values.keep Kc7 (ninS npf (ninS npv nin0))
  refine own_goT (S' := (T7.setTop (mkF m 48 #[.val (.ref p0), .val (.int 1), .val (.int 0)] []))) st7 ?_
  refine own_ret0 X7 hx hlk Bd.returns (hb hby d23_48) (by decide) (by decide) ?_
  exact ⟨rfl, N7, Kt7, Vf7, Vv7⟩
theorem ef_rmMv11N (m : MethodId) (x0 : Addr) (x1 : Int32) (x2 : Int32) : entryFrame m #[(.ref x0), (.int x1), (.int x2)] 3 = mkF m 0 #[.val (.ref x0), .val (.int x1), .val (.int x2)] [] := by first | (simp [entryFrame, mkF, argsToLocals, Value.category]; done) | rfl
def Q_rmMv11N (Z : State) (p0 fa : Addr) (kf : ClassId) (kc : Int32) (f0 : Value) (x0 : Addr) (h0 : Heap) (n0 : Nat) (v : Option Value) (h : Heap) (L : List Loc) : Prop := v = none ∧ Fr n0 L ∧ Keep h0 h [fa] ∧ Arv Z h fa kf (.object "com/example/otaniemi/otaniemi/State") (4 : Int32) [f0, (.ref x0)] .null
set_option maxRecDepth 65536 in
set_option maxHeartbeats 40000000 in
theorem rmMv11N (l : Launch) (Z : State) (a0 : Array Value) (hw : ∀ d ∈ tables_1, d.before a0 Z = true) (ws : List Jvm.Cond) (p0 fa : Addr) (kf : ClassId) (kc : Int32) (f0 : Value) (x0 : Addr) (h0 : Heap) (n0 : Nat) (Z0 : n0 ≤ h0.size) (E_p0 : Exa Z h0 p0 "com/example/otaniemi/otaniemi/Pending") (F_p0_found : Fld Z h0 p0 "com/example/otaniemi/otaniemi/Pending" "found" "[Lcom/example/otaniemi/otaniemi/State;" (.ref fa)) (F_p0_foundCount : Fld Z h0 p0 "com/example/otaniemi/otaniemi/Pending" "foundCount" "I" (.int kc)) (F_p0_passed : Fld Z h0 p0 "com/example/otaniemi/otaniemi/Pending" "passed" "Lcom/example/otaniemi/otaniemi/Pending$Passed;" .null) (F_p0_values : Fld Z h0 p0 "com/example/otaniemi/otaniemi/Pending" "values" "[J" .null) (g_p0 : n0 ≤ p0) (g_fa : n0 ≤ fa) (V_fa : Arv Z h0 fa kf (.object "com/example/otaniemi/otaniemi/State") (4 : Int32) [f0, (.ref x0)] .null) (O_fa : Ovr Z kf "com/example/otaniemi/otaniemi/State") (Ex : Exa Z h0 x0 "com/example/otaniemi/otaniemi/State") :
    MetFree l (⟨"com/example/otaniemi/otaniemi/Pending", "move", "(II)V"⟩ : MethodName) (head1 (Jvm.Cond.code (⟨"com/example/otaniemi/otaniemi/Pending", "move", "(II)V"⟩ : MethodName) prog_64_method_15_code 3 none :: ws) ({ frames := 1, cells := 0, slots := 0, locals := 18 } : Room)) (fun a U => a = #[(.ref p0), (.int 1), (.int 1)] ∧ Z.Warmed39 U.vm ∧ U.heap = h0) (fun _ _ _ _ _ => True) (fun _ U o U' => ∃ v L, o = .returned v ∧ Q_rmMv11N Z p0 fa kf kc f0 x0 h0 n0 v U'.heap L ∧ FrameEnd U o U' L ({ frames := 1, cells := 0, slots := 0, locals := 18 } : Room).cells ({ frames := 1, cells := 0, slots := 0, locals := 18 } : Room).slots) := by
  refine MetFree.of_bodySF (plainFor_of_name pn_151) hisR ?_
  intro p e s m args below meth c s₁ Bd hml0 hP hK
  obtain ⟨rfl, hZ, hh⟩ := hP
  have hx := Bd.exec
  have hby := Bd.bytes
  have hlk := Bd.notSynchronized
  have hml : c.maxLocals = 3 := hml0
  have hown : s.vm.findClass "com/example/otaniemi/otaniemi/Pending" = some m.cls := findClass_of_methodNamed Bd.named
  have hnm := (name_of_methodNamed Bd.named Bd.method).1
  have X0 : Stand p l e ({ frames := 1, cells := 0, slots := 0, locals := 18 } : Room) s m #[(.ref p0), (.int 1), (.int 1)] below meth c s₁ [] 0 0 := Stand.of_body Bd
  have e0 : s₁.heap = h0 := by rw [← hh, Bd.state]; rfl
  have N0 := Fr.nil n0
  change own_Go p e below s (Q_rmMv11N Z p0 fa kf kc f0 x0 h0 n0) ({ frames := 1, cells := 0, slots := 0, locals := 18 } : Room).cells ({ frames := 1, cells := 0, slots := 0, locals := 18 } : Room).slots _
  refine own_go (S' := (s₁.setTop (mkF m 0 #[.val (.ref p0), .val (.int 1), .val (.int 1)] []))) (fun _ kont => castTop (ef_rmMv11N m p0 (1 : Int32) (1 : Int32)) kont) ?_
  have npf := E_p0.neArv V_fa (oH hw 55 rfl)
  have K0 := Keep.refl h0 [fa]
  refine own_go (S' := (s₁.setTop (mkF m 3 #[.val (.ref p0), .val (.int 1), .val (.int 1)] [(.ref p0), (.int 1), (.ref p0)]))) (fun _ kont => XS.aloadN X0.here hx rfl (hb hby d23_0) rfl rfl (XS.iloadN X0.here hx rfl (hb hby d23_1) rfl (XS.aloadN X0.here hx rfl (hb hby d23_2) rfl rfl kont))) ?_
  obtain ⟨T1, X1, e1, st1⟩ := getF X0 hx hZ hown (host := "") (Or.inl (oH hw 63 rfl)) Via.refl e0 F_p0_found (g := (mkF m 3 #[.val (.ref p0), .val (.int 1), .val (.int 1)] [(.ref p0), (.int 1), (.ref p0)])) rfl rfl (hb hby d23_3)
  refine own_go (S' := (T1.setTop (mkF m 6 #[.val (.ref p0), .val (.int 1), .val (.int 1)] [(.ref fa), (.int 1), (.ref p0)]))) st1 ?_
  refine own_go (S' := (T1.setTop (mkF m 7 #[.val (.ref p0), .val (.int 1), .val (.int 1)] [(.int 1), (.ref fa), (.int 1), (.ref p0)]))) (fun _ kont => XS.iloadN X1.here hx rfl (hb hby d23_6) rfl kont) ?_
  obtain ⟨cl2, Ar2, -, S2, -, H2, -⟩ := id V_fa
  have hin2 := inb_of (j := (1 : Int32)) S2 ⟨by decide, by decide⟩
  have hat2 := Has.at (v := (.ref x0)) H2 hin2 (by first | rfl | decide)
  refine own_go (S' := (T1.setTop (mkF m 8 #[.val (.ref p0), .val (.int 1), .val (.int 1)] [(.ref x0), (.int 1), (.ref p0)]))) (fun _ kont => X1.aaload hx (j := (1 : Int32)) (v := (.ref x0)) (by rw [e1]; exact Ar2.1) (State.isArrayOf_alike hZ.alike Ar2.2.1) rfl Ar2.2.2 hin2 hat2 (g := (mkF m 7 #[.val (.ref p0), .val (.int 1), .val (.int 1)] [(.int 1), (.ref fa), (.int 1), (.ref p0)])) rfl rfl (hb hby d23_7) _ kont) ?_
  refine own_go (S' := (T1.setTop (mkF m 9 #[.val (.ref p0), .val (.int 1), .val (.int 1)] [(.ref p0), (.ref x0), (.int 1), (.ref p0)]))) (fun _ kont => XS.aloadN X1.here hx rfl (hb hby d23_8) rfl rfl kont) ?_
  obtain ⟨T3, X3, e3, st3⟩ := getF X1 hx hZ hown (host := "") (Or.inl (oH hw 122 rfl)) Via.refl e1 F_p0_values (g := (mkF m 9 #[.val (.ref p0), .val (.int 1), .val (.int 1)] [(.ref p0), (.ref x0), (.int 1), (.ref p0)])) rfl rfl (hb hby d23_9)
  refine own_go (S' := (T3.setTop (mkF m 12 #[.val (.ref p0), .val (.int 1), .val (.int 1)] [.null, (.ref x0), (.int 1), (.ref p0)]))) st3 ?_
  refine own_go (S' := (T3.setTop (mkF m 26 #[.val (.ref p0), .val (.int 1), .val (.int 1)] [(.ref p0), (.long 0), (.ref x0), (.int 1), (.ref p0)]))) (fun _ kont => XS.ifnonnullNo X3.here hx rfl (hb hby d23_12) rfl (XS.lconst X3.here hx rfl (hb hby d23_15) (XS.goto X3.here hx rfl (pc0 := 16) (pc' := 25) rfl (hb hby d23_16) (by decide) (by decide) (XS.aloadN X3.here hx rfl (hb hby d23_25) rfl rfl kont)))) ?_
  obtain ⟨T4, X4, e4, st4⟩ := getF X3 hx hZ hown (host := "") (Or.inl (oH hw 124 rfl)) Via.refl e3 F_p0_passed (g := (mkF m 26 #[.val (.ref p0), .val (.int 1), .val (.int 1)] [(.ref p0), (.long 0), (.ref x0), (.int 1), (.ref p0)])) rfl rfl (hb hby d23_26)
  refine own_go (S' := (T4.setTop (mkF m 29 #[.val (.ref p0), .val (.int 1), .val (.int 1)] [.null, (.long 0), (.ref x0), (.int 1), (.ref p0)]))) st4 ?_
  refine own_go (S' := (T4.setTop (mkF m 45 #[.val (.ref p0), .val (.int 1), .val (.int 1)] [(.long 0), (.long 0), (.ref x0), (.int 1), (.ref p0)]))) (fun _ kont => XS.ifnonnullNo X4.here hx rfl (hb hby d23_29) rfl (XS.lconst X4.here hx rfl (hb hby d23_32) (XS.goto X4.here hx rfl (pc0 := 33) (pc' := 45) rfl (hb hby d23_33) (by decide) (by decide) kont))) ?_
  obtain ⟨cq5, qp5, qp5'⟩ := E_p0.cell
  obtain ⟨v5, _, ⟨T5, L5, k5, n5⟩, -, X5, ⟨Lc5, hQ5, l5, y5, z5⟩, st5⟩ := X4.privateBack hx (y := (⟨"com/example/otaniemi/otaniemi/Pending", "put", "(ILcom/example/otaniemi/otaniemi/State;JJ)V"⟩ : MethodName)) hown (mvT hZ (oH hw 117 rfl)) (mvT hZ (oH hw 118 rfl)) (own_selP (args := #[]) (mvT hZ (oH hw 55 rfl)) (mvP hZ (oH hw 119 rfl)) (mvT hZ (oH hw 118 rfl)) (by decide)) (Cond.privateMethod_at (mvP hZ (oH hw 119 rfl) (args := #[]))) (mvT hZ (oH hw 120 rfl)) (by decide) (backOf (W := 0) (rmPu1N l Z a0 hw [] p0 fa kf kc f0 (.ref x0) x0 (0 : Int64) (0 : Int64) h0 n0 Z0 E_p0 F_p0_found F_p0_foundCount F_p0_passed F_p0_values g_p0 g_fa V_fa O_fa Ex) hZ (oH hw 120 rfl) (oH hw 56 rfl) (by decide) (by decide)) (g := (mkF m 45 #[.val (.ref p0), .val (.int 1), .val (.int 1)] [(.long 0), (.long 0), (.ref x0), (.int 1), (.ref p0)])) rfl (by rw [hml]; rfl) (Steps.refl _) (a := p0) (by rw [e4]; exact qp5) qp5' (argsL := [(.int 1), (.ref x0), (.long 0), (.long 0)]) (rest := []) (lenOf pd_235 rfl) rfl (by show 2 * 0 + _ ≤ _; exact Nat.le_of_eq rfl) (hb hby d23_45) (fun _ _ => ⟨rfl, e4, (by decide : 0 + 0 ≤ _), (by decide : 0 + 0 ≤ _)⟩)
  dsimp only [Pt.U, Pt.locs, Pt.cells, Pt.slots] at X5 l5 y5 z5 st5 hQ5
  subst l5 y5 z5
  obtain ⟨rfl, Nq5, Kc5, Vf5⟩ := hQ5
  have Kt5 := K0.trans Kc5 (fun x hx => by simp only [List.mem_cons, List.mem_singleton, List.not_mem_nil, or_false] at hx; rcases hx with rfl <;> first | (left; simp; done) | (right; assumption))
  have N5 := Fr.app N0 Nq5
  have Z5 : n0 ≤ T5.heap.size := Nat.le_trans Z0 Kc5.1
  have c5_Ep0 := E_p0.keep Kc5
  have c5_Fp0_found := F_p0_found.keep Kc5 (ninS npf nin0)
  have c5_Fp0_foundCount := F_p0_foundCount.keep Kc5 (ninS npf nin0)
  have c5_Fp0_passed := F_p0_passed.keep Kc5 (ninS npf nin0)
  have c5_Fp0_values := F_p0_values.keep Kc5 (ninS npf nin0)
  refine own_goT (S' := (T5.setTop (mkF m 48 #[.val (.ref p0), .val (.int 1), .val (.int 1)] []))) st5 ?_
  refine own_ret0 X5 hx hlk Bd.returns (hb hby d23_48) (by decide) (by decide) ?_
  exact ⟨rfl, N5, Kt5, Vf5⟩
theorem ef_rmMv11A (m : MethodId) (x0 : Addr) (x1 : Int32) (x2 : Int32) : entryFrame m #[(.ref x0), (.int x1), (.int x2)] 3 = mkF m 0 #[.val (.ref x0), .val (.int x1), .val (.int x2)] [] := by first | (simp [entryFrame, mkF, argsToLocals, Value.category]; done) | rfl
def Q_rmMv11A (Z : State) (p0 fa : Addr) (kf : ClassId) (kc : Int32) (f0 : Value) (va : Addr) (kv : ClassId) (v0 v1 : Int64) (x0 : Addr) (h0 : Heap) (n0 : Nat) (v : Option Value) (h : Heap) (L : List Loc) : Prop := v = none ∧ Fr n0 L ∧ Keep h0 h [fa, va] ∧ Arv Z h fa kf (.object "com/example/otaniemi/otaniemi/State") (4 : Int32) [f0, (.ref x0)] .null ∧ Arv Z h va kv .long (4 : Int32) [(.long v0), (.long v1)] (.long 0)
set_option maxRecDepth 65536 in
set_option maxHeartbeats 40000000 in
theorem rmMv11A (l : Launch) (Z : State) (a0 : Array Value) (hw : ∀ d ∈ tables_1, d.before a0 Z = true) (ws : List Jvm.Cond) (p0 fa : Addr) (kf : ClassId) (kc : Int32) (f0 : Value) (va : Addr) (kv : ClassId) (v0 v1 : Int64) (x0 : Addr) (h0 : Heap) (n0 : Nat) (Z0 : n0 ≤ h0.size) (E_p0 : Exa Z h0 p0 "com/example/otaniemi/otaniemi/Pending") (F_p0_found : Fld Z h0 p0 "com/example/otaniemi/otaniemi/Pending" "found" "[Lcom/example/otaniemi/otaniemi/State;" (.ref fa)) (F_p0_foundCount : Fld Z h0 p0 "com/example/otaniemi/otaniemi/Pending" "foundCount" "I" (.int kc)) (F_p0_passed : Fld Z h0 p0 "com/example/otaniemi/otaniemi/Pending" "passed" "Lcom/example/otaniemi/otaniemi/Pending$Passed;" .null) (F_p0_values : Fld Z h0 p0 "com/example/otaniemi/otaniemi/Pending" "values" "[J" (.ref va)) (g_p0 : n0 ≤ p0) (g_fa : n0 ≤ fa) (V_fa : Arv Z h0 fa kf (.object "com/example/otaniemi/otaniemi/State") (4 : Int32) [f0, (.ref x0)] .null) (O_fa : Ovr Z kf "com/example/otaniemi/otaniemi/State") (g_va : n0 ≤ va) (nfv : fa ≠ va) (V_va : Arv Z h0 va kv .long (4 : Int32) [(.long v0), (.long v1)] (.long 0)) (Ex : Exa Z h0 x0 "com/example/otaniemi/otaniemi/State") :
    MetFree l (⟨"com/example/otaniemi/otaniemi/Pending", "move", "(II)V"⟩ : MethodName) (head1 (Jvm.Cond.code (⟨"com/example/otaniemi/otaniemi/Pending", "move", "(II)V"⟩ : MethodName) prog_64_method_15_code 3 none :: ws) ({ frames := 1, cells := 0, slots := 0, locals := 18 } : Room)) (fun a U => a = #[(.ref p0), (.int 1), (.int 1)] ∧ Z.Warmed39 U.vm ∧ U.heap = h0) (fun _ _ _ _ _ => True) (fun _ U o U' => ∃ v L, o = .returned v ∧ Q_rmMv11A Z p0 fa kf kc f0 va kv v0 v1 x0 h0 n0 v U'.heap L ∧ FrameEnd U o U' L ({ frames := 1, cells := 0, slots := 0, locals := 18 } : Room).cells ({ frames := 1, cells := 0, slots := 0, locals := 18 } : Room).slots) := by
  refine MetFree.of_bodySF (plainFor_of_name pn_151) hisR ?_
  intro p e s m args below meth c s₁ Bd hml0 hP hK
  obtain ⟨rfl, hZ, hh⟩ := hP
  have hx := Bd.exec
  have hby := Bd.bytes
  have hlk := Bd.notSynchronized
  have hml : c.maxLocals = 3 := hml0
  have hown : s.vm.findClass "com/example/otaniemi/otaniemi/Pending" = some m.cls := findClass_of_methodNamed Bd.named
  have hnm := (name_of_methodNamed Bd.named Bd.method).1
  have X0 : Stand p l e ({ frames := 1, cells := 0, slots := 0, locals := 18 } : Room) s m #[(.ref p0), (.int 1), (.int 1)] below meth c s₁ [] 0 0 := Stand.of_body Bd
  have e0 : s₁.heap = h0 := by rw [← hh, Bd.state]; rfl
  have N0 := Fr.nil n0
  change own_Go p e below s (Q_rmMv11A Z p0 fa kf kc f0 va kv v0 v1 x0 h0 n0) ({ frames := 1, cells := 0, slots := 0, locals := 18 } : Room).cells ({ frames := 1, cells := 0, slots := 0, locals := 18 } : Room).slots _
  refine own_go (S' := (s₁.setTop (mkF m 0 #[.val (.ref p0), .val (.int 1), .val (.int 1)] []))) (fun _ kont => castTop (ef_rmMv11A m p0 (1 : Int32) (1 : Int32)) kont) ?_
  have npf := E_p0.neArv V_fa (oH hw 55 rfl)
  have npv := E_p0.neArv V_va (oH hw 55 rfl)
  have K0 := Keep.refl h0 [fa, va]
  refine own_go (S' := (s₁.setTop (mkF m 3 #[.val (.ref p0), .val (.int 1), .val (.int 1)] [(.ref p0), (.int 1), (.ref p0)]))) (fun _ kont => XS.aloadN X0.here hx rfl (hb hby d23_0) rfl rfl (XS.iloadN X0.here hx rfl (hb hby d23_1) rfl (XS.aloadN X0.here hx rfl (hb hby d23_2) rfl rfl kont))) ?_
  obtain ⟨T1, X1, e1, st1⟩ := getF X0 hx hZ hown (host := "") (Or.inl (oH hw 63 rfl)) Via.refl e0 F_p0_found (g := (mkF m 3 #[.val (.ref p0), .val (.int 1), .val (.int 1)] [(.ref p0), (.int 1), (.ref p0)])) rfl rfl (hb hby d23_3)
  refine own_go (S' := (T1.setTop (mkF m 6 #[.val (.ref p0), .val (.int 1), .val (.int 1)] [(.ref fa), (.int 1), (.ref p0)]))) st1 ?_
  refine own_go (S' := (T1.setTop (mkF m 7 #[.val (.ref p0), .val (.int 1), .val (.int 1)] [(.int 1), (.ref fa), (.int 1), (.ref p0)]))) (fun _ kont => XS.iloadN X1.here hx rfl (hb hby d23_6) rfl kont) ?_
  obtain ⟨cl2, Ar2, -, S2, -, H2, -⟩ := id V_fa
  have hin2 := inb_of (j := (1 : Int32)) S2 ⟨by decide, by decide⟩
  have hat2 := Has.at (v := (.ref x0)) H2 hin2 (by first | rfl | decide)
  refine own_go (S' := (T1.setTop (mkF m 8 #[.val (.ref p0), .val (.int 1), .val (.int 1)] [(.ref x0), (.int 1), (.ref p0)]))) (fun _ kont => X1.aaload hx (j := (1 : Int32)) (v := (.ref x0)) (by rw [e1]; exact Ar2.1) (State.isArrayOf_alike hZ.alike Ar2.2.1) rfl Ar2.2.2 hin2 hat2 (g := (mkF m 7 #[.val (.ref p0), .val (.int 1), .val (.int 1)] [(.int 1), (.ref fa), (.int 1), (.ref p0)])) rfl rfl (hb hby d23_7) _ kont) ?_
  refine own_go (S' := (T1.setTop (mkF m 9 #[.val (.ref p0), .val (.int 1), .val (.int 1)] [(.ref p0), (.ref x0), (.int 1), (.ref p0)]))) (fun _ kont => XS.aloadN X1.here hx rfl (hb hby d23_8) rfl rfl kont) ?_
  obtain ⟨T3, X3, e3, st3⟩ := getF X1 hx hZ hown (host := "") (Or.inl (oH hw 122 rfl)) Via.refl e1 F_p0_values (g := (mkF m 9 #[.val (.ref p0), .val (.int 1), .val (.int 1)] [(.ref p0), (.ref x0), (.int 1), (.ref p0)])) rfl rfl (hb hby d23_9)
  refine own_go (S' := (T3.setTop (mkF m 12 #[.val (.ref p0), .val (.int 1), .val (.int 1)] [(.ref va), (.ref x0), (.int 1), (.ref p0)]))) st3 ?_
  refine own_go (S' := (T3.setTop (mkF m 20 #[.val (.ref p0), .val (.int 1), .val (.int 1)] [(.ref p0), (.ref x0), (.int 1), (.ref p0)]))) (fun _ kont => XS.ifnonnullYes X3.here hx rfl (pc0 := 12) (pc' := 19) rfl (hb hby d23_12) rfl (by decide) (by decide) (XS.aloadN X3.here hx rfl (hb hby d23_19) rfl rfl kont)) ?_
  obtain ⟨T4, X4, e4, st4⟩ := getF X3 hx hZ hown (host := "") (Or.inl (oH hw 122 rfl)) Via.refl e3 F_p0_values (g := (mkF m 20 #[.val (.ref p0), .val (.int 1), .val (.int 1)] [(.ref p0), (.ref x0), (.int 1), (.ref p0)])) rfl rfl (hb hby d23_20)
  refine own_go (S' := (T4.setTop (mkF m 23 #[.val (.ref p0), .val (.int 1), .val (.int 1)] [(.ref va), (.ref x0), (.int 1), (.ref p0)]))) st4 ?_
  refine own_go (S' := (T4.setTop (mkF m 24 #[.val (.ref p0), .val (.int 1), .val (.int 1)] [(.int 1), (.ref va), (.ref x0), (.int 1), (.ref p0)]))) (fun _ kont => XS.iloadN X4.here hx rfl (hb hby d23_23) rfl kont) ?_
  obtain ⟨cl5, Ar5, -, S5, -, H5, -⟩ := id V_va
  have hin5 := inb_of (j := (1 : Int32)) S5 ⟨by decide, by decide⟩
  have hat5 := Has.at (v := (.long v1)) H5 hin5 (by first | rfl | decide)
  refine own_go (S' := (T4.setTop (mkF m 25 #[.val (.ref p0), .val (.int 1), .val (.int 1)] [(.long v1), (.ref x0), (.int 1), (.ref p0)]))) (fun _ kont => X4.laload hx (j := (1 : Int32)) (v := (.long v1)) (by rw [e4]; exact Ar5.1) (State.isArrayOf_alike hZ.alike Ar5.2.1) Ar5.2.2 hin5 hat5 (g := (mkF m 24 #[.val (.ref p0), .val (.int 1), .val (.int 1)] [(.int 1), (.ref va), (.ref x0), (.int 1), (.ref p0)])) rfl rfl (hb hby d23_24) _ kont) ?_
  refine own_go (S' := (T4.setTop (mkF m 26 #[.val (.ref p0), .val (.int 1), .val (.int 1)] [(.ref p0), (.long v1), (.ref x0), (.int 1), (.ref p0)]))) (fun _ kont => XS.aloadN X4.here hx rfl (hb hby d23_25) rfl rfl kont) ?_
  obtain ⟨T6, X6, e6, st6⟩ := getF X4 hx hZ hown (host := "") (Or.inl (oH hw 124 rfl)) Via.refl e4 F_p0_passed (g := (mkF m 26 #[.val (.ref p0), .val (.int 1), .val (.int 1)] [(.ref p0), (.long v1), (.ref x0), (.int 1), (.ref p0)])) rfl rfl (hb hby d23_26)
  refine own_go (S' := (T6.setTop (mkF m 29 #[.val (.ref p0), .val (.int 1), .val (.int 1)] [.null, (.long v1), (.ref x0), (.int 1), (.ref p0)]))) st6 ?_
  refine own_go (S' := (T6.setTop (mkF m 45 #[.val (.ref p0), .val (.int 1), .val (.int 1)] [(.long 0), (.long v1), (.ref x0), (.int 1), (.ref p0)]))) (fun _ kont => XS.ifnonnullNo X6.here hx rfl (hb hby d23_29) rfl (XS.lconst X6.here hx rfl (hb hby d23_32) (XS.goto X6.here hx rfl (pc0 := 33) (pc' := 45) rfl (hb hby d23_33) (by decide) (by decide) kont))) ?_
  obtain ⟨cq7, qp7, qp7'⟩ := E_p0.cell
  obtain ⟨v7, _, ⟨T7, L7, k7, n7⟩, -, X7, ⟨Lc7, hQ7, l7, y7, z7⟩, st7⟩ := X6.privateBack hx (y := (⟨"com/example/otaniemi/otaniemi/Pending", "put", "(ILcom/example/otaniemi/otaniemi/State;JJ)V"⟩ : MethodName)) hown (mvT hZ (oH hw 117 rfl)) (mvT hZ (oH hw 118 rfl)) (own_selP (args := #[]) (mvT hZ (oH hw 55 rfl)) (mvP hZ (oH hw 119 rfl)) (mvT hZ (oH hw 118 rfl)) (by decide)) (Cond.privateMethod_at (mvP hZ (oH hw 119 rfl) (args := #[]))) (mvT hZ (oH hw 120 rfl)) (by decide) (backOf (W := 0) (rmPu1A l Z a0 hw [] p0 fa kf kc f0 (.ref x0) va kv v0 v1 x0 v1 (0 : Int64) h0 n0 Z0 E_p0 F_p0_found F_p0_foundCount F_p0_passed F_p0_values g_p0 g_fa V_fa O_fa g_va nfv V_va Ex) hZ (oH hw 120 rfl) (oH hw 56 rfl) (by decide) (by decide)) (g := (mkF m 45 #[.val (.ref p0), .val (.int 1), .val (.int 1)] [(.long 0), (.long v1), (.ref x0), (.int 1), (.ref p0)])) rfl (by rw [hml]; rfl) (Steps.refl _) (a := p0) (by rw [e6]; exact qp7) qp7' (argsL := [(.int 1), (.ref x0), (.long v1), (.long 0)]) (rest := []) (lenOf pd_235 rfl) rfl (by show 2 * 0 + _ ≤ _; exact Nat.le_of_eq rfl) (hb hby d23_45) (fun _ _ => ⟨rfl, e6, (by decide : 0 + 0 ≤ _), (by decide : 0 + 0 ≤ _)⟩)
  dsimp only [Pt.U, Pt.locs, Pt.cells, Pt.slots] at X7 l7 y7 z7 st7 hQ7
  subst l7 y7 z7
  obtain ⟨rfl, Nq7, Kc7, Vf7, Vv7⟩ := hQ7
  have Kt7 := K0.trans Kc7 (fun x hx => by simp only [List.mem_cons, List.mem_singleton, List.not_mem_nil, or_false] at hx; rcases hx with rfl | rfl <;> first | (left; simp; done) | (right; assumption))
  have N7 := Fr.app N0 Nq7
  have Z7 : n0 ≤ T7.heap.size := Nat.le_trans Z0 Kc7.1
  have c7_Ep0 := E_p0.keep Kc7
  have c7_Fp0_found := F_p0_found.keep Kc7 (ninS npf (ninS npv nin0))
  have c7_Fp0_foundCount := F_p0_foundCount.keep Kc7 (ninS npf (ninS npv nin0))
  have c7_Fp0_passed := F_p0_passed.keep Kc7 (ninS npf (ninS npv nin0))
  have c7_Fp0_values := F_p0_values.keep Kc7 (ninS npf (ninS npv nin0))
  refine own_goT (S' := (T7.setTop (mkF m 48 #[.val (.ref p0), .val (.int 1), .val (.int 1)] []))) st7 ?_
  refine own_ret0 X7 hx hlk Bd.returns (hb hby d23_48) (by decide) (by decide) ?_
  exact ⟨rfl, N7, Kt7, Vf7, Vv7⟩
theorem d6_0 : decode prog_64_method_1_code 0 = .ok (.aload_n 0, 1) := by decide +kernel
theorem d6_1 : decode prog_64_method_1_code 1 = .ok (.invokespecial 1, 3) := by decide +kernel
theorem d6_4 : decode prog_64_method_1_code 4 = .ok (.aload_n 0, 1) := by decide +kernel
theorem d6_5 : decode prog_64_method_1_code 5 = .ok (.iconst 4, 1) := by decide +kernel
theorem d6_6 : decode prog_64_method_1_code 6 = .ok (.anewarray 7, 3) := by decide +kernel
theorem d6_9 : decode prog_64_method_1_code 9 = .ok (.putfield 9, 3) := by decide +kernel
theorem d6_12 : decode prog_64_method_1_code 12 = .ok (.return_, 1) := by decide +kernel
theorem ef_rmPn (m : MethodId) (x0 : Addr) : entryFrame m #[(.ref x0)] 1 = mkF m 0 #[.val (.ref x0)] [] := by first | (simp [entryFrame, mkF, argsToLocals, Value.category]; done) | rfl
def Q_rmPn (Z : State) (p0 : Addr) (h0 : Heap) (n0 : Nat) (v : Option Value) (h : Heap) (L : List Loc) : Prop := v = none ∧ Fr n0 L ∧ Keep h0 h [p0] ∧ own_P0 Z h n0 p0
set_option maxRecDepth 65536 in
set_option maxHeartbeats 40000000 in
theorem rmPn (l : Launch) (Z : State) (a0 : Array Value) (hw : ∀ d ∈ tables_1, d.before a0 Z = true) (ws : List Jvm.Cond) (p0 : Addr) (h0 : Heap) (n0 : Nat) (Z0 : n0 ≤ h0.size) (E_p0 : Exa Z h0 p0 "com/example/otaniemi/otaniemi/Pending") (F_p0_found : Fld Z h0 p0 "com/example/otaniemi/otaniemi/Pending" "found" "[Lcom/example/otaniemi/otaniemi/State;" .null) (F_p0_foundCount : Fld Z h0 p0 "com/example/otaniemi/otaniemi/Pending" "foundCount" "I" (.int 0)) (F_p0_passed : Fld Z h0 p0 "com/example/otaniemi/otaniemi/Pending" "passed" "Lcom/example/otaniemi/otaniemi/Pending$Passed;" .null) (F_p0_values : Fld Z h0 p0 "com/example/otaniemi/otaniemi/Pending" "values" "[J" .null) (g_p0 : n0 ≤ p0) :
    MetFree l (⟨"com/example/otaniemi/otaniemi/Pending", "<init>", "()V"⟩ : MethodName) (head1 (Jvm.Cond.code (⟨"com/example/otaniemi/otaniemi/Pending", "<init>", "()V"⟩ : MethodName) prog_64_method_1_code 1 none :: ws) ({ frames := 1, cells := 1, slots := 4, locals := 12 } : Room)) (fun a U => a = #[(.ref p0)] ∧ Z.Warmed39 U.vm ∧ U.heap = h0) (fun _ _ _ _ _ => True) (fun _ U o U' => ∃ v L, o = .returned v ∧ Q_rmPn Z p0 h0 n0 v U'.heap L ∧ FrameEnd U o U' L ({ frames := 1, cells := 1, slots := 4, locals := 12 } : Room).cells ({ frames := 1, cells := 1, slots := 4, locals := 12 } : Room).slots) := by
  refine MetFree.of_bodySF (plainFor_of_name pn_151) hisR ?_
  intro p e s m args below meth c s₁ Bd hml0 hP hK
  obtain ⟨rfl, hZ, hh⟩ := hP
  have hx := Bd.exec
  have hby := Bd.bytes
  have hlk := Bd.notSynchronized
  have hml : c.maxLocals = 1 := hml0
  have hown : s.vm.findClass "com/example/otaniemi/otaniemi/Pending" = some m.cls := findClass_of_methodNamed Bd.named
  have hnm := (name_of_methodNamed Bd.named Bd.method).1
  have X0 : Stand p l e ({ frames := 1, cells := 1, slots := 4, locals := 12 } : Room) s m #[(.ref p0)] below meth c s₁ [] 0 0 := Stand.of_body Bd
  have e0 : s₁.heap = h0 := by rw [← hh, Bd.state]; rfl
  have N0 := Fr.nil n0
  change own_Go p e below s (Q_rmPn Z p0 h0 n0) ({ frames := 1, cells := 1, slots := 4, locals := 12 } : Room).cells ({ frames := 1, cells := 1, slots := 4, locals := 12 } : Room).slots _
  refine own_go (S' := (s₁.setTop (mkF m 0 #[.val (.ref p0)] []))) (fun _ kont => castTop (ef_rmPn m p0) kont) ?_
  have K0 := Keep.refl h0 [p0]
  refine own_go (S' := (s₁.setTop (mkF m 1 #[.val (.ref p0)] [(.ref p0)]))) (fun _ kont => XS.aloadN X0.here hx rfl (hb hby d6_0) rfl rfl kont) ?_
  obtain ⟨T1, X1, e1, st1⟩ := initO X0 hx hZ hown (oH hw 60 rfl) (oH hw 7 rfl) (oH hw 8 rfl) e0 (g := (mkF m 1 #[.val (.ref p0)] [(.ref p0)])) rfl (by rw [hml]; rfl) rfl (hb hby d6_1) (by decide) (W := 0) (by show 2 * 0 + _ ≤ _; exact Nat.le_of_eq rfl) (by decide)
  refine own_go (S' := (T1.setTop (mkF m 4 #[.val (.ref p0)] []))) st1 ?_
  refine own_go (S' := (T1.setTop (mkF m 6 #[.val (.ref p0)] [(.int 4), (.ref p0)]))) (fun _ kont => XS.aloadN X1.here hx rfl (hb hby d6_4) rfl rfl (XS.iconst X1.here hx rfl (hb hby d6_5) kont)) ?_
  obtain ⟨T2, h2, kf, X2, e2, E2, A2, O_fa, st2⟩ := newR X1 hx hZ hown (oH hw 61 rfl) (oH hw 62 rfl) e1 (g := (mkF m 6 #[.val (.ref p0)] [(.int 4), (.ref p0)])) rfl (hb hby d6_6) (n := (4 : Int32)) rfl (by decide) (cap := 4) (by decide) (by decide) (by decide) (by decide)
  obtain ⟨fa, gz2⟩ : ∃ z, z = h0.size := ⟨_, rfl⟩
  rw [← gz2] at A2 st2
  have sz_fa : h0.size ≤ fa := Nat.le_trans K0.1 (Nat.le_of_eq gz2.symm)
  have ne_p0_fa : p0 ≠ fa := Nat.ne_of_lt (by rw [gz2]; exact E_p0.lt)
  have c2_Ep0 := E_p0.ext E2
  have c2_Fp0_found := F_p0_found.ext E2
  have c2_Fp0_foundCount := F_p0_foundCount.ext E2
  have c2_Fp0_passed := F_p0_passed.ext E2
  have c2_Fp0_values := F_p0_values.ext E2
  have K2 := K0.ext E2
  have g_fa : n0 ≤ fa := Nat.le_trans Z0 (Nat.le_of_eq gz2.symm)
  have V2 : Arv Z h2 fa kf (.object "com/example/otaniemi/otaniemi/State") (4 : Int32) [.null, .null] .null := (Arv.new A2 (by decide)).pad (pad_rep [] .null 2)
  have Z2 : n0 ≤ h2.size := Nat.le_trans Z0 E2.1
  refine own_go (S' := (T2.setTop (mkF m 9 #[.val (.ref p0)] [(.ref fa), (.ref p0)]))) st2 ?_
  obtain ⟨T3, h3, X3, e3, W3, st3⟩ := putF X2 hx hZ hown (host := "") (Or.inl (oH hw 63 rfl)) Via.refl e2 c2_Fp0_found c2_Ep0 (Or.inl (oH hw 64 rfl)) (oH hw 55 rfl) (ty := (.array (.object "com/example/otaniemi/otaniemi/State"))) (by decide) rfl rfl (g := (mkF m 9 #[.val (.ref p0)] [(.ref fa), (.ref p0)])) rfl rfl (hb hby d6_9)
  have c3_Ep0 := c2_Ep0.wr W3
  have c3_Fp0_found := c2_Fp0_found.same W3
  have c3_Fp0_foundCount := c2_Fp0_foundCount.other W3 (Or.inr (slot_ne (Or.inl (oH hw 75 rfl)) (Or.inl (oH hw 64 rfl)) (by decide) (by decide : parseFieldDescriptor "I" = some .int) (by decide : parseFieldDescriptor "[Lcom/example/otaniemi/otaniemi/State;" = some (.array (.object "com/example/otaniemi/otaniemi/State")))))
  have c3_Fp0_passed := c2_Fp0_passed.other W3 (Or.inr (slot_ne (Or.inl (oH hw 125 rfl)) (Or.inl (oH hw 64 rfl)) (by decide) (by decide : parseFieldDescriptor "Lcom/example/otaniemi/otaniemi/Pending$Passed;" = some (.object "com/example/otaniemi/otaniemi/Pending$Passed")) (by decide : parseFieldDescriptor "[Lcom/example/otaniemi/otaniemi/State;" = some (.array (.object "com/example/otaniemi/otaniemi/State")))))
  have c3_Fp0_values := c2_Fp0_values.other W3 (Or.inr (slot_ne (Or.inl (oH hw 123 rfl)) (Or.inl (oH hw 64 rfl)) (by decide) (by decide : parseFieldDescriptor "[J" = some (.array .long)) (by decide : parseFieldDescriptor "[Lcom/example/otaniemi/otaniemi/State;" = some (.array (.object "com/example/otaniemi/otaniemi/State")))))
  have c3_Vfa := V2.other W3 (Ne.symm ne_p0_fa)
  have K3 := K2.wr W3 (Or.inl (List.mem_of_getElem? (i := 0) rfl))
  have N3 := Fr.snoc X3 N0 g_p0
  have Z3 : n0 ≤ h3.size := Nat.le_trans Z2 (Nat.le_of_eq W3.size.symm)
  refine own_go (S' := (T3.setTop (mkF m 12 #[.val (.ref p0)] []))) st3 ?_
  refine own_ret0 X3 hx hlk Bd.returns (hb hby d6_12) (by decide) (by decide) ?_
  rw [e3]
  exact ⟨rfl, N3, K3, fa, kf, ⟨g_p0, g_fa, c3_Ep0, c3_Fp0_found, c3_Fp0_foundCount, c3_Fp0_passed, c3_Vfa, O_fa⟩, c3_Fp0_values⟩
theorem d15_0 : decode prog_64_method_11_code 0 = .ok (.lload_n 2, 1) := by decide +kernel
theorem d15_1 : decode prog_64_method_11_code 1 = .ok (.lconst 0, 1) := by decide +kernel
theorem d15_2 : decode prog_64_method_11_code 2 = .ok (.lcmp, 1) := by decide +kernel
theorem d15_3 : decode prog_64_method_11_code 3 = .ok (.ifCond .eq 7, 3) := by decide +kernel
theorem d15_10 : decode prog_64_method_11_code 10 = .ok (.aload_n 0, 1) := by decide +kernel
theorem d15_11 : decode prog_64_method_11_code 11 = .ok (.aload_n 1, 1) := by decide +kernel
theorem d15_12 : decode prog_64_method_11_code 12 = .ok (.invokevirtual 78, 3) := by decide +kernel
theorem pd_255 : parseMethodDescriptor "(Lcom/example/otaniemi/otaniemi/State;)I" = some ⟨[(.object "com/example/otaniemi/otaniemi/State")], some .int⟩ := by decide +kernel
theorem d15_15 : decode prog_64_method_11_code 15 = .ok (.istore 4, 2) := by decide +kernel
theorem d15_17 : decode prog_64_method_11_code 17 = .ok (.iload 4, 2) := by decide +kernel
theorem d15_19 : decode prog_64_method_11_code 19 = .ok (.ifCond .lt 29, 3) := by decide +kernel
theorem d15_48 : decode prog_64_method_11_code 48 = .ok (.aload_n 0, 1) := by decide +kernel
theorem d15_49 : decode prog_64_method_11_code 49 = .ok (.getfield 15, 3) := by decide +kernel
theorem d15_52 : decode prog_64_method_11_code 52 = .ok (.aload_n 0, 1) := by decide +kernel
theorem d15_53 : decode prog_64_method_11_code 53 = .ok (.getfield 9, 3) := by decide +kernel
theorem d15_56 : decode prog_64_method_11_code 56 = .ok (.arraylength, 1) := by decide +kernel
theorem d15_57 : decode prog_64_method_11_code 57 = .ok (.if_icmp .ne 13, 3) := by decide +kernel
theorem d15_70 : decode prog_64_method_11_code 70 = .ok (.aload_n 0, 1) := by decide +kernel
theorem d15_71 : decode prog_64_method_11_code 71 = .ok (.getfield 15, 3) := by decide +kernel
theorem d15_74 : decode prog_64_method_11_code 74 = .ok (.istore 4, 2) := by decide +kernel
theorem d15_76 : decode prog_64_method_11_code 76 = .ok (.iload 4, 2) := by decide +kernel
theorem d15_78 : decode prog_64_method_11_code 78 = .ok (.ifCond .le 38, 3) := by decide +kernel
theorem d15_116 : decode prog_64_method_11_code 116 = .ok (.aload_n 0, 1) := by decide +kernel
theorem d15_117 : decode prog_64_method_11_code 117 = .ok (.iload 4, 2) := by decide +kernel
theorem d15_119 : decode prog_64_method_11_code 119 = .ok (.aload_n 1, 1) := by decide +kernel
theorem d15_120 : decode prog_64_method_11_code 120 = .ok (.lload_n 2, 1) := by decide +kernel
theorem d15_121 : decode prog_64_method_11_code 121 = .ok (.lconst 0, 1) := by decide +kernel
theorem d15_122 : decode prog_64_method_11_code 122 = .ok (.invokevirtual 115, 3) := by decide +kernel
theorem d15_125 : decode prog_64_method_11_code 125 = .ok (.aload_n 0, 1) := by decide +kernel
theorem d15_126 : decode prog_64_method_11_code 126 = .ok (.dup, 1) := by decide +kernel
theorem d15_127 : decode prog_64_method_11_code 127 = .ok (.getfield 15, 3) := by decide +kernel
theorem d15_130 : decode prog_64_method_11_code 130 = .ok (.iconst 1, 1) := by decide +kernel
theorem d15_131 : decode prog_64_method_11_code 131 = .ok (.iadd, 1) := by decide +kernel
theorem d15_132 : decode prog_64_method_11_code 132 = .ok (.putfield 15, 3) := by decide +kernel
theorem d15_135 : decode prog_64_method_11_code 135 = .ok (.return_, 1) := by decide +kernel
theorem d15_6 : decode prog_64_method_11_code 6 = .ok (.aload_n 0, 1) := by decide +kernel
theorem d15_7 : decode prog_64_method_11_code 7 = .ok (.invokevirtual 98, 3) := by decide +kernel
theorem ef_rmJ0 (m : MethodId) (x0 : Addr) (x1 : Addr) (x2 : Int64) : entryFrame m #[(.ref x0), (.ref x1), (.long x2)] 5 = mkF m 0 #[.val (.ref x0), .val (.ref x1), .val (.long x2), .second, .unset] [] := by first | (simp [entryFrame, mkF, argsToLocals, Value.category]; done) | rfl
def Q_rmJ0 (Z : State) (p0 x0 : Addr) (cj : Int64) (nx0 cx0 dx0 : Int32) (h0 : Heap) (n0 : Nat) (v : Option Value) (h : Heap) (L : List Loc) : Prop := v = none ∧ Fr n0 L ∧ own_Kp n0 h0 h ∧ own_P1 own_okA Z h n0 p0 x0 cx0
set_option maxRecDepth 65536 in
set_option maxHeartbeats 40000000 in
theorem rmJ0 (l : Launch) (Z : State) (a0 : Array Value) (hw : ∀ d ∈ tables_1, d.before a0 Z = true) (ws : List Jvm.Cond) (p0 x0 : Addr) (cj : Int64) (nx0 cx0 dx0 : Int32) (h0 : Heap) (n0 : Nat) (Z0 : n0 ≤ h0.size) (P : own_P0 Z h0 n0 p0) (U_x0 : own_T Z n0 h0 x0 nx0 cx0 dx0) (hc : (cj = 0 ∧ cx0 = 0) ∨ (cj = 1 ∧ cx0 = 1)) :
    MetFree l (⟨"com/example/otaniemi/otaniemi/Pending", "add", "(Lcom/example/otaniemi/otaniemi/State;J)V"⟩ : MethodName) (head1 (Jvm.Cond.code (⟨"com/example/otaniemi/otaniemi/Pending", "add", "(Lcom/example/otaniemi/otaniemi/State;J)V"⟩ : MethodName) prog_64_method_11_code 5 none :: ws) ({ frames := 1, cells := 1, slots := 4, locals := 18 } : Room)) (fun a U => a = #[(.ref p0), (.ref x0), (.long cj)] ∧ Z.Warmed39 U.vm ∧ U.heap = h0) (fun _ _ _ _ _ => True) (fun _ U o U' => ∃ v L, o = .returned v ∧ Q_rmJ0 Z p0 x0 cj nx0 cx0 dx0 h0 n0 v U'.heap L ∧ FrameEnd U o U' L ({ frames := 1, cells := 1, slots := 4, locals := 18 } : Room).cells ({ frames := 1, cells := 1, slots := 4, locals := 18 } : Room).slots) := by
  refine MetFree.of_bodySF (plainFor_of_name pn_151) hisR ?_
  intro p e s m args below meth c s₁ Bd hml0 hP hK
  obtain ⟨rfl, hZ, hh⟩ := hP
  have hx := Bd.exec
  have hby := Bd.bytes
  have hlk := Bd.notSynchronized
  have hml : c.maxLocals = 5 := hml0
  have hown : s.vm.findClass "com/example/otaniemi/otaniemi/Pending" = some m.cls := findClass_of_methodNamed Bd.named
  have hnm := (name_of_methodNamed Bd.named Bd.method).1
  have X0 : Stand p l e ({ frames := 1, cells := 1, slots := 4, locals := 18 } : Room) s m #[(.ref p0), (.ref x0), (.long cj)] below meth c s₁ [] 0 0 := Stand.of_body Bd
  have e0 : s₁.heap = h0 := by rw [← hh, Bd.state]; rfl
  have N0 := Fr.nil n0
  change own_Go p e below s (Q_rmJ0 Z p0 x0 cj nx0 cx0 dx0 h0 n0) ({ frames := 1, cells := 1, slots := 4, locals := 18 } : Room).cells ({ frames := 1, cells := 1, slots := 4, locals := 18 } : Room).slots _
  refine own_go (S' := (s₁.setTop (mkF m 0 #[.val (.ref p0), .val (.ref x0), .val (.long cj), .second, .unset] []))) (fun _ kont => castTop (ef_rmJ0 m p0 x0 cj) kont) ?_
  obtain ⟨fa, kf, HC, HN⟩ := P
  obtain ⟨g_p0, g_fa, E_p0, F_p0_found, F_p0_foundCount, F_p0_passed, V_fa, O_fa⟩ := HC
  have F_p0_values := HN
  unfold own_Vn at F_p0_values
  have npf := E_p0.neArv V_fa (oH hw 55 rfl)
  rcases hc with ⟨rfl, rfl⟩ | ⟨rfl, rfl⟩
  · have K0 := Keep.refl h0 [p0, fa]
    refine own_go (S' := (s₁.setTop (mkF m 12 #[.val (.ref p0), .val (.ref x0), .val (.long 0), .second, .unset] [(.ref x0), (.ref p0)]))) (fun _ kont => XS.lloadN X0.here hx rfl (hb hby d15_0) rfl (XS.lconst X0.here hx rfl (hb hby d15_1) (XS.lcmp X0.here hx rfl (hb hby d15_2) rfl (XS.ifYes X0.here hx rfl (pc0 := 3) (pc' := 10) rfl (hb hby d15_3) rfl ((if0 _ _).trans (teq (own_leq (by decide))).1) (by decide) (by decide) (XS.aloadN X0.here hx rfl (hb hby d15_10) rfl rfl (XS.aloadN X0.here hx rfl (hb hby d15_11) rfl rfl kont)))))) ?_
    obtain ⟨cq1, qp1, qp1'⟩ := E_p0.cell
    obtain ⟨v1, _, ⟨T1, L1, k1, n1⟩, -, X1, ⟨Lc1, hQ1, l1, y1, z1⟩, st1⟩ := X0.privateBack hx (y := (⟨"com/example/otaniemi/otaniemi/Pending", "indexOf", "(Lcom/example/otaniemi/otaniemi/State;)I"⟩ : MethodName)) hown (mvT hZ (oH hw 113 rfl)) (mvT hZ (oH hw 114 rfl)) (own_selP (args := #[]) (mvT hZ (oH hw 55 rfl)) (mvP hZ (oH hw 115 rfl)) (mvT hZ (oH hw 114 rfl)) (by decide)) (Cond.privateMethod_at (mvP hZ (oH hw 115 rfl) (args := #[]))) (mvT hZ (oH hw 116 rfl)) (by decide) (backOf (W := 0) (rmIx0 l Z a0 hw [] p0 fa x0 x0 kf .null h0 n0 Z0 E_p0 F_p0_found F_p0_foundCount) hZ (oH hw 116 rfl) (oH hw 56 rfl) (by decide) (by decide)) (g := (mkF m 12 #[.val (.ref p0), .val (.ref x0), .val (.long 0), .second, .unset] [(.ref x0), (.ref p0)])) rfl (by rw [hml]; rfl) (Steps.refl _) (a := p0) (by rw [e0]; exact qp1) qp1' (argsL := [(.ref x0)]) (rest := []) (lenOf pd_255 rfl) rfl (by show 2 * 0 + _ ≤ _; exact Nat.le_of_eq rfl) (hb hby d15_12) (fun _ _ => ⟨rfl, e0, (by decide : 0 + 0 ≤ _), (by decide : 0 + 0 ≤ _)⟩)
    dsimp only [Pt.U, Pt.locs, Pt.cells, Pt.slots] at X1 l1 y1 z1 st1 hQ1
    subst l1 y1 z1
    obtain ⟨rfl, eh1, rfl⟩ := hQ1
    have N1 := Fr.app N0 (Fr.nil n0)
    refine own_goT (S' := (T1.setTop (mkF m 15 #[.val (.ref p0), .val (.ref x0), .val (.long 0), .second, .unset] [(.int (-1 : Int32))]))) st1 ?_
    refine own_go (S' := (T1.setTop (mkF m 49 #[.val (.ref p0), .val (.ref x0), .val (.long 0), .second, .val (.int (-1 : Int32))] [(.ref p0)]))) (fun _ kont => XS.istore X1.here hx rfl (hb hby d15_15) rfl (l' := #[.val (.ref p0), .val (.ref x0), .val (.long 0), .second, .val (.int (-1 : Int32))]) rfl (XS.iload X1.here hx rfl (hb hby d15_17) rfl (XS.ifYes X1.here hx rfl (pc0 := 19) (pc' := 48) rfl (hb hby d15_19) rfl ((if0 _ _).trans (tlt (by decide)).1) (by decide) (by decide) (XS.aloadN X1.here hx rfl (hb hby d15_48) rfl rfl kont)))) ?_
    obtain ⟨T2, X2, e2, st2⟩ := getF X1 hx hZ hown (host := "") (Or.inl (oH hw 74 rfl)) Via.refl eh1 F_p0_foundCount (g := (mkF m 49 #[.val (.ref p0), .val (.ref x0), .val (.long 0), .second, .val (.int (-1 : Int32))] [(.ref p0)])) rfl rfl (hb hby d15_49)
    refine own_go (S' := (T2.setTop (mkF m 52 #[.val (.ref p0), .val (.ref x0), .val (.long 0), .second, .val (.int (-1 : Int32))] [(.int 0)]))) st2 ?_
    refine own_go (S' := (T2.setTop (mkF m 53 #[.val (.ref p0), .val (.ref x0), .val (.long 0), .second, .val (.int (-1 : Int32))] [(.ref p0), (.int 0)]))) (fun _ kont => XS.aloadN X2.here hx rfl (hb hby d15_52) rfl rfl kont) ?_
    obtain ⟨T3, X3, e3, st3⟩ := getF X2 hx hZ hown (host := "") (Or.inl (oH hw 63 rfl)) Via.refl e2 F_p0_found (g := (mkF m 53 #[.val (.ref p0), .val (.ref x0), .val (.long 0), .second, .val (.int (-1 : Int32))] [(.ref p0), (.int 0)])) rfl rfl (hb hby d15_53)
    refine own_go (S' := (T3.setTop (mkF m 56 #[.val (.ref p0), .val (.ref x0), .val (.long 0), .second, .val (.int (-1 : Int32))] [(.ref fa), (.int 0)]))) st3 ?_
    obtain ⟨cl4, Ar4, -, S4, M4, -, -⟩ := id V_fa
    have ql4 := len_of S4 M4
    refine own_go (S' := (T3.setTop (mkF m 57 #[.val (.ref p0), .val (.ref x0), .val (.long 0), .second, .val (.int (-1 : Int32))] [(.int 4), (.int 0)]))) (fun _ kont => X3.arraylength hx (by rw [e3]; exact Ar4.1) (State.isArrayOf_alike hZ.alike Ar4.2.1) (g := (mkF m 56 #[.val (.ref p0), .val (.ref x0), .val (.long 0), .second, .val (.int (-1 : Int32))] [(.ref fa), (.int 0)])) rfl rfl (hb hby d15_56) _ (by rw [ql4]; exact kont)) ?_
    refine own_go (S' := (T3.setTop (mkF m 71 #[.val (.ref p0), .val (.ref x0), .val (.long 0), .second, .val (.int (-1 : Int32))] [(.ref p0)]))) (fun _ kont => XS.icmpYes X3.here hx rfl (pc0 := 57) (pc' := 70) rfl (hb hby d15_57) rfl (feq (by decide)).2 (by decide) (by decide) (XS.aloadN X3.here hx rfl (hb hby d15_70) rfl rfl kont)) ?_
    obtain ⟨T5, X5, e5, st5⟩ := getF X3 hx hZ hown (host := "") (Or.inl (oH hw 74 rfl)) Via.refl e3 F_p0_foundCount (g := (mkF m 71 #[.val (.ref p0), .val (.ref x0), .val (.long 0), .second, .val (.int (-1 : Int32))] [(.ref p0)])) rfl rfl (hb hby d15_71)
    refine own_go (S' := (T5.setTop (mkF m 74 #[.val (.ref p0), .val (.ref x0), .val (.long 0), .second, .val (.int (-1 : Int32))] [(.int 0)]))) st5 ?_
    refine own_go (S' := (T5.setTop (mkF m 122 #[.val (.ref p0), .val (.ref x0), .val (.long 0), .second, .val (.int 0)] [(.long 0), (.long 0), (.ref x0), (.int 0), (.ref p0)]))) (fun _ kont => XS.istore X5.here hx rfl (hb hby d15_74) rfl (l' := #[.val (.ref p0), .val (.ref x0), .val (.long 0), .second, .val (.int 0)]) rfl (XS.iload X5.here hx rfl (hb hby d15_76) rfl (XS.ifYes X5.here hx rfl (pc0 := 78) (pc' := 116) rfl (hb hby d15_78) rfl ((if0 _ _).trans (flt (by decide)).2.2.2) (by decide) (by decide) (XS.aloadN X5.here hx rfl (hb hby d15_116) rfl rfl (XS.iload X5.here hx rfl (hb hby d15_117) rfl (XS.aloadN X5.here hx rfl (hb hby d15_119) rfl rfl (XS.lloadN X5.here hx rfl (hb hby d15_120) rfl (XS.lconst X5.here hx rfl (hb hby d15_121) kont)))))))) ?_
    obtain ⟨cq6, qp6, qp6'⟩ := E_p0.cell
    obtain ⟨v6, _, ⟨T6, L6, k6, n6⟩, -, X6, ⟨Lc6, hQ6, l6, y6, z6⟩, st6⟩ := X5.privateBack hx (y := (⟨"com/example/otaniemi/otaniemi/Pending", "put", "(ILcom/example/otaniemi/otaniemi/State;JJ)V"⟩ : MethodName)) hown (mvT hZ (oH hw 117 rfl)) (mvT hZ (oH hw 118 rfl)) (own_selP (args := #[]) (mvT hZ (oH hw 55 rfl)) (mvP hZ (oH hw 119 rfl)) (mvT hZ (oH hw 118 rfl)) (by decide)) (Cond.privateMethod_at (mvP hZ (oH hw 119 rfl) (args := #[]))) (mvT hZ (oH hw 120 rfl)) (by decide) (backOf (W := 0) (rmPu0N l Z a0 hw [] p0 fa kf (0 : Int32) .null .null x0 (0 : Int64) (0 : Int64) h0 n0 Z0 E_p0 F_p0_found F_p0_foundCount F_p0_passed F_p0_values g_p0 g_fa V_fa O_fa U_x0.2.1) hZ (oH hw 120 rfl) (oH hw 56 rfl) (by decide) (by decide)) (g := (mkF m 122 #[.val (.ref p0), .val (.ref x0), .val (.long 0), .second, .val (.int 0)] [(.long 0), (.long 0), (.ref x0), (.int 0), (.ref p0)])) rfl (by rw [hml]; rfl) (Steps.refl _) (a := p0) (by rw [e5]; exact qp6) qp6' (argsL := [(.int 0), (.ref x0), (.long 0), (.long 0)]) (rest := []) (lenOf pd_235 rfl) rfl (by show 2 * 0 + _ ≤ _; exact Nat.le_of_eq rfl) (hb hby d15_122) (fun _ _ => ⟨rfl, e5, (by decide : 0 + 0 ≤ _), (by decide : 0 + 0 ≤ _)⟩)
    dsimp only [Pt.U, Pt.locs, Pt.cells, Pt.slots] at X6 l6 y6 z6 st6 hQ6
    subst l6 y6 z6
    obtain ⟨rfl, Nq6, Kc6, Vf6⟩ := hQ6
    have Kt6 := K0.trans Kc6 (fun x hx => by simp only [List.mem_cons, List.mem_singleton, List.not_mem_nil, or_false] at hx; rcases hx with rfl <;> first | (left; simp; done) | (right; assumption))
    have N6 := Fr.app N1 Nq6
    have Z6 : n0 ≤ T6.heap.size := Nat.le_trans Z0 Kc6.1
    have c6_Ep0 := E_p0.keep Kc6
    have c6_Fp0_found := F_p0_found.keep Kc6 (ninS npf nin0)
    have c6_Fp0_foundCount := F_p0_foundCount.keep Kc6 (ninS npf nin0)
    have c6_Fp0_passed := F_p0_passed.keep Kc6 (ninS npf nin0)
    have c6_Fp0_values := F_p0_values.keep Kc6 (ninS npf nin0)
    have c6_Ux0 := U_x0.kp (own_Kp.keep Kc6 (own_gS g_fa own_g0))
    refine own_goT (S' := (T6.setTop (mkF m 125 #[.val (.ref p0), .val (.ref x0), .val (.long 0), .second, .val (.int 0)] []))) st6 ?_
    refine own_go (S' := (T6.setTop (mkF m 127 #[.val (.ref p0), .val (.ref x0), .val (.long 0), .second, .val (.int 0)] [(.ref p0), (.ref p0)]))) (fun _ kont => XS.aloadN X6.here hx rfl (hb hby d15_125) rfl rfl (XS.dup X6.here hx rfl (hb hby d15_126) rfl rfl kont)) ?_
    obtain ⟨T7, X7, e7, st7⟩ := getF X6 hx hZ hown (host := "") (Or.inl (oH hw 74 rfl)) Via.refl rfl c6_Fp0_foundCount (g := (mkF m 127 #[.val (.ref p0), .val (.ref x0), .val (.long 0), .second, .val (.int 0)] [(.ref p0), (.ref p0)])) rfl rfl (hb hby d15_127)
    refine own_go (S' := (T7.setTop (mkF m 130 #[.val (.ref p0), .val (.ref x0), .val (.long 0), .second, .val (.int 0)] [(.int 0), (.ref p0)]))) st7 ?_
    refine own_go (S' := (T7.setTop (mkF m 132 #[.val (.ref p0), .val (.ref x0), .val (.long 0), .second, .val (.int 0)] [(.int ((0 : Int32) + (1 : Int32))), (.ref p0)]))) (fun _ kont => XS.iconst X7.here hx rfl (hb hby d15_130) (XS.iadd X7.here hx rfl (hb hby d15_131) rfl kont)) ?_
    rw [show ((0 : Int32) + (1 : Int32)) = (1 : Int32) from by decide]
    obtain ⟨T8, h8, X8, e8, W8, st8⟩ := putF X7 hx hZ hown (host := "") (Or.inl (oH hw 74 rfl)) Via.refl e7 c6_Fp0_foundCount c6_Ep0 (Or.inl (oH hw 75 rfl)) (oH hw 55 rfl) (ty := .int) (by decide) rfl rfl (g := (mkF m 132 #[.val (.ref p0), .val (.ref x0), .val (.long 0), .second, .val (.int 0)] [(.int 1), (.ref p0)])) rfl rfl (hb hby d15_132)
    have c8_Ep0 := c6_Ep0.wr W8
    have c8_Fp0_found := c6_Fp0_found.other W8 (Or.inr (slot_ne (Or.inl (oH hw 64 rfl)) (Or.inl (oH hw 75 rfl)) (by decide) (by decide : parseFieldDescriptor "[Lcom/example/otaniemi/otaniemi/State;" = some (.array (.object "com/example/otaniemi/otaniemi/State"))) (by decide : parseFieldDescriptor "I" = some .int)))
    have c8_Fp0_foundCount := c6_Fp0_foundCount.same W8
    have c8_Fp0_passed := c6_Fp0_passed.other W8 (Or.inr (slot_ne (Or.inl (oH hw 125 rfl)) (Or.inl (oH hw 75 rfl)) (by decide) (by decide : parseFieldDescriptor "Lcom/example/otaniemi/otaniemi/Pending$Passed;" = some (.object "com/example/otaniemi/otaniemi/Pending$Passed")) (by decide : parseFieldDescriptor "I" = some .int)))
    have c8_Fp0_values := c6_Fp0_values.other W8 (Or.inr (slot_ne (Or.inl (oH hw 123 rfl)) (Or.inl (oH hw 75 rfl)) (by decide) (by decide : parseFieldDescriptor "[J" = some (.array .long)) (by decide : parseFieldDescriptor "I" = some .int)))
    have c8_Ux0 := c6_Ux0.kp (own_Kp.wr W8 g_p0)
    have c8_Vfa := Vf6.other W8 (Ne.symm npf)
    have K8 := Kt6.wr W8 (Or.inl (List.mem_of_getElem? (i := 0) rfl))
    have N8 := Fr.snoc X8 N6 g_p0
    have Z8 : n0 ≤ h8.size := Nat.le_trans Z6 (Nat.le_of_eq W8.size.symm)
    refine own_go (S' := (T8.setTop (mkF m 135 #[.val (.ref p0), .val (.ref x0), .val (.long 0), .second, .val (.int 0)] []))) st8 ?_
    refine own_ret0 X8 hx hlk Bd.returns (hb hby d15_135) (by decide) (by decide) ?_
    rw [e8]
    exact ⟨rfl, N8, own_Kp.keep K8 (own_gS g_p0 (own_gS g_fa own_g0)), fa, kf, _, ⟨g_p0, g_fa, c8_Ep0, c8_Fp0_found, c8_Fp0_foundCount, c8_Fp0_passed, c8_Vfa, O_fa⟩, Or.inl ⟨c8_Fp0_values, rfl⟩⟩
  · have K0 := Keep.refl h0 [p0, fa]
    refine own_go (S' := (s₁.setTop (mkF m 7 #[.val (.ref p0), .val (.ref x0), .val (.long 1), .second, .unset] [(.ref p0)]))) (fun _ kont => XS.lloadN X0.here hx rfl (hb hby d15_0) rfl (XS.lconst X0.here hx rfl (hb hby d15_1) (XS.lcmp X0.here hx rfl (hb hby d15_2) rfl (XS.ifNo X0.here hx rfl (hb hby d15_3) rfl ((if0 _ _).trans (feq (own_lne (by decide))).1) (XS.aloadN X0.here hx rfl (hb hby d15_6) rfl rfl kont))))) ?_
    obtain ⟨cq9, qp9, qp9'⟩ := E_p0.cell
    obtain ⟨v9, _, ⟨T9, L9, k9, n9⟩, -, X9, ⟨Lc9, hQ9, l9, y9, z9⟩, st9⟩ := X0.privateBack hx (y := (⟨"com/example/otaniemi/otaniemi/Pending", "keepValues", "()V"⟩ : MethodName)) hown (mvT hZ (oH hw 127 rfl)) (mvT hZ (oH hw 128 rfl)) (own_selP (args := #[]) (mvT hZ (oH hw 55 rfl)) (mvP hZ (oH hw 129 rfl)) (mvT hZ (oH hw 128 rfl)) (by decide)) (Cond.privateMethod_at (mvP hZ (oH hw 129 rfl) (args := #[]))) (mvT hZ (oH hw 130 rfl)) (by decide) (backOf (W := 0) (rmKvN l Z a0 hw [] p0 fa kf (0 : Int32) .null .null h0 n0 Z0 E_p0 F_p0_found F_p0_foundCount F_p0_passed F_p0_values g_p0 g_fa V_fa O_fa) hZ (oH hw 130 rfl) (oH hw 56 rfl) (by decide) (by decide)) (g := (mkF m 7 #[.val (.ref p0), .val (.ref x0), .val (.long 1), .second, .unset] [(.ref p0)])) rfl (by rw [hml]; rfl) (Steps.refl _) (a := p0) (by rw [e0]; exact qp9) qp9' (argsL := []) (rest := []) (lenOf pd_48 rfl) rfl (by show 2 * 0 + _ ≤ _; exact Nat.le_of_eq rfl) (hb hby d15_7) (fun _ _ => ⟨rfl, e0, (by decide : 0 + 1 ≤ _), (by decide : 0 + 4 ≤ _)⟩)
    dsimp only [Pt.U, Pt.locs, Pt.cells, Pt.slots] at X9 l9 y9 z9 st9 hQ9
    subst l9 y9 z9
    obtain ⟨va, kv, rfl, sz_va, Nq9, Kc9, Fa9, Fb9, Fc9, Fd9, Vv9⟩ := hQ9
    have Kt9 := K0.trans Kc9 (fun x hx => by simp only [List.mem_cons, List.mem_singleton, List.not_mem_nil, or_false] at hx; rcases hx with rfl <;> first | (left; simp; done) | (right; assumption))
    have N9 := Fr.app N0 Nq9
    have Z9 : n0 ≤ T9.heap.size := Nat.le_trans Z0 Kc9.1
    have c9_Ep0 := E_p0.keep Kc9
    have c9_Vfa := V_fa.keep Kc9 (ninS (Ne.symm npf) nin0)
    have c9_Ux0 := U_x0.kp (own_Kp.keep Kc9 (own_gS g_p0 own_g0))
    refine own_goT (S' := (T9.setTop (mkF m 10 #[.val (.ref p0), .val (.ref x0), .val (.long 1), .second, .unset] []))) st9 ?_
    have g_va : n0 ≤ va := Nat.le_trans Z0 sz_va
    have nfv : fa ≠ va := Nat.ne_of_lt (Nat.lt_of_lt_of_le V_fa.lt sz_va)
    have npv : p0 ≠ va := Nat.ne_of_lt (Nat.lt_of_lt_of_le E_p0.lt sz_va)
    refine own_go (S' := (T9.setTop (mkF m 12 #[.val (.ref p0), .val (.ref x0), .val (.long 1), .second, .unset] [(.ref x0), (.ref p0)]))) (fun _ kont => XS.aloadN X9.here hx rfl (hb hby d15_10) rfl rfl (XS.aloadN X9.here hx rfl (hb hby d15_11) rfl rfl kont)) ?_
    obtain ⟨cq10, qp10, qp10'⟩ := c9_Ep0.cell
    obtain ⟨v10, _, ⟨T10, L10, k10, n10⟩, -, X10, ⟨Lc10, hQ10, l10, y10, z10⟩, st10⟩ := X9.privateBack hx (y := (⟨"com/example/otaniemi/otaniemi/Pending", "indexOf", "(Lcom/example/otaniemi/otaniemi/State;)I"⟩ : MethodName)) hown (mvT hZ (oH hw 113 rfl)) (mvT hZ (oH hw 114 rfl)) (own_selP (args := #[]) (mvT hZ (oH hw 55 rfl)) (mvP hZ (oH hw 115 rfl)) (mvT hZ (oH hw 114 rfl)) (by decide)) (Cond.privateMethod_at (mvP hZ (oH hw 115 rfl) (args := #[]))) (mvT hZ (oH hw 116 rfl)) (by decide) (backOf (W := 0) (rmIx0 l Z a0 hw [] p0 fa x0 x0 kf .null T9.heap n0 Z9 c9_Ep0 Fa9 Fb9) hZ (oH hw 116 rfl) (oH hw 56 rfl) (by decide) (by decide)) (g := (mkF m 12 #[.val (.ref p0), .val (.ref x0), .val (.long 1), .second, .unset] [(.ref x0), (.ref p0)])) rfl (by rw [hml]; rfl) (Steps.refl _) (a := p0) qp10 qp10' (argsL := [(.ref x0)]) (rest := []) (lenOf pd_255 rfl) rfl (by show 2 * 0 + _ ≤ _; exact Nat.le_of_eq rfl) (hb hby d15_12) (fun _ _ => ⟨rfl, rfl, (by decide : 1 + 0 ≤ _), (by decide : 4 + 0 ≤ _)⟩)
    dsimp only [Pt.U, Pt.locs, Pt.cells, Pt.slots] at X10 l10 y10 z10 st10 hQ10
    subst l10 y10 z10
    obtain ⟨rfl, eh10, rfl⟩ := hQ10
    have N10 := Fr.app N9 (Fr.nil n0)
    refine own_goT (S' := (T10.setTop (mkF m 15 #[.val (.ref p0), .val (.ref x0), .val (.long 1), .second, .unset] [(.int (-1 : Int32))]))) st10 ?_
    refine own_go (S' := (T10.setTop (mkF m 49 #[.val (.ref p0), .val (.ref x0), .val (.long 1), .second, .val (.int (-1 : Int32))] [(.ref p0)]))) (fun _ kont => XS.istore X10.here hx rfl (hb hby d15_15) rfl (l' := #[.val (.ref p0), .val (.ref x0), .val (.long 1), .second, .val (.int (-1 : Int32))]) rfl (XS.iload X10.here hx rfl (hb hby d15_17) rfl (XS.ifYes X10.here hx rfl (pc0 := 19) (pc' := 48) rfl (hb hby d15_19) rfl ((if0 _ _).trans (tlt (by decide)).1) (by decide) (by decide) (XS.aloadN X10.here hx rfl (hb hby d15_48) rfl rfl kont)))) ?_
    obtain ⟨T11, X11, e11, st11⟩ := getF X10 hx hZ hown (host := "") (Or.inl (oH hw 74 rfl)) Via.refl eh10 Fb9 (g := (mkF m 49 #[.val (.ref p0), .val (.ref x0), .val (.long 1), .second, .val (.int (-1 : Int32))] [(.ref p0)])) rfl rfl (hb hby d15_49)
    refine own_go (S' := (T11.setTop (mkF m 52 #[.val (.ref p0), .val (.ref x0), .val (.long 1), .second, .val (.int (-1 : Int32))] [(.int 0)]))) st11 ?_
    refine own_go (S' := (T11.setTop (mkF m 53 #[.val (.ref p0), .val (.ref x0), .val (.long 1), .second, .val (.int (-1 : Int32))] [(.ref p0), (.int 0)]))) (fun _ kont => XS.aloadN X11.here hx rfl (hb hby d15_52) rfl rfl kont) ?_
    obtain ⟨T12, X12, e12, st12⟩ := getF X11 hx hZ hown (host := "") (Or.inl (oH hw 63 rfl)) Via.refl e11 Fa9 (g := (mkF m 53 #[.val (.ref p0), .val (.ref x0), .val (.long 1), .second, .val (.int (-1 : Int32))] [(.ref p0), (.int 0)])) rfl rfl (hb hby d15_53)
    refine own_go (S' := (T12.setTop (mkF m 56 #[.val (.ref p0), .val (.ref x0), .val (.long 1), .second, .val (.int (-1 : Int32))] [(.ref fa), (.int 0)]))) st12 ?_
    obtain ⟨cl13, Ar13, -, S13, M13, -, -⟩ := id c9_Vfa
    have ql13 := len_of S13 M13
    refine own_go (S' := (T12.setTop (mkF m 57 #[.val (.ref p0), .val (.ref x0), .val (.long 1), .second, .val (.int (-1 : Int32))] [(.int 4), (.int 0)]))) (fun _ kont => X12.arraylength hx (by rw [e12]; exact Ar13.1) (State.isArrayOf_alike hZ.alike Ar13.2.1) (g := (mkF m 56 #[.val (.ref p0), .val (.ref x0), .val (.long 1), .second, .val (.int (-1 : Int32))] [(.ref fa), (.int 0)])) rfl rfl (hb hby d15_56) _ (by rw [ql13]; exact kont)) ?_
    refine own_go (S' := (T12.setTop (mkF m 71 #[.val (.ref p0), .val (.ref x0), .val (.long 1), .second, .val (.int (-1 : Int32))] [(.ref p0)]))) (fun _ kont => XS.icmpYes X12.here hx rfl (pc0 := 57) (pc' := 70) rfl (hb hby d15_57) rfl (feq (by decide)).2 (by decide) (by decide) (XS.aloadN X12.here hx rfl (hb hby d15_70) rfl rfl kont)) ?_
    obtain ⟨T14, X14, e14, st14⟩ := getF X12 hx hZ hown (host := "") (Or.inl (oH hw 74 rfl)) Via.refl e12 Fb9 (g := (mkF m 71 #[.val (.ref p0), .val (.ref x0), .val (.long 1), .second, .val (.int (-1 : Int32))] [(.ref p0)])) rfl rfl (hb hby d15_71)
    refine own_go (S' := (T14.setTop (mkF m 74 #[.val (.ref p0), .val (.ref x0), .val (.long 1), .second, .val (.int (-1 : Int32))] [(.int 0)]))) st14 ?_
    refine own_go (S' := (T14.setTop (mkF m 122 #[.val (.ref p0), .val (.ref x0), .val (.long 1), .second, .val (.int 0)] [(.long 0), (.long 1), (.ref x0), (.int 0), (.ref p0)]))) (fun _ kont => XS.istore X14.here hx rfl (hb hby d15_74) rfl (l' := #[.val (.ref p0), .val (.ref x0), .val (.long 1), .second, .val (.int 0)]) rfl (XS.iload X14.here hx rfl (hb hby d15_76) rfl (XS.ifYes X14.here hx rfl (pc0 := 78) (pc' := 116) rfl (hb hby d15_78) rfl ((if0 _ _).trans (flt (by decide)).2.2.2) (by decide) (by decide) (XS.aloadN X14.here hx rfl (hb hby d15_116) rfl rfl (XS.iload X14.here hx rfl (hb hby d15_117) rfl (XS.aloadN X14.here hx rfl (hb hby d15_119) rfl rfl (XS.lloadN X14.here hx rfl (hb hby d15_120) rfl (XS.lconst X14.here hx rfl (hb hby d15_121) kont)))))))) ?_
    obtain ⟨cq15, qp15, qp15'⟩ := c9_Ep0.cell
    obtain ⟨v15, _, ⟨T15, L15, k15, n15⟩, -, X15, ⟨Lc15, hQ15, l15, y15, z15⟩, st15⟩ := X14.privateBack hx (y := (⟨"com/example/otaniemi/otaniemi/Pending", "put", "(ILcom/example/otaniemi/otaniemi/State;JJ)V"⟩ : MethodName)) hown (mvT hZ (oH hw 117 rfl)) (mvT hZ (oH hw 118 rfl)) (own_selP (args := #[]) (mvT hZ (oH hw 55 rfl)) (mvP hZ (oH hw 119 rfl)) (mvT hZ (oH hw 118 rfl)) (by decide)) (Cond.privateMethod_at (mvP hZ (oH hw 119 rfl) (args := #[]))) (mvT hZ (oH hw 120 rfl)) (by decide) (backOf (W := 0) (rmPu0A l Z a0 hw [] p0 fa kf (0 : Int32) .null .null va kv (0 : Int64) (0 : Int64) x0 (1 : Int64) (0 : Int64) T9.heap n0 Z9 c9_Ep0 Fa9 Fb9 Fc9 Fd9 g_p0 g_fa c9_Vfa O_fa g_va nfv Vv9 c9_Ux0.2.1) hZ (oH hw 120 rfl) (oH hw 56 rfl) (by decide) (by decide)) (g := (mkF m 122 #[.val (.ref p0), .val (.ref x0), .val (.long 1), .second, .val (.int 0)] [(.long 0), (.long 1), (.ref x0), (.int 0), (.ref p0)])) rfl (by rw [hml]; rfl) (Steps.refl _) (a := p0) (by rw [e14]; exact qp15) qp15' (argsL := [(.int 0), (.ref x0), (.long 1), (.long 0)]) (rest := []) (lenOf pd_235 rfl) rfl (by show 2 * 0 + _ ≤ _; exact Nat.le_of_eq rfl) (hb hby d15_122) (fun _ _ => ⟨rfl, e14, (by decide : 1 + 0 ≤ _), (by decide : 4 + 0 ≤ _)⟩)
    dsimp only [Pt.U, Pt.locs, Pt.cells, Pt.slots] at X15 l15 y15 z15 st15 hQ15
    subst l15 y15 z15
    obtain ⟨rfl, Nq15, Kc15, Vf15, Vv15⟩ := hQ15
    have Kt15 := Kt9.trans Kc15 (fun x hx => by simp only [List.mem_cons, List.mem_singleton, List.not_mem_nil, or_false] at hx; rcases hx with rfl | rfl <;> first | (left; simp; done) | (right; assumption))
    have N15 := Fr.app N10 Nq15
    have Z15 : n0 ≤ T15.heap.size := Nat.le_trans Z9 Kc15.1
    have c15_Ep0 := c9_Ep0.keep Kc15
    have c15_Ux0 := c9_Ux0.kp (own_Kp.keep Kc15 (own_gS g_fa (own_gS g_va own_g0)))
    have c15_Fp0_found := Fa9.keep Kc15 (ninS npf (ninS npv nin0))
    have c15_Fp0_foundCount := Fb9.keep Kc15 (ninS npf (ninS npv nin0))
    have c15_Fp0_passed := Fc9.keep Kc15 (ninS npf (ninS npv nin0))
    have c15_Fp0_values := Fd9.keep Kc15 (ninS npf (ninS npv nin0))
    refine own_goT (S' := (T15.setTop (mkF m 125 #[.val (.ref p0), .val (.ref x0), .val (.long 1), .second, .val (.int 0)] []))) st15 ?_
    refine own_go (S' := (T15.setTop (mkF m 127 #[.val (.ref p0), .val (.ref x0), .val (.long 1), .second, .val (.int 0)] [(.ref p0), (.ref p0)]))) (fun _ kont => XS.aloadN X15.here hx rfl (hb hby d15_125) rfl rfl (XS.dup X15.here hx rfl (hb hby d15_126) rfl rfl kont)) ?_
    obtain ⟨T16, X16, e16, st16⟩ := getF X15 hx hZ hown (host := "") (Or.inl (oH hw 74 rfl)) Via.refl rfl c15_Fp0_foundCount (g := (mkF m 127 #[.val (.ref p0), .val (.ref x0), .val (.long 1), .second, .val (.int 0)] [(.ref p0), (.ref p0)])) rfl rfl (hb hby d15_127)
    refine own_go (S' := (T16.setTop (mkF m 130 #[.val (.ref p0), .val (.ref x0), .val (.long 1), .second, .val (.int 0)] [(.int 0), (.ref p0)]))) st16 ?_
    refine own_go (S' := (T16.setTop (mkF m 132 #[.val (.ref p0), .val (.ref x0), .val (.long 1), .second, .val (.int 0)] [(.int ((0 : Int32) + (1 : Int32))), (.ref p0)]))) (fun _ kont => XS.iconst X16.here hx rfl (hb hby d15_130) (XS.iadd X16.here hx rfl (hb hby d15_131) rfl kont)) ?_
    rw [show ((0 : Int32) + (1 : Int32)) = (1 : Int32) from by decide]
    obtain ⟨T17, h17, X17, e17, W17, st17⟩ := putF X16 hx hZ hown (host := "") (Or.inl (oH hw 74 rfl)) Via.refl e16 c15_Fp0_foundCount c15_Ep0 (Or.inl (oH hw 75 rfl)) (oH hw 55 rfl) (ty := .int) (by decide) rfl rfl (g := (mkF m 132 #[.val (.ref p0), .val (.ref x0), .val (.long 1), .second, .val (.int 0)] [(.int 1), (.ref p0)])) rfl rfl (hb hby d15_132)
    have c17_Ep0 := c15_Ep0.wr W17
    have c17_Ux0 := c15_Ux0.kp (own_Kp.wr W17 g_p0)
    have c17_Fp0_found := c15_Fp0_found.other W17 (Or.inr (slot_ne (Or.inl (oH hw 64 rfl)) (Or.inl (oH hw 75 rfl)) (by decide) (by decide : parseFieldDescriptor "[Lcom/example/otaniemi/otaniemi/State;" = some (.array (.object "com/example/otaniemi/otaniemi/State"))) (by decide : parseFieldDescriptor "I" = some .int)))
    have c17_Fp0_foundCount := c15_Fp0_foundCount.same W17
    have c17_Fp0_passed := c15_Fp0_passed.other W17 (Or.inr (slot_ne (Or.inl (oH hw 125 rfl)) (Or.inl (oH hw 75 rfl)) (by decide) (by decide : parseFieldDescriptor "Lcom/example/otaniemi/otaniemi/Pending$Passed;" = some (.object "com/example/otaniemi/otaniemi/Pending$Passed")) (by decide : parseFieldDescriptor "I" = some .int)))
    have c17_Fp0_values := c15_Fp0_values.other W17 (Or.inr (slot_ne (Or.inl (oH hw 123 rfl)) (Or.inl (oH hw 75 rfl)) (by decide) (by decide : parseFieldDescriptor "[J" = some (.array .long)) (by decide : parseFieldDescriptor "I" = some .int)))
    have c17_Vfa := Vf15.other W17 (Ne.symm npf)
    have c17_Vva := Vv15.other W17 (Ne.symm npv)
    have K17 := Kt15.wr W17 (Or.inl (List.mem_of_getElem? (i := 0) rfl))
    have N17 := Fr.snoc X17 N15 g_p0
    have Z17 : n0 ≤ h17.size := Nat.le_trans Z15 (Nat.le_of_eq W17.size.symm)
    refine own_go (S' := (T17.setTop (mkF m 135 #[.val (.ref p0), .val (.ref x0), .val (.long 1), .second, .val (.int 0)] []))) st17 ?_
    refine own_ret0 X17 hx hlk Bd.returns (hb hby d15_135) (by decide) (by decide) ?_
    rw [e17]
    exact ⟨rfl, N17, own_Kp.keep K17 (own_gS g_p0 (own_gS g_fa own_g0)), fa, kf, _, ⟨g_p0, g_fa, c17_Ep0, c17_Fp0_found, c17_Fp0_foundCount, c17_Fp0_passed, c17_Vfa, O_fa⟩, Or.inr ⟨va, kv, _, _, ⟨g_va, nfv, c17_Fp0_values, c17_Vva⟩, Or.inr ⟨rfl, rfl⟩⟩⟩
theorem d15_22 : decode prog_64_method_11_code 22 = .ok (.lload_n 2, 1) := by decide +kernel
theorem d15_23 : decode prog_64_method_11_code 23 = .ok (.lconst 0, 1) := by decide +kernel
theorem d15_24 : decode prog_64_method_11_code 24 = .ok (.lcmp, 1) := by decide +kernel
theorem d15_25 : decode prog_64_method_11_code 25 = .ok (.ifCond .eq 22, 3) := by decide +kernel
theorem d15_47 : decode prog_64_method_11_code 47 = .ok (.return_, 1) := by decide +kernel
theorem d15_28 : decode prog_64_method_11_code 28 = .ok (.aload_n 0, 1) := by decide +kernel
theorem d15_29 : decode prog_64_method_11_code 29 = .ok (.getfield 19, 3) := by decide +kernel
theorem d15_32 : decode prog_64_method_11_code 32 = .ok (.iload 4, 2) := by decide +kernel
theorem d15_34 : decode prog_64_method_11_code 34 = .ok (.aload_n 1, 1) := by decide +kernel
theorem d15_35 : decode prog_64_method_11_code 35 = .ok (.aload_n 0, 1) := by decide +kernel
theorem d15_36 : decode prog_64_method_11_code 36 = .ok (.getfield 19, 3) := by decide +kernel
theorem d15_39 : decode prog_64_method_11_code 39 = .ok (.iload 4, 2) := by decide +kernel
theorem d15_41 : decode prog_64_method_11_code 41 = .ok (.laload, 1) := by decide +kernel
theorem d15_42 : decode prog_64_method_11_code 42 = .ok (.lload_n 2, 1) := by decide +kernel
theorem d15_43 : decode prog_64_method_11_code 43 = .ok (.invokestatic 101, 3) := by decide +kernel
theorem pd_300 : parseMethodDescriptor "(Lcom/example/otaniemi/otaniemi/State;JJ)J" = some ⟨[(.object "com/example/otaniemi/otaniemi/State"), .long, .long], some .long⟩ := by decide +kernel
theorem d15_46 : decode prog_64_method_11_code 46 = .ok (.lastore, 1) := by decide +kernel
theorem ef_rmJs (m : MethodId) (x0 : Addr) (x1 : Addr) (x2 : Int64) : entryFrame m #[(.ref x0), (.ref x1), (.long x2)] 5 = mkF m 0 #[.val (.ref x0), .val (.ref x1), .val (.long x2), .second, .unset] [] := by first | (simp [entryFrame, mkF, argsToLocals, Value.category]; done) | rfl
def Q_rmJs (Z : State) (p0 x0 : Addr) (cj : Int64) (nx0 cx0 dx0 : Int32) (h0 : Heap) (n0 : Nat) (v : Option Value) (h : Heap) (L : List Loc) : Prop := v = none ∧ Fr n0 L ∧ own_Kp n0 h0 h ∧ own_P1 own_okB Z h n0 p0 x0 cx0
set_option maxRecDepth 65536 in
set_option maxHeartbeats 40000000 in
theorem rmJs (l : Launch) (Z : State) (a0 : Array Value) (hw : ∀ d ∈ tables_1, d.before a0 Z = true) (ws : List Jvm.Cond) (p0 x0 : Addr) (cj : Int64) (nx0 cx0 dx0 : Int32) (h0 : Heap) (n0 : Nat) (Z0 : n0 ≤ h0.size) (P : own_P1 own_okA Z h0 n0 p0 x0 cx0) (U_x0 : own_T Z n0 h0 x0 nx0 cx0 dx0) (hc : (cj = 0 ∧ cx0 = 0) ∨ (cj = 1 ∧ cx0 = 1)) :
    MetFree l (⟨"com/example/otaniemi/otaniemi/Pending", "add", "(Lcom/example/otaniemi/otaniemi/State;J)V"⟩ : MethodName) (head1 (Jvm.Cond.code (⟨"com/example/otaniemi/otaniemi/Pending", "add", "(Lcom/example/otaniemi/otaniemi/State;J)V"⟩ : MethodName) prog_64_method_11_code 5 none :: ws) ({ frames := 2, cells := 1, slots := 4, locals := 30 } : Room)) (fun a U => a = #[(.ref p0), (.ref x0), (.long cj)] ∧ Z.Warmed39 U.vm ∧ U.heap = h0) (fun _ _ _ _ _ => True) (fun _ U o U' => ∃ v L, o = .returned v ∧ Q_rmJs Z p0 x0 cj nx0 cx0 dx0 h0 n0 v U'.heap L ∧ FrameEnd U o U' L ({ frames := 2, cells := 1, slots := 4, locals := 30 } : Room).cells ({ frames := 2, cells := 1, slots := 4, locals := 30 } : Room).slots) := by
  refine MetFree.of_bodySF (plainFor_of_name pn_151) hisR ?_
  intro p e s m args below meth c s₁ Bd hml0 hP hK
  obtain ⟨rfl, hZ, hh⟩ := hP
  have hx := Bd.exec
  have hby := Bd.bytes
  have hlk := Bd.notSynchronized
  have hml : c.maxLocals = 5 := hml0
  have hown : s.vm.findClass "com/example/otaniemi/otaniemi/Pending" = some m.cls := findClass_of_methodNamed Bd.named
  have hnm := (name_of_methodNamed Bd.named Bd.method).1
  have X0 : Stand p l e ({ frames := 2, cells := 1, slots := 4, locals := 30 } : Room) s m #[(.ref p0), (.ref x0), (.long cj)] below meth c s₁ [] 0 0 := Stand.of_body Bd
  have e0 : s₁.heap = h0 := by rw [← hh, Bd.state]; rfl
  have N0 := Fr.nil n0
  change own_Go p e below s (Q_rmJs Z p0 x0 cj nx0 cx0 dx0 h0 n0) ({ frames := 2, cells := 1, slots := 4, locals := 30 } : Room).cells ({ frames := 2, cells := 1, slots := 4, locals := 30 } : Room).slots _
  refine own_go (S' := (s₁.setTop (mkF m 0 #[.val (.ref p0), .val (.ref x0), .val (.long cj), .second, .unset] []))) (fun _ kont => castTop (ef_rmJs m p0 x0 cj) kont) ?_
  rcases hc with ⟨rfl, rfl⟩ | ⟨rfl, rfl⟩
  · obtain ⟨fa, kf, f1, HC, hm⟩ := id P
    obtain ⟨g_p0, g_fa, E_p0, F_p0_found, F_p0_foundCount, F_p0_passed, V_fa, O_fa⟩ := HC
    refine own_go (S' := (s₁.setTop (mkF m 12 #[.val (.ref p0), .val (.ref x0), .val (.long 0), .second, .unset] [(.ref x0), (.ref p0)]))) (fun _ kont => XS.lloadN X0.here hx rfl (hb hby d15_0) rfl (XS.lconst X0.here hx rfl (hb hby d15_1) (XS.lcmp X0.here hx rfl (hb hby d15_2) rfl (XS.ifYes X0.here hx rfl (pc0 := 3) (pc' := 10) rfl (hb hby d15_3) rfl ((if0 _ _).trans (teq (own_leq (by decide))).1) (by decide) (by decide) (XS.aloadN X0.here hx rfl (hb hby d15_10) rfl rfl (XS.aloadN X0.here hx rfl (hb hby d15_11) rfl rfl kont)))))) ?_
    obtain ⟨cq1, qp1, qp1'⟩ := E_p0.cell
    obtain ⟨v1, _, ⟨T1, L1, k1, n1⟩, -, X1, ⟨Lc1, hQ1, l1, y1, z1⟩, st1⟩ := X0.privateBack hx (y := (⟨"com/example/otaniemi/otaniemi/Pending", "indexOf", "(Lcom/example/otaniemi/otaniemi/State;)I"⟩ : MethodName)) hown (mvT hZ (oH hw 113 rfl)) (mvT hZ (oH hw 114 rfl)) (own_selP (args := #[]) (mvT hZ (oH hw 55 rfl)) (mvP hZ (oH hw 115 rfl)) (mvT hZ (oH hw 114 rfl)) (by decide)) (Cond.privateMethod_at (mvP hZ (oH hw 115 rfl) (args := #[]))) (mvT hZ (oH hw 116 rfl)) (by decide) (backOf (W := 0) (rmIxs l Z a0 hw [] p0 fa x0 x0 kf f1 h0 n0 Z0 E_p0 F_p0_found F_p0_foundCount V_fa) hZ (oH hw 116 rfl) (oH hw 56 rfl) (by decide) (by decide)) (g := (mkF m 12 #[.val (.ref p0), .val (.ref x0), .val (.long 0), .second, .unset] [(.ref x0), (.ref p0)])) rfl (by rw [hml]; rfl) (Steps.refl _) (a := p0) (by rw [e0]; exact qp1) qp1' (argsL := [(.ref x0)]) (rest := []) (lenOf pd_255 rfl) rfl (by show 2 * 0 + _ ≤ _; exact Nat.le_of_eq rfl) (hb hby d15_12) (fun _ _ => ⟨rfl, e0, (by decide : 0 + 0 ≤ _), (by decide : 0 + 0 ≤ _)⟩)
    dsimp only [Pt.U, Pt.locs, Pt.cells, Pt.slots] at X1 l1 y1 z1 st1 hQ1
    subst l1 y1 z1
    obtain ⟨rfl, eh1, rfl⟩ := hQ1
    have N1 := Fr.app N0 (Fr.nil n0)
    refine own_goT (S' := (T1.setTop (mkF m 15 #[.val (.ref p0), .val (.ref x0), .val (.long 0), .second, .unset] [(.int 0)]))) st1 ?_
    refine own_go (S' := (T1.setTop (mkF m 47 #[.val (.ref p0), .val (.ref x0), .val (.long 0), .second, .val (.int 0)] []))) (fun _ kont => XS.istore X1.here hx rfl (hb hby d15_15) rfl (l' := #[.val (.ref p0), .val (.ref x0), .val (.long 0), .second, .val (.int 0)]) rfl (XS.iload X1.here hx rfl (hb hby d15_17) rfl (XS.ifNo X1.here hx rfl (hb hby d15_19) rfl ((if0 _ _).trans (flt (by decide)).1) (XS.lloadN X1.here hx rfl (hb hby d15_22) rfl (XS.lconst X1.here hx rfl (hb hby d15_23) (XS.lcmp X1.here hx rfl (hb hby d15_24) rfl (XS.ifYes X1.here hx rfl (pc0 := 25) (pc' := 47) rfl (hb hby d15_25) rfl ((if0 _ _).trans (teq (own_leq (by decide))).1) (by decide) (by decide) kont))))))) ?_
    refine own_ret0 X1 hx hlk Bd.returns (hb hby d15_47) (by decide) (by decide) ?_
    rw [eh1]
    exact ⟨rfl, N1, own_Kp.refl _ _, P.imp⟩
  · obtain ⟨fa, kf, f1, HC, hm⟩ := P
    rcases hm with ⟨-, q⟩ | ⟨va, kv, v0, v1, HV, q⟩
    · exact absurd q (by decide)
    · rcases q with ⟨-, q⟩ | ⟨rfl, -⟩
      · exact absurd q (by decide)
      · obtain ⟨g_p0, g_fa, E_p0, F_p0_found, F_p0_foundCount, F_p0_passed, V_fa, O_fa⟩ := HC
        obtain ⟨g_va, nfv, F_p0_values, V_va⟩ := HV
        have npf := E_p0.neArv V_fa (oH hw 55 rfl)
        have npv := E_p0.neArv V_va (oH hw 55 rfl)
        have K0 := Keep.refl h0 [p0, fa, va]
        refine own_go (S' := (s₁.setTop (mkF m 7 #[.val (.ref p0), .val (.ref x0), .val (.long 1), .second, .unset] [(.ref p0)]))) (fun _ kont => XS.lloadN X0.here hx rfl (hb hby d15_0) rfl (XS.lconst X0.here hx rfl (hb hby d15_1) (XS.lcmp X0.here hx rfl (hb hby d15_2) rfl (XS.ifNo X0.here hx rfl (hb hby d15_3) rfl ((if0 _ _).trans (feq (own_lne (by decide))).1) (XS.aloadN X0.here hx rfl (hb hby d15_6) rfl rfl kont))))) ?_
        obtain ⟨cq2, qp2, qp2'⟩ := E_p0.cell
        obtain ⟨v2, _, ⟨T2, L2, k2, n2⟩, -, X2, ⟨Lc2, hQ2, l2, y2, z2⟩, st2⟩ := X0.privateBack hx (y := (⟨"com/example/otaniemi/otaniemi/Pending", "keepValues", "()V"⟩ : MethodName)) hown (mvT hZ (oH hw 127 rfl)) (mvT hZ (oH hw 128 rfl)) (own_selP (args := #[]) (mvT hZ (oH hw 55 rfl)) (mvP hZ (oH hw 129 rfl)) (mvT hZ (oH hw 128 rfl)) (by decide)) (Cond.privateMethod_at (mvP hZ (oH hw 129 rfl) (args := #[]))) (mvT hZ (oH hw 130 rfl)) (by decide) (backOf (W := 0) (rmKvA l Z a0 hw [] p0 va h0 n0 Z0 E_p0 F_p0_values) hZ (oH hw 130 rfl) (oH hw 56 rfl) (by decide) (by decide)) (g := (mkF m 7 #[.val (.ref p0), .val (.ref x0), .val (.long 1), .second, .unset] [(.ref p0)])) rfl (by rw [hml]; rfl) (Steps.refl _) (a := p0) (by rw [e0]; exact qp2) qp2' (argsL := []) (rest := []) (lenOf pd_48 rfl) rfl (by show 2 * 0 + _ ≤ _; exact Nat.le_of_eq rfl) (hb hby d15_7) (fun _ _ => ⟨rfl, e0, (by decide : 0 + 1 ≤ _), (by decide : 0 + 4 ≤ _)⟩)
        dsimp only [Pt.U, Pt.locs, Pt.cells, Pt.slots] at X2 l2 y2 z2 st2 hQ2
        subst l2 y2 z2
        obtain ⟨rfl, eh2, rfl⟩ := hQ2
        have N2 := Fr.app N0 (Fr.nil n0)
        refine own_goT (S' := (T2.setTop (mkF m 10 #[.val (.ref p0), .val (.ref x0), .val (.long 1), .second, .unset] []))) st2 ?_
        refine own_go (S' := (T2.setTop (mkF m 12 #[.val (.ref p0), .val (.ref x0), .val (.long 1), .second, .unset] [(.ref x0), (.ref p0)]))) (fun _ kont => XS.aloadN X2.here hx rfl (hb hby d15_10) rfl rfl (XS.aloadN X2.here hx rfl (hb hby d15_11) rfl rfl kont)) ?_
        obtain ⟨cq3, qp3, qp3'⟩ := E_p0.cell
        obtain ⟨v3, _, ⟨T3, L3, k3, n3⟩, -, X3, ⟨Lc3, hQ3, l3, y3, z3⟩, st3⟩ := X2.privateBack hx (y := (⟨"com/example/otaniemi/otaniemi/Pending", "indexOf", "(Lcom/example/otaniemi/otaniemi/State;)I"⟩ : MethodName)) hown (mvT hZ (oH hw 113 rfl)) (mvT hZ (oH hw 114 rfl)) (own_selP (args := #[]) (mvT hZ (oH hw 55 rfl)) (mvP hZ (oH hw 115 rfl)) (mvT hZ (oH hw 114 rfl)) (by decide)) (Cond.privateMethod_at (mvP hZ (oH hw 115 rfl) (args := #[]))) (mvT hZ (oH hw 116 rfl)) (by decide) (backOf (W := 0) (rmIxs l Z a0 hw [] p0 fa x0 x0 kf f1 h0 n0 Z0 E_p0 F_p0_found F_p0_foundCount V_fa) hZ (oH hw 116 rfl) (oH hw 56 rfl) (by decide) (by decide)) (g := (mkF m 12 #[.val (.ref p0), .val (.ref x0), .val (.long 1), .second, .unset] [(.ref x0), (.ref p0)])) rfl (by rw [hml]; rfl) (Steps.refl _) (a := p0) (by rw [eh2]; exact qp3) qp3' (argsL := [(.ref x0)]) (rest := []) (lenOf pd_255 rfl) rfl (by show 2 * 0 + _ ≤ _; exact Nat.le_of_eq rfl) (hb hby d15_12) (fun _ _ => ⟨rfl, eh2, (by decide : 1 + 0 ≤ _), (by decide : 4 + 0 ≤ _)⟩)
        dsimp only [Pt.U, Pt.locs, Pt.cells, Pt.slots] at X3 l3 y3 z3 st3 hQ3
        subst l3 y3 z3
        obtain ⟨rfl, eh3, rfl⟩ := hQ3
        have N3 := Fr.app N2 (Fr.nil n0)
        refine own_goT (S' := (T3.setTop (mkF m 15 #[.val (.ref p0), .val (.ref x0), .val (.long 1), .second, .unset] [(.int 0)]))) st3 ?_
        refine own_go (S' := (T3.setTop (mkF m 29 #[.val (.ref p0), .val (.ref x0), .val (.long 1), .second, .val (.int 0)] [(.ref p0)]))) (fun _ kont => XS.istore X3.here hx rfl (hb hby d15_15) rfl (l' := #[.val (.ref p0), .val (.ref x0), .val (.long 1), .second, .val (.int 0)]) rfl (XS.iload X3.here hx rfl (hb hby d15_17) rfl (XS.ifNo X3.here hx rfl (hb hby d15_19) rfl ((if0 _ _).trans (flt (by decide)).1) (XS.lloadN X3.here hx rfl (hb hby d15_22) rfl (XS.lconst X3.here hx rfl (hb hby d15_23) (XS.lcmp X3.here hx rfl (hb hby d15_24) rfl (XS.ifNo X3.here hx rfl (hb hby d15_25) rfl ((if0 _ _).trans (feq (own_lne (by decide))).1) (XS.aloadN X3.here hx rfl (hb hby d15_28) rfl rfl kont)))))))) ?_
        obtain ⟨T4, X4, e4, st4⟩ := getF X3 hx hZ hown (host := "") (Or.inl (oH hw 122 rfl)) Via.refl eh3 F_p0_values (g := (mkF m 29 #[.val (.ref p0), .val (.ref x0), .val (.long 1), .second, .val (.int 0)] [(.ref p0)])) rfl rfl (hb hby d15_29)
        refine own_go (S' := (T4.setTop (mkF m 32 #[.val (.ref p0), .val (.ref x0), .val (.long 1), .second, .val (.int 0)] [(.ref va)]))) st4 ?_
        refine own_go (S' := (T4.setTop (mkF m 36 #[.val (.ref p0), .val (.ref x0), .val (.long 1), .second, .val (.int 0)] [(.ref p0), (.ref x0), (.int 0), (.ref va)]))) (fun _ kont => XS.iload X4.here hx rfl (hb hby d15_32) rfl (XS.aloadN X4.here hx rfl (hb hby d15_34) rfl rfl (XS.aloadN X4.here hx rfl (hb hby d15_35) rfl rfl kont))) ?_
        obtain ⟨T5, X5, e5, st5⟩ := getF X4 hx hZ hown (host := "") (Or.inl (oH hw 122 rfl)) Via.refl e4 F_p0_values (g := (mkF m 36 #[.val (.ref p0), .val (.ref x0), .val (.long 1), .second, .val (.int 0)] [(.ref p0), (.ref x0), (.int 0), (.ref va)])) rfl rfl (hb hby d15_36)
        refine own_go (S' := (T5.setTop (mkF m 39 #[.val (.ref p0), .val (.ref x0), .val (.long 1), .second, .val (.int 0)] [(.ref va), (.ref x0), (.int 0), (.ref va)]))) st5 ?_
        refine own_go (S' := (T5.setTop (mkF m 41 #[.val (.ref p0), .val (.ref x0), .val (.long 1), .second, .val (.int 0)] [(.int 0), (.ref va), (.ref x0), (.int 0), (.ref va)]))) (fun _ kont => XS.iload X5.here hx rfl (hb hby d15_39) rfl kont) ?_
        obtain ⟨cl6, Ar6, -, S6, -, H6, -⟩ := id V_va
        have hin6 := inb_of (j := (0 : Int32)) S6 ⟨by decide, by decide⟩
        have hat6 := Has.at (v := (.long 1)) H6 hin6 (by first | rfl | decide)
        refine own_go (S' := (T5.setTop (mkF m 42 #[.val (.ref p0), .val (.ref x0), .val (.long 1), .second, .val (.int 0)] [(.long 1), (.ref x0), (.int 0), (.ref va)]))) (fun _ kont => X5.laload hx (j := (0 : Int32)) (v := (.long 1)) (by rw [e5]; exact Ar6.1) (State.isArrayOf_alike hZ.alike Ar6.2.1) Ar6.2.2 hin6 hat6 (g := (mkF m 41 #[.val (.ref p0), .val (.ref x0), .val (.long 1), .second, .val (.int 0)] [(.int 0), (.ref va), (.ref x0), (.int 0), (.ref va)])) rfl rfl (hb hby d15_41) _ kont) ?_
        refine own_go (S' := (T5.setTop (mkF m 43 #[.val (.ref p0), .val (.ref x0), .val (.long 1), .second, .val (.int 0)] [(.long 1), (.long 1), (.ref x0), (.int 0), (.ref va)]))) (fun _ kont => XS.lloadN X5.here hx rfl (hb hby d15_42) rfl kont) ?_
        obtain ⟨v7, _, ⟨T7, L7, k7, n7⟩, -, X7, ⟨Lc7, hQ7, l7, y7, z7⟩, st7⟩ := Jvm.LawKit.callS X5 hx (y := (⟨"com/example/otaniemi/otaniemi/Pending", "merged", "(Lcom/example/otaniemi/otaniemi/State;JJ)J"⟩ : MethodName)) hown (mvT hZ (oH hw 132 rfl)) (mvT hZ (oH hw 133 rfl)) (mvT hZ (oH hw 56 rfl)) (mvT hZ (oH hw 134 rfl)) (by decide) (backOf (W := 2) (rmMg l Z a0 hw [] x0 nx0 dx0 (1 : Int64) (1 : Int64) h0 n0 Z0 U_x0) hZ (oH hw 134 rfl) (oH hw 56 rfl) (by decide) (by decide)) (g := (mkF m 43 #[.val (.ref p0), .val (.ref x0), .val (.long 1), .second, .val (.int 0)] [(.long 1), (.long 1), (.ref x0), (.int 0), (.ref va)])) rfl (by rw [hml]; rfl) (argsL := [(.ref x0), (.long 1), (.long 1)]) (rest := [(.int 0), (.ref va)]) (lenOf pd_300 rfl) rfl (by show 2 * 0 + _ ≤ _; exact Nat.le_of_eq rfl) (hb hby d15_43) (fun _ _ => ⟨rfl, e5, (by decide : 1 + 0 ≤ _), (by decide : 4 + 0 ≤ _)⟩)
        dsimp only [Pt.U, Pt.locs, Pt.cells, Pt.slots] at X7 l7 y7 z7 st7 hQ7
        subst l7 y7 z7
        obtain ⟨rfl, eh7, rfl⟩ := hQ7
        have N7 := Fr.app N3 (Fr.nil n0)
        refine own_go (S' := (T7.setTop (mkF m 46 #[.val (.ref p0), .val (.ref x0), .val (.long 1), .second, .val (.int 0)] [(.long ((1 : Int64) + (1 : Int64))), (.int 0), (.ref va)]))) st7 ?_
        obtain ⟨cl8, Ar8, qc8, S8, M8, Ha8, Ga8⟩ := id V_va
        obtain ⟨T8, h8, X8, e8, W8, st8⟩ := stJ X7 hx hZ eh7 Ar8 (j := (0 : Int32)) (inb_of S8 ⟨by decide, by decide⟩) (g := (mkF m 46 #[.val (.ref p0), .val (.ref x0), .val (.long 1), .second, .val (.int 0)] [(.long ((1 : Int64) + (1 : Int64))), (.int 0), (.ref va)])) rfl rfl (hb hby d15_46)
        have c8_Ep0 := E_p0.wr W8
        have c8_Fp0_found := F_p0_found.other W8 (Or.inl npv)
        have c8_Fp0_foundCount := F_p0_foundCount.other W8 (Or.inl npv)
        have c8_Fp0_passed := F_p0_passed.other W8 (Or.inl npv)
        have c8_Fp0_values := F_p0_values.other W8 (Or.inl npv)
        have c8_Vfa := V_fa.other W8 nfv
        have c8_Ux0 := U_x0.kp (own_Kp.wr W8 g_va)
        have V8 : Arv Z h8 va kv .long (4 : Int32) [(.long ((1 : Int64) + (1 : Int64))), (.long v1)] (.long 0) := Arv.set Ar8 qc8 S8 M8 Ha8 Ga8 rfl W8 0 (by decide) (Nat.le_of_ble_eq_true rfl)
        have K8 := K0.wr W8 (Or.inl (List.mem_of_getElem? (i := 2) rfl))
        have N8 := Fr.snoc X8 N7 g_va
        have Z8 : n0 ≤ h8.size := Nat.le_trans Z0 (Nat.le_of_eq W8.size.symm)
        refine own_go (S' := (T8.setTop (mkF m 47 #[.val (.ref p0), .val (.ref x0), .val (.long 1), .second, .val (.int 0)] []))) st8 ?_
        refine own_ret0 X8 hx hlk Bd.returns (hb hby d15_47) (by decide) (by decide) ?_
        rw [e8]
        exact ⟨rfl, N8, own_Kp.keep K8 (own_gS g_p0 (own_gS g_fa (own_gS g_va own_g0))), fa, kf, _, ⟨g_p0, g_fa, c8_Ep0, c8_Fp0_found, c8_Fp0_foundCount, c8_Fp0_passed, c8_Vfa, O_fa⟩, Or.inr ⟨va, kv, _, _, ⟨g_va, nfv, c8_Fp0_values, V8⟩, Or.inr ⟨Or.inr (by decide), rfl⟩⟩⟩
theorem d15_81 : decode prog_64_method_11_code 81 = .ok (.aload_n 0, 1) := by decide +kernel
theorem d15_82 : decode prog_64_method_11_code 82 = .ok (.getfield 9, 3) := by decide +kernel
theorem d15_85 : decode prog_64_method_11_code 85 = .ok (.iload 4, 2) := by decide +kernel
theorem d15_87 : decode prog_64_method_11_code 87 = .ok (.iconst 1, 1) := by decide +kernel
theorem d15_88 : decode prog_64_method_11_code 88 = .ok (.isub, 1) := by decide +kernel
theorem d15_89 : decode prog_64_method_11_code 89 = .ok (.aaload, 1) := by decide +kernel
theorem d15_90 : decode prog_64_method_11_code 90 = .ok (.getfield 109, 3) := by decide +kernel
theorem d15_93 : decode prog_64_method_11_code 93 = .ok (.aload_n 1, 1) := by decide +kernel
theorem d15_94 : decode prog_64_method_11_code 94 = .ok (.getfield 109, 3) := by decide +kernel
theorem d15_97 : decode prog_64_method_11_code 97 = .ok (.if_icmp .le 19, 3) := by decide +kernel
theorem d15_100 : decode prog_64_method_11_code 100 = .ok (.aload_n 0, 1) := by decide +kernel
theorem d15_101 : decode prog_64_method_11_code 101 = .ok (.iload 4, 2) := by decide +kernel
theorem d15_103 : decode prog_64_method_11_code 103 = .ok (.iconst 1, 1) := by decide +kernel
theorem d15_104 : decode prog_64_method_11_code 104 = .ok (.isub, 1) := by decide +kernel
theorem d15_105 : decode prog_64_method_11_code 105 = .ok (.iload 4, 2) := by decide +kernel
theorem d15_107 : decode prog_64_method_11_code 107 = .ok (.invokevirtual 111, 3) := by decide +kernel
theorem pd_318 : parseMethodDescriptor "(II)V" = some ⟨[.int, .int], none⟩ := by decide +kernel
theorem d15_110 : decode prog_64_method_11_code 110 = .ok (.iinc 4 (-1), 3) := by decide +kernel
theorem d15_113 : decode prog_64_method_11_code 113 = .ok (.goto (-37), 3) := by decide +kernel
theorem ef_rmJd (m : MethodId) (x0 : Addr) (x1 : Addr) (x2 : Int64) : entryFrame m #[(.ref x0), (.ref x1), (.long x2)] 5 = mkF m 0 #[.val (.ref x0), .val (.ref x1), .val (.long x2), .second, .unset] [] := by first | (simp [entryFrame, mkF, argsToLocals, Value.category]; done) | rfl
def Q_rmJd (Z : State) (p0 x0 : Addr) (cj : Int64) (nx0 cx0 dx0 : Int32) (y0 : Addr) (ny0 cy0 dy0 : Int32) (h0 : Heap) (n0 : Nat) (v : Option Value) (h : Heap) (L : List Loc) : Prop := v = none ∧ Fr n0 L ∧ own_Kp n0 h0 h ∧ (own_P2 Z h n0 p0 x0 cx0 y0 cy0 ∨ own_P2 Z h n0 p0 y0 cy0 x0 cx0)
set_option maxRecDepth 65536 in
set_option maxHeartbeats 40000000 in
theorem rmJd (l : Launch) (Z : State) (a0 : Array Value) (hw : ∀ d ∈ tables_1, d.before a0 Z = true) (ws : List Jvm.Cond) (p0 x0 : Addr) (cj : Int64) (nx0 cx0 dx0 : Int32) (y0 : Addr) (ny0 cy0 dy0 : Int32) (h0 : Heap) (n0 : Nat) (Z0 : n0 ≤ h0.size) (P : own_P1 own_okA Z h0 n0 p0 y0 cy0) (U_x0 : own_T Z n0 h0 x0 nx0 cx0 dx0) (U_y0 : own_T Z n0 h0 y0 ny0 cy0 dy0) (hc : (cj = 0 ∧ cx0 = 0) ∨ (cj = 1 ∧ cx0 = 1)) (hne : y0 ≠ x0) :
    MetFree l (⟨"com/example/otaniemi/otaniemi/Pending", "add", "(Lcom/example/otaniemi/otaniemi/State;J)V"⟩ : MethodName) (head1 (Jvm.Cond.code (⟨"com/example/otaniemi/otaniemi/Pending", "add", "(Lcom/example/otaniemi/otaniemi/State;J)V"⟩ : MethodName) prog_64_method_11_code 5 none :: ws) ({ frames := 2, cells := 1, slots := 4, locals := 32 } : Room)) (fun a U => a = #[(.ref p0), (.ref x0), (.long cj)] ∧ Z.Warmed39 U.vm ∧ U.heap = h0) (fun _ _ _ _ _ => True) (fun _ U o U' => ∃ v L, o = .returned v ∧ Q_rmJd Z p0 x0 cj nx0 cx0 dx0 y0 ny0 cy0 dy0 h0 n0 v U'.heap L ∧ FrameEnd U o U' L ({ frames := 2, cells := 1, slots := 4, locals := 32 } : Room).cells ({ frames := 2, cells := 1, slots := 4, locals := 32 } : Room).slots) := by
  refine MetFree.of_bodySF (plainFor_of_name pn_151) hisR ?_
  intro p e s m args below meth c s₁ Bd hml0 hP hK
  obtain ⟨rfl, hZ, hh⟩ := hP
  have hx := Bd.exec
  have hby := Bd.bytes
  have hlk := Bd.notSynchronized
  have hml : c.maxLocals = 5 := hml0
  have hown : s.vm.findClass "com/example/otaniemi/otaniemi/Pending" = some m.cls := findClass_of_methodNamed Bd.named
  have hnm := (name_of_methodNamed Bd.named Bd.method).1
  have X0 : Stand p l e ({ frames := 2, cells := 1, slots := 4, locals := 32 } : Room) s m #[(.ref p0), (.ref x0), (.long cj)] below meth c s₁ [] 0 0 := Stand.of_body Bd
  have e0 : s₁.heap = h0 := by rw [← hh, Bd.state]; rfl
  have N0 := Fr.nil n0
  change own_Go p e below s (Q_rmJd Z p0 x0 cj nx0 cx0 dx0 y0 ny0 cy0 dy0 h0 n0) ({ frames := 2, cells := 1, slots := 4, locals := 32 } : Room).cells ({ frames := 2, cells := 1, slots := 4, locals := 32 } : Room).slots _
  refine own_go (S' := (s₁.setTop (mkF m 0 #[.val (.ref p0), .val (.ref x0), .val (.long cj), .second, .unset] []))) (fun _ kont => castTop (ef_rmJd m p0 x0 cj) kont) ?_
  obtain ⟨fa, kf, f1, HC, hm⟩ := P
  rcases hc with ⟨rfl, rfl⟩ | ⟨rfl, rfl⟩
  · rcases hm with ⟨HN, rfl⟩ | ⟨va, kv, v0, v1, HV, q⟩
    · obtain ⟨g_p0, g_fa, E_p0, F_p0_found, F_p0_foundCount, F_p0_passed, V_fa, O_fa⟩ := HC
      have F_p0_values := HN
      unfold own_Vn at F_p0_values
      have npf := E_p0.neArv V_fa (oH hw 55 rfl)
      have K0 := Keep.refl h0 [p0, fa]
      refine own_go (S' := (s₁.setTop (mkF m 12 #[.val (.ref p0), .val (.ref x0), .val (.long 0), .second, .unset] [(.ref x0), (.ref p0)]))) (fun _ kont => XS.lloadN X0.here hx rfl (hb hby d15_0) rfl (XS.lconst X0.here hx rfl (hb hby d15_1) (XS.lcmp X0.here hx rfl (hb hby d15_2) rfl (XS.ifYes X0.here hx rfl (pc0 := 3) (pc' := 10) rfl (hb hby d15_3) rfl ((if0 _ _).trans (teq (own_leq (by decide))).1) (by decide) (by decide) (XS.aloadN X0.here hx rfl (hb hby d15_10) rfl rfl (XS.aloadN X0.here hx rfl (hb hby d15_11) rfl rfl kont)))))) ?_
      obtain ⟨cq1, qp1, qp1'⟩ := E_p0.cell
      obtain ⟨v1, _, ⟨T1, L1, k1, n1⟩, -, X1, ⟨Lc1, hQ1, l1, y1, z1⟩, st1⟩ := X0.privateBack hx (y := (⟨"com/example/otaniemi/otaniemi/Pending", "indexOf", "(Lcom/example/otaniemi/otaniemi/State;)I"⟩ : MethodName)) hown (mvT hZ (oH hw 113 rfl)) (mvT hZ (oH hw 114 rfl)) (own_selP (args := #[]) (mvT hZ (oH hw 55 rfl)) (mvP hZ (oH hw 115 rfl)) (mvT hZ (oH hw 114 rfl)) (by decide)) (Cond.privateMethod_at (mvP hZ (oH hw 115 rfl) (args := #[]))) (mvT hZ (oH hw 116 rfl)) (by decide) (backOf (W := 0) (rmIxd l Z a0 hw [] p0 fa x0 y0 kf f1 h0 n0 Z0 E_p0 F_p0_found F_p0_foundCount V_fa hne) hZ (oH hw 116 rfl) (oH hw 56 rfl) (by decide) (by decide)) (g := (mkF m 12 #[.val (.ref p0), .val (.ref x0), .val (.long 0), .second, .unset] [(.ref x0), (.ref p0)])) rfl (by rw [hml]; rfl) (Steps.refl _) (a := p0) (by rw [e0]; exact qp1) qp1' (argsL := [(.ref x0)]) (rest := []) (lenOf pd_255 rfl) rfl (by show 2 * 0 + _ ≤ _; exact Nat.le_of_eq rfl) (hb hby d15_12) (fun _ _ => ⟨rfl, e0, (by decide : 0 + 0 ≤ _), (by decide : 0 + 0 ≤ _)⟩)
      dsimp only [Pt.U, Pt.locs, Pt.cells, Pt.slots] at X1 l1 y1 z1 st1 hQ1
      subst l1 y1 z1
      obtain ⟨rfl, eh1, rfl⟩ := hQ1
      have N1 := Fr.app N0 (Fr.nil n0)
      refine own_goT (S' := (T1.setTop (mkF m 15 #[.val (.ref p0), .val (.ref x0), .val (.long 0), .second, .unset] [(.int (-1 : Int32))]))) st1 ?_
      refine own_go (S' := (T1.setTop (mkF m 49 #[.val (.ref p0), .val (.ref x0), .val (.long 0), .second, .val (.int (-1 : Int32))] [(.ref p0)]))) (fun _ kont => XS.istore X1.here hx rfl (hb hby d15_15) rfl (l' := #[.val (.ref p0), .val (.ref x0), .val (.long 0), .second, .val (.int (-1 : Int32))]) rfl (XS.iload X1.here hx rfl (hb hby d15_17) rfl (XS.ifYes X1.here hx rfl (pc0 := 19) (pc' := 48) rfl (hb hby d15_19) rfl ((if0 _ _).trans (tlt (by decide)).1) (by decide) (by decide) (XS.aloadN X1.here hx rfl (hb hby d15_48) rfl rfl kont)))) ?_
      obtain ⟨T2, X2, e2, st2⟩ := getF X1 hx hZ hown (host := "") (Or.inl (oH hw 74 rfl)) Via.refl eh1 F_p0_foundCount (g := (mkF m 49 #[.val (.ref p0), .val (.ref x0), .val (.long 0), .second, .val (.int (-1 : Int32))] [(.ref p0)])) rfl rfl (hb hby d15_49)
      refine own_go (S' := (T2.setTop (mkF m 52 #[.val (.ref p0), .val (.ref x0), .val (.long 0), .second, .val (.int (-1 : Int32))] [(.int 1)]))) st2 ?_
      refine own_go (S' := (T2.setTop (mkF m 53 #[.val (.ref p0), .val (.ref x0), .val (.long 0), .second, .val (.int (-1 : Int32))] [(.ref p0), (.int 1)]))) (fun _ kont => XS.aloadN X2.here hx rfl (hb hby d15_52) rfl rfl kont) ?_
      obtain ⟨T3, X3, e3, st3⟩ := getF X2 hx hZ hown (host := "") (Or.inl (oH hw 63 rfl)) Via.refl e2 F_p0_found (g := (mkF m 53 #[.val (.ref p0), .val (.ref x0), .val (.long 0), .second, .val (.int (-1 : Int32))] [(.ref p0), (.int 1)])) rfl rfl (hb hby d15_53)
      refine own_go (S' := (T3.setTop (mkF m 56 #[.val (.ref p0), .val (.ref x0), .val (.long 0), .second, .val (.int (-1 : Int32))] [(.ref fa), (.int 1)]))) st3 ?_
      obtain ⟨cl4, Ar4, -, S4, M4, -, -⟩ := id V_fa
      have ql4 := len_of S4 M4
      refine own_go (S' := (T3.setTop (mkF m 57 #[.val (.ref p0), .val (.ref x0), .val (.long 0), .second, .val (.int (-1 : Int32))] [(.int 4), (.int 1)]))) (fun _ kont => X3.arraylength hx (by rw [e3]; exact Ar4.1) (State.isArrayOf_alike hZ.alike Ar4.2.1) (g := (mkF m 56 #[.val (.ref p0), .val (.ref x0), .val (.long 0), .second, .val (.int (-1 : Int32))] [(.ref fa), (.int 1)])) rfl rfl (hb hby d15_56) _ (by rw [ql4]; exact kont)) ?_
      refine own_go (S' := (T3.setTop (mkF m 71 #[.val (.ref p0), .val (.ref x0), .val (.long 0), .second, .val (.int (-1 : Int32))] [(.ref p0)]))) (fun _ kont => XS.icmpYes X3.here hx rfl (pc0 := 57) (pc' := 70) rfl (hb hby d15_57) rfl (feq (by decide)).2 (by decide) (by decide) (XS.aloadN X3.here hx rfl (hb hby d15_70) rfl rfl kont)) ?_
      obtain ⟨T5, X5, e5, st5⟩ := getF X3 hx hZ hown (host := "") (Or.inl (oH hw 74 rfl)) Via.refl e3 F_p0_foundCount (g := (mkF m 71 #[.val (.ref p0), .val (.ref x0), .val (.long 0), .second, .val (.int (-1 : Int32))] [(.ref p0)])) rfl rfl (hb hby d15_71)
      refine own_go (S' := (T5.setTop (mkF m 74 #[.val (.ref p0), .val (.ref x0), .val (.long 0), .second, .val (.int (-1 : Int32))] [(.int 1)]))) st5 ?_
      refine own_go (S' := (T5.setTop (mkF m 82 #[.val (.ref p0), .val (.ref x0), .val (.long 0), .second, .val (.int 1)] [(.ref p0)]))) (fun _ kont => XS.istore X5.here hx rfl (hb hby d15_74) rfl (l' := #[.val (.ref p0), .val (.ref x0), .val (.long 0), .second, .val (.int 1)]) rfl (XS.iload X5.here hx rfl (hb hby d15_76) rfl (XS.ifNo X5.here hx rfl (hb hby d15_78) rfl ((if0 _ _).trans (tlt (by decide)).2.2.2) (XS.aloadN X5.here hx rfl (hb hby d15_81) rfl rfl kont)))) ?_
      obtain ⟨T6, X6, e6, st6⟩ := getF X5 hx hZ hown (host := "") (Or.inl (oH hw 63 rfl)) Via.refl e5 F_p0_found (g := (mkF m 82 #[.val (.ref p0), .val (.ref x0), .val (.long 0), .second, .val (.int 1)] [(.ref p0)])) rfl rfl (hb hby d15_82)
      refine own_go (S' := (T6.setTop (mkF m 85 #[.val (.ref p0), .val (.ref x0), .val (.long 0), .second, .val (.int 1)] [(.ref fa)]))) st6 ?_
      refine own_go (S' := (T6.setTop (mkF m 89 #[.val (.ref p0), .val (.ref x0), .val (.long 0), .second, .val (.int 1)] [(.int ((1 : Int32) - (1 : Int32))), (.ref fa)]))) (fun _ kont => XS.iload X6.here hx rfl (hb hby d15_85) rfl (XS.iconst X6.here hx rfl (hb hby d15_87) (XS.isub X6.here hx rfl (hb hby d15_88) rfl kont))) ?_
      rw [show ((1 : Int32) - (1 : Int32)) = (0 : Int32) from by decide]
      obtain ⟨cl7, Ar7, -, S7, -, H7, -⟩ := id V_fa
      have hin7 := inb_of (j := (0 : Int32)) S7 ⟨by decide, by decide⟩
      have hat7 := Has.at (v := (.ref y0)) H7 hin7 (by first | rfl | decide)
      refine own_go (S' := (T6.setTop (mkF m 90 #[.val (.ref p0), .val (.ref x0), .val (.long 0), .second, .val (.int 1)] [(.ref y0)]))) (fun _ kont => X6.aaload hx (j := (0 : Int32)) (v := (.ref y0)) (by rw [e6]; exact Ar7.1) (State.isArrayOf_alike hZ.alike Ar7.2.1) rfl Ar7.2.2 hin7 hat7 (g := (mkF m 89 #[.val (.ref p0), .val (.ref x0), .val (.long 0), .second, .val (.int 1)] [(.int 0), (.ref fa)])) rfl rfl (hb hby d15_89) _ kont) ?_
      obtain ⟨lx8, Ex8, Fn8, Fd8, Fi8, pp8, lp8, Fp8, Ep8, Fc8⟩ := id U_y0
      obtain ⟨T9, X9, e9, st9⟩ := getF X6 hx hZ hown (host := "") (Or.inl (oH hw 126 rfl)) Via.refl e6 Fn8 (g := (mkF m 90 #[.val (.ref p0), .val (.ref x0), .val (.long 0), .second, .val (.int 1)] [(.ref y0)])) rfl rfl (hb hby d15_90)
      refine own_go (S' := (T9.setTop (mkF m 93 #[.val (.ref p0), .val (.ref x0), .val (.long 0), .second, .val (.int 1)] [(.int ny0)]))) st9 ?_
      refine own_go (S' := (T9.setTop (mkF m 94 #[.val (.ref p0), .val (.ref x0), .val (.long 0), .second, .val (.int 1)] [(.ref x0), (.int ny0)]))) (fun _ kont => XS.aloadN X9.here hx rfl (hb hby d15_93) rfl rfl kont) ?_
      obtain ⟨lx10, Ex10, Fn10, Fd10, Fi10, pp10, lp10, Fp10, Ep10, Fc10⟩ := id U_x0
      obtain ⟨T11, X11, e11, st11⟩ := getF X9 hx hZ hown (host := "") (Or.inl (oH hw 126 rfl)) Via.refl e9 Fn10 (g := (mkF m 94 #[.val (.ref p0), .val (.ref x0), .val (.long 0), .second, .val (.int 1)] [(.ref x0), (.int ny0)])) rfl rfl (hb hby d15_94)
      refine own_go (S' := (T11.setTop (mkF m 97 #[.val (.ref p0), .val (.ref x0), .val (.long 0), .second, .val (.int 1)] [(.int nx0), (.int ny0)]))) st11 ?_
      by_cases b97_12 : nx0 < ny0
      · refine own_go (S' := (T11.setTop (mkF m 105 #[.val (.ref p0), .val (.ref x0), .val (.long 0), .second, .val (.int 1)] [(.int ((1 : Int32) - (1 : Int32))), (.ref p0)]))) (fun _ kont => XS.icmpNo X11.here hx rfl (hb hby d15_97) rfl (tlt b97_12).2.2.2 (XS.aloadN X11.here hx rfl (hb hby d15_100) rfl rfl (XS.iload X11.here hx rfl (hb hby d15_101) rfl (XS.iconst X11.here hx rfl (hb hby d15_103) (XS.isub X11.here hx rfl (hb hby d15_104) rfl kont))))) ?_
        rw [show ((1 : Int32) - (1 : Int32)) = (0 : Int32) from by decide]
        refine own_go (S' := (T11.setTop (mkF m 107 #[.val (.ref p0), .val (.ref x0), .val (.long 0), .second, .val (.int 1)] [(.int 1), (.int 0), (.ref p0)]))) (fun _ kont => XS.iload X11.here hx rfl (hb hby d15_105) rfl kont) ?_
        obtain ⟨cq16, qp16, qp16'⟩ := E_p0.cell
        obtain ⟨v16, _, ⟨T16, L16, k16, n16⟩, -, X16, ⟨Lc16, hQ16, l16, y16, z16⟩, st16⟩ := X11.privateBack hx (y := (⟨"com/example/otaniemi/otaniemi/Pending", "move", "(II)V"⟩ : MethodName)) hown (mvT hZ (oH hw 150 rfl)) (mvT hZ (oH hw 151 rfl)) (own_selP (args := #[]) (mvT hZ (oH hw 55 rfl)) (mvP hZ (oH hw 152 rfl)) (mvT hZ (oH hw 151 rfl)) (by decide)) (Cond.privateMethod_at (mvP hZ (oH hw 152 rfl) (args := #[]))) (mvT hZ (oH hw 153 rfl)) (by decide) (backOf (W := 0) (rmMv01N l Z a0 hw [] p0 fa kf (1 : Int32) f1 y0 h0 n0 Z0 E_p0 F_p0_found F_p0_foundCount F_p0_passed F_p0_values g_p0 g_fa V_fa O_fa U_y0.2.1) hZ (oH hw 153 rfl) (oH hw 56 rfl) (by decide) (by decide)) (g := (mkF m 107 #[.val (.ref p0), .val (.ref x0), .val (.long 0), .second, .val (.int 1)] [(.int 1), (.int 0), (.ref p0)])) rfl (by rw [hml]; rfl) (Steps.refl _) (a := p0) (by rw [e11]; exact qp16) qp16' (argsL := [(.int 0), (.int 1)]) (rest := []) (lenOf pd_318 rfl) rfl (by show 2 * 0 + _ ≤ _; exact Nat.le_of_eq rfl) (hb hby d15_107) (fun _ _ => ⟨rfl, e11, (by decide : 0 + 0 ≤ _), (by decide : 0 + 0 ≤ _)⟩)
        dsimp only [Pt.U, Pt.locs, Pt.cells, Pt.slots] at X16 l16 y16 z16 st16 hQ16
        subst l16 y16 z16
        obtain ⟨rfl, Nq16, Kc16, Vf16⟩ := hQ16
        have Kt16 := K0.trans Kc16 (fun x hx => by simp only [List.mem_cons, List.mem_singleton, List.not_mem_nil, or_false] at hx; rcases hx with rfl <;> first | (left; simp; done) | (right; assumption))
        have N16 := Fr.app N1 Nq16
        have Z16 : n0 ≤ T16.heap.size := Nat.le_trans Z0 Kc16.1
        have c16_Ep0 := E_p0.keep Kc16
        have c16_Fp0_found := F_p0_found.keep Kc16 (ninS npf nin0)
        have c16_Fp0_foundCount := F_p0_foundCount.keep Kc16 (ninS npf nin0)
        have c16_Fp0_passed := F_p0_passed.keep Kc16 (ninS npf nin0)
        have c16_Fp0_values := F_p0_values.keep Kc16 (ninS npf nin0)
        have c16_Ux0 := U_x0.kp (own_Kp.keep Kc16 (own_gS g_fa own_g0))
        have c16_Uy0 := U_y0.kp (own_Kp.keep Kc16 (own_gS g_fa own_g0))
        refine own_goT (S' := (T16.setTop (mkF m 110 #[.val (.ref p0), .val (.ref x0), .val (.long 0), .second, .val (.int 1)] []))) st16 ?_
        refine own_go (S' := (T16.setTop (mkF m 113 #[.val (.ref p0), .val (.ref x0), .val (.long 0), .second, .val (.int ((1 : Int32) + (-1 : Int32)))] []))) (fun _ kont => XS.iinc X16.here hx rfl (hb hby d15_110) rfl (l' := #[.val (.ref p0), .val (.ref x0), .val (.long 0), .second, .val (.int ((1 : Int32) + (-1 : Int32)))]) rfl kont) ?_
        rw [show ((1 : Int32) + (-1 : Int32)) = (0 : Int32) from by decide]
        refine own_go (S' := (T16.setTop (mkF m 122 #[.val (.ref p0), .val (.ref x0), .val (.long 0), .second, .val (.int 0)] [(.long 0), (.long 0), (.ref x0), (.int 0), (.ref p0)]))) (fun _ kont => XS.goto X16.here hx rfl (pc0 := 113) (pc' := 76) rfl (hb hby d15_113) (by decide) (by decide) (XS.iload X16.here hx rfl (hb hby d15_76) rfl (XS.ifYes X16.here hx rfl (pc0 := 78) (pc' := 116) rfl (hb hby d15_78) rfl ((if0 _ _).trans (flt (by decide)).2.2.2) (by decide) (by decide) (XS.aloadN X16.here hx rfl (hb hby d15_116) rfl rfl (XS.iload X16.here hx rfl (hb hby d15_117) rfl (XS.aloadN X16.here hx rfl (hb hby d15_119) rfl rfl (XS.lloadN X16.here hx rfl (hb hby d15_120) rfl (XS.lconst X16.here hx rfl (hb hby d15_121) kont)))))))) ?_
        obtain ⟨cq17, qp17, qp17'⟩ := c16_Ep0.cell
        obtain ⟨v17, _, ⟨T17, L17, k17, n17⟩, -, X17, ⟨Lc17, hQ17, l17, y17, z17⟩, st17⟩ := X16.privateBack hx (y := (⟨"com/example/otaniemi/otaniemi/Pending", "put", "(ILcom/example/otaniemi/otaniemi/State;JJ)V"⟩ : MethodName)) hown (mvT hZ (oH hw 117 rfl)) (mvT hZ (oH hw 118 rfl)) (own_selP (args := #[]) (mvT hZ (oH hw 55 rfl)) (mvP hZ (oH hw 119 rfl)) (mvT hZ (oH hw 118 rfl)) (by decide)) (Cond.privateMethod_at (mvP hZ (oH hw 119 rfl) (args := #[]))) (mvT hZ (oH hw 120 rfl)) (by decide) (backOf (W := 0) (rmPu0N l Z a0 hw [] p0 fa kf (1 : Int32) (.ref y0) (.ref y0) x0 (0 : Int64) (0 : Int64) T16.heap n0 Z16 c16_Ep0 c16_Fp0_found c16_Fp0_foundCount c16_Fp0_passed c16_Fp0_values g_p0 g_fa Vf16 O_fa c16_Ux0.2.1) hZ (oH hw 120 rfl) (oH hw 56 rfl) (by decide) (by decide)) (g := (mkF m 122 #[.val (.ref p0), .val (.ref x0), .val (.long 0), .second, .val (.int 0)] [(.long 0), (.long 0), (.ref x0), (.int 0), (.ref p0)])) rfl (by rw [hml]; rfl) (Steps.refl _) (a := p0) qp17 qp17' (argsL := [(.int 0), (.ref x0), (.long 0), (.long 0)]) (rest := []) (lenOf pd_235 rfl) rfl (by show 2 * 0 + _ ≤ _; exact Nat.le_of_eq rfl) (hb hby d15_122) (fun _ _ => ⟨rfl, rfl, (by decide : 0 + 0 ≤ _), (by decide : 0 + 0 ≤ _)⟩)
        dsimp only [Pt.U, Pt.locs, Pt.cells, Pt.slots] at X17 l17 y17 z17 st17 hQ17
        subst l17 y17 z17
        obtain ⟨rfl, Nq17, Kc17, Vf17⟩ := hQ17
        have Kt17 := Kt16.trans Kc17 (fun x hx => by simp only [List.mem_cons, List.mem_singleton, List.not_mem_nil, or_false] at hx; rcases hx with rfl <;> first | (left; simp; done) | (right; assumption))
        have N17 := Fr.app N16 Nq17
        have Z17 : n0 ≤ T17.heap.size := Nat.le_trans Z16 Kc17.1
        have c17_Ep0 := c16_Ep0.keep Kc17
        have c17_Fp0_found := c16_Fp0_found.keep Kc17 (ninS npf nin0)
        have c17_Fp0_foundCount := c16_Fp0_foundCount.keep Kc17 (ninS npf nin0)
        have c17_Fp0_passed := c16_Fp0_passed.keep Kc17 (ninS npf nin0)
        have c17_Fp0_values := c16_Fp0_values.keep Kc17 (ninS npf nin0)
        have c17_Ux0 := c16_Ux0.kp (own_Kp.keep Kc17 (own_gS g_fa own_g0))
        have c17_Uy0 := c16_Uy0.kp (own_Kp.keep Kc17 (own_gS g_fa own_g0))
        refine own_goT (S' := (T17.setTop (mkF m 125 #[.val (.ref p0), .val (.ref x0), .val (.long 0), .second, .val (.int 0)] []))) st17 ?_
        refine own_go (S' := (T17.setTop (mkF m 127 #[.val (.ref p0), .val (.ref x0), .val (.long 0), .second, .val (.int 0)] [(.ref p0), (.ref p0)]))) (fun _ kont => XS.aloadN X17.here hx rfl (hb hby d15_125) rfl rfl (XS.dup X17.here hx rfl (hb hby d15_126) rfl rfl kont)) ?_
        obtain ⟨T18, X18, e18, st18⟩ := getF X17 hx hZ hown (host := "") (Or.inl (oH hw 74 rfl)) Via.refl rfl c17_Fp0_foundCount (g := (mkF m 127 #[.val (.ref p0), .val (.ref x0), .val (.long 0), .second, .val (.int 0)] [(.ref p0), (.ref p0)])) rfl rfl (hb hby d15_127)
        refine own_go (S' := (T18.setTop (mkF m 130 #[.val (.ref p0), .val (.ref x0), .val (.long 0), .second, .val (.int 0)] [(.int 1), (.ref p0)]))) st18 ?_
        refine own_go (S' := (T18.setTop (mkF m 132 #[.val (.ref p0), .val (.ref x0), .val (.long 0), .second, .val (.int 0)] [(.int ((1 : Int32) + (1 : Int32))), (.ref p0)]))) (fun _ kont => XS.iconst X18.here hx rfl (hb hby d15_130) (XS.iadd X18.here hx rfl (hb hby d15_131) rfl kont)) ?_
        rw [show ((1 : Int32) + (1 : Int32)) = (2 : Int32) from by decide]
        obtain ⟨T19, h19, X19, e19, W19, st19⟩ := putF X18 hx hZ hown (host := "") (Or.inl (oH hw 74 rfl)) Via.refl e18 c17_Fp0_foundCount c17_Ep0 (Or.inl (oH hw 75 rfl)) (oH hw 55 rfl) (ty := .int) (by decide) rfl rfl (g := (mkF m 132 #[.val (.ref p0), .val (.ref x0), .val (.long 0), .second, .val (.int 0)] [(.int 2), (.ref p0)])) rfl rfl (hb hby d15_132)
        have c19_Ep0 := c17_Ep0.wr W19
        have c19_Fp0_found := c17_Fp0_found.other W19 (Or.inr (slot_ne (Or.inl (oH hw 64 rfl)) (Or.inl (oH hw 75 rfl)) (by decide) (by decide : parseFieldDescriptor "[Lcom/example/otaniemi/otaniemi/State;" = some (.array (.object "com/example/otaniemi/otaniemi/State"))) (by decide : parseFieldDescriptor "I" = some .int)))
        have c19_Fp0_foundCount := c17_Fp0_foundCount.same W19
        have c19_Fp0_passed := c17_Fp0_passed.other W19 (Or.inr (slot_ne (Or.inl (oH hw 125 rfl)) (Or.inl (oH hw 75 rfl)) (by decide) (by decide : parseFieldDescriptor "Lcom/example/otaniemi/otaniemi/Pending$Passed;" = some (.object "com/example/otaniemi/otaniemi/Pending$Passed")) (by decide : parseFieldDescriptor "I" = some .int)))
        have c19_Fp0_values := c17_Fp0_values.other W19 (Or.inr (slot_ne (Or.inl (oH hw 123 rfl)) (Or.inl (oH hw 75 rfl)) (by decide) (by decide : parseFieldDescriptor "[J" = some (.array .long)) (by decide : parseFieldDescriptor "I" = some .int)))
        have c19_Ux0 := c17_Ux0.kp (own_Kp.wr W19 g_p0)
        have c19_Uy0 := c17_Uy0.kp (own_Kp.wr W19 g_p0)
        have c19_Vfa := Vf17.other W19 (Ne.symm npf)
        have K19 := Kt17.wr W19 (Or.inl (List.mem_of_getElem? (i := 0) rfl))
        have N19 := Fr.snoc X19 N17 g_p0
        have Z19 : n0 ≤ h19.size := Nat.le_trans Z17 (Nat.le_of_eq W19.size.symm)
        refine own_go (S' := (T19.setTop (mkF m 135 #[.val (.ref p0), .val (.ref x0), .val (.long 0), .second, .val (.int 0)] []))) st19 ?_
        refine own_ret0 X19 hx hlk Bd.returns (hb hby d15_135) (by decide) (by decide) ?_
        rw [e19]
        exact ⟨rfl, N19, own_Kp.keep K19 (own_gS g_p0 (own_gS g_fa own_g0)), Or.inl ⟨fa, kf, ⟨g_p0, g_fa, c19_Ep0, c19_Fp0_found, c19_Fp0_foundCount, c19_Fp0_passed, c19_Vfa, O_fa⟩, Or.inl ⟨c19_Fp0_values, rfl, rfl⟩⟩⟩
      · refine own_go (S' := (T11.setTop (mkF m 122 #[.val (.ref p0), .val (.ref x0), .val (.long 0), .second, .val (.int 1)] [(.long 0), (.long 0), (.ref x0), (.int 1), (.ref p0)]))) (fun _ kont => XS.icmpYes X11.here hx rfl (pc0 := 97) (pc' := 116) rfl (hb hby d15_97) rfl (flt b97_12).2.2.2 (by decide) (by decide) (XS.aloadN X11.here hx rfl (hb hby d15_116) rfl rfl (XS.iload X11.here hx rfl (hb hby d15_117) rfl (XS.aloadN X11.here hx rfl (hb hby d15_119) rfl rfl (XS.lloadN X11.here hx rfl (hb hby d15_120) rfl (XS.lconst X11.here hx rfl (hb hby d15_121) kont)))))) ?_
        obtain ⟨cq13, qp13, qp13'⟩ := E_p0.cell
        obtain ⟨v13, _, ⟨T13, L13, k13, n13⟩, -, X13, ⟨Lc13, hQ13, l13, y13, z13⟩, st13⟩ := X11.privateBack hx (y := (⟨"com/example/otaniemi/otaniemi/Pending", "put", "(ILcom/example/otaniemi/otaniemi/State;JJ)V"⟩ : MethodName)) hown (mvT hZ (oH hw 117 rfl)) (mvT hZ (oH hw 118 rfl)) (own_selP (args := #[]) (mvT hZ (oH hw 55 rfl)) (mvP hZ (oH hw 119 rfl)) (mvT hZ (oH hw 118 rfl)) (by decide)) (Cond.privateMethod_at (mvP hZ (oH hw 119 rfl) (args := #[]))) (mvT hZ (oH hw 120 rfl)) (by decide) (backOf (W := 0) (rmPu1N l Z a0 hw [] p0 fa kf (1 : Int32) (.ref y0) f1 x0 (0 : Int64) (0 : Int64) h0 n0 Z0 E_p0 F_p0_found F_p0_foundCount F_p0_passed F_p0_values g_p0 g_fa V_fa O_fa U_x0.2.1) hZ (oH hw 120 rfl) (oH hw 56 rfl) (by decide) (by decide)) (g := (mkF m 122 #[.val (.ref p0), .val (.ref x0), .val (.long 0), .second, .val (.int 1)] [(.long 0), (.long 0), (.ref x0), (.int 1), (.ref p0)])) rfl (by rw [hml]; rfl) (Steps.refl _) (a := p0) (by rw [e11]; exact qp13) qp13' (argsL := [(.int 1), (.ref x0), (.long 0), (.long 0)]) (rest := []) (lenOf pd_235 rfl) rfl (by show 2 * 0 + _ ≤ _; exact Nat.le_of_eq rfl) (hb hby d15_122) (fun _ _ => ⟨rfl, e11, (by decide : 0 + 0 ≤ _), (by decide : 0 + 0 ≤ _)⟩)
        dsimp only [Pt.U, Pt.locs, Pt.cells, Pt.slots] at X13 l13 y13 z13 st13 hQ13
        subst l13 y13 z13
        obtain ⟨rfl, Nq13, Kc13, Vf13⟩ := hQ13
        have Kt13 := K0.trans Kc13 (fun x hx => by simp only [List.mem_cons, List.mem_singleton, List.not_mem_nil, or_false] at hx; rcases hx with rfl <;> first | (left; simp; done) | (right; assumption))
        have N13 := Fr.app N1 Nq13
        have Z13 : n0 ≤ T13.heap.size := Nat.le_trans Z0 Kc13.1
        have c13_Ep0 := E_p0.keep Kc13
        have c13_Fp0_found := F_p0_found.keep Kc13 (ninS npf nin0)
        have c13_Fp0_foundCount := F_p0_foundCount.keep Kc13 (ninS npf nin0)
        have c13_Fp0_passed := F_p0_passed.keep Kc13 (ninS npf nin0)
        have c13_Fp0_values := F_p0_values.keep Kc13 (ninS npf nin0)
        have c13_Ux0 := U_x0.kp (own_Kp.keep Kc13 (own_gS g_fa own_g0))
        have c13_Uy0 := U_y0.kp (own_Kp.keep Kc13 (own_gS g_fa own_g0))
        refine own_goT (S' := (T13.setTop (mkF m 125 #[.val (.ref p0), .val (.ref x0), .val (.long 0), .second, .val (.int 1)] []))) st13 ?_
        refine own_go (S' := (T13.setTop (mkF m 127 #[.val (.ref p0), .val (.ref x0), .val (.long 0), .second, .val (.int 1)] [(.ref p0), (.ref p0)]))) (fun _ kont => XS.aloadN X13.here hx rfl (hb hby d15_125) rfl rfl (XS.dup X13.here hx rfl (hb hby d15_126) rfl rfl kont)) ?_
        obtain ⟨T14, X14, e14, st14⟩ := getF X13 hx hZ hown (host := "") (Or.inl (oH hw 74 rfl)) Via.refl rfl c13_Fp0_foundCount (g := (mkF m 127 #[.val (.ref p0), .val (.ref x0), .val (.long 0), .second, .val (.int 1)] [(.ref p0), (.ref p0)])) rfl rfl (hb hby d15_127)
        refine own_go (S' := (T14.setTop (mkF m 130 #[.val (.ref p0), .val (.ref x0), .val (.long 0), .second, .val (.int 1)] [(.int 1), (.ref p0)]))) st14 ?_
        refine own_go (S' := (T14.setTop (mkF m 132 #[.val (.ref p0), .val (.ref x0), .val (.long 0), .second, .val (.int 1)] [(.int ((1 : Int32) + (1 : Int32))), (.ref p0)]))) (fun _ kont => XS.iconst X14.here hx rfl (hb hby d15_130) (XS.iadd X14.here hx rfl (hb hby d15_131) rfl kont)) ?_
        rw [show ((1 : Int32) + (1 : Int32)) = (2 : Int32) from by decide]
        obtain ⟨T15, h15, X15, e15, W15, st15⟩ := putF X14 hx hZ hown (host := "") (Or.inl (oH hw 74 rfl)) Via.refl e14 c13_Fp0_foundCount c13_Ep0 (Or.inl (oH hw 75 rfl)) (oH hw 55 rfl) (ty := .int) (by decide) rfl rfl (g := (mkF m 132 #[.val (.ref p0), .val (.ref x0), .val (.long 0), .second, .val (.int 1)] [(.int 2), (.ref p0)])) rfl rfl (hb hby d15_132)
        have c15_Ep0 := c13_Ep0.wr W15
        have c15_Fp0_found := c13_Fp0_found.other W15 (Or.inr (slot_ne (Or.inl (oH hw 64 rfl)) (Or.inl (oH hw 75 rfl)) (by decide) (by decide : parseFieldDescriptor "[Lcom/example/otaniemi/otaniemi/State;" = some (.array (.object "com/example/otaniemi/otaniemi/State"))) (by decide : parseFieldDescriptor "I" = some .int)))
        have c15_Fp0_foundCount := c13_Fp0_foundCount.same W15
        have c15_Fp0_passed := c13_Fp0_passed.other W15 (Or.inr (slot_ne (Or.inl (oH hw 125 rfl)) (Or.inl (oH hw 75 rfl)) (by decide) (by decide : parseFieldDescriptor "Lcom/example/otaniemi/otaniemi/Pending$Passed;" = some (.object "com/example/otaniemi/otaniemi/Pending$Passed")) (by decide : parseFieldDescriptor "I" = some .int)))
        have c15_Fp0_values := c13_Fp0_values.other W15 (Or.inr (slot_ne (Or.inl (oH hw 123 rfl)) (Or.inl (oH hw 75 rfl)) (by decide) (by decide : parseFieldDescriptor "[J" = some (.array .long)) (by decide : parseFieldDescriptor "I" = some .int)))
        have c15_Ux0 := c13_Ux0.kp (own_Kp.wr W15 g_p0)
        have c15_Uy0 := c13_Uy0.kp (own_Kp.wr W15 g_p0)
        have c15_Vfa := Vf13.other W15 (Ne.symm npf)
        have K15 := Kt13.wr W15 (Or.inl (List.mem_of_getElem? (i := 0) rfl))
        have N15 := Fr.snoc X15 N13 g_p0
        have Z15 : n0 ≤ h15.size := Nat.le_trans Z13 (Nat.le_of_eq W15.size.symm)
        refine own_go (S' := (T15.setTop (mkF m 135 #[.val (.ref p0), .val (.ref x0), .val (.long 0), .second, .val (.int 1)] []))) st15 ?_
        refine own_ret0 X15 hx hlk Bd.returns (hb hby d15_135) (by decide) (by decide) ?_
        rw [e15]
        exact ⟨rfl, N15, own_Kp.keep K15 (own_gS g_p0 (own_gS g_fa own_g0)), Or.inr ⟨fa, kf, ⟨g_p0, g_fa, c15_Ep0, c15_Fp0_found, c15_Fp0_foundCount, c15_Fp0_passed, c15_Vfa, O_fa⟩, Or.inl ⟨c15_Fp0_values, rfl, rfl⟩⟩⟩
    · obtain ⟨g_p0, g_fa, E_p0, F_p0_found, F_p0_foundCount, F_p0_passed, V_fa, O_fa⟩ := HC
      obtain ⟨g_va, nfv, F_p0_values, V_va⟩ := HV
      have npf := E_p0.neArv V_fa (oH hw 55 rfl)
      have npv := E_p0.neArv V_va (oH hw 55 rfl)
      have K0 := Keep.refl h0 [p0, fa, va]
      refine own_go (S' := (s₁.setTop (mkF m 12 #[.val (.ref p0), .val (.ref x0), .val (.long 0), .second, .unset] [(.ref x0), (.ref p0)]))) (fun _ kont => XS.lloadN X0.here hx rfl (hb hby d15_0) rfl (XS.lconst X0.here hx rfl (hb hby d15_1) (XS.lcmp X0.here hx rfl (hb hby d15_2) rfl (XS.ifYes X0.here hx rfl (pc0 := 3) (pc' := 10) rfl (hb hby d15_3) rfl ((if0 _ _).trans (teq (own_leq (by decide))).1) (by decide) (by decide) (XS.aloadN X0.here hx rfl (hb hby d15_10) rfl rfl (XS.aloadN X0.here hx rfl (hb hby d15_11) rfl rfl kont)))))) ?_
      obtain ⟨cq20, qp20, qp20'⟩ := E_p0.cell
      obtain ⟨v20, _, ⟨T20, L20, k20, n20⟩, -, X20, ⟨Lc20, hQ20, l20, y20, z20⟩, st20⟩ := X0.privateBack hx (y := (⟨"com/example/otaniemi/otaniemi/Pending", "indexOf", "(Lcom/example/otaniemi/otaniemi/State;)I"⟩ : MethodName)) hown (mvT hZ (oH hw 113 rfl)) (mvT hZ (oH hw 114 rfl)) (own_selP (args := #[]) (mvT hZ (oH hw 55 rfl)) (mvP hZ (oH hw 115 rfl)) (mvT hZ (oH hw 114 rfl)) (by decide)) (Cond.privateMethod_at (mvP hZ (oH hw 115 rfl) (args := #[]))) (mvT hZ (oH hw 116 rfl)) (by decide) (backOf (W := 0) (rmIxd l Z a0 hw [] p0 fa x0 y0 kf f1 h0 n0 Z0 E_p0 F_p0_found F_p0_foundCount V_fa hne) hZ (oH hw 116 rfl) (oH hw 56 rfl) (by decide) (by decide)) (g := (mkF m 12 #[.val (.ref p0), .val (.ref x0), .val (.long 0), .second, .unset] [(.ref x0), (.ref p0)])) rfl (by rw [hml]; rfl) (Steps.refl _) (a := p0) (by rw [e0]; exact qp20) qp20' (argsL := [(.ref x0)]) (rest := []) (lenOf pd_255 rfl) rfl (by show 2 * 0 + _ ≤ _; exact Nat.le_of_eq rfl) (hb hby d15_12) (fun _ _ => ⟨rfl, e0, (by decide : 0 + 0 ≤ _), (by decide : 0 + 0 ≤ _)⟩)
      dsimp only [Pt.U, Pt.locs, Pt.cells, Pt.slots] at X20 l20 y20 z20 st20 hQ20
      subst l20 y20 z20
      obtain ⟨rfl, eh20, rfl⟩ := hQ20
      have N20 := Fr.app N0 (Fr.nil n0)
      refine own_goT (S' := (T20.setTop (mkF m 15 #[.val (.ref p0), .val (.ref x0), .val (.long 0), .second, .unset] [(.int (-1 : Int32))]))) st20 ?_
      refine own_go (S' := (T20.setTop (mkF m 49 #[.val (.ref p0), .val (.ref x0), .val (.long 0), .second, .val (.int (-1 : Int32))] [(.ref p0)]))) (fun _ kont => XS.istore X20.here hx rfl (hb hby d15_15) rfl (l' := #[.val (.ref p0), .val (.ref x0), .val (.long 0), .second, .val (.int (-1 : Int32))]) rfl (XS.iload X20.here hx rfl (hb hby d15_17) rfl (XS.ifYes X20.here hx rfl (pc0 := 19) (pc' := 48) rfl (hb hby d15_19) rfl ((if0 _ _).trans (tlt (by decide)).1) (by decide) (by decide) (XS.aloadN X20.here hx rfl (hb hby d15_48) rfl rfl kont)))) ?_
      obtain ⟨T21, X21, e21, st21⟩ := getF X20 hx hZ hown (host := "") (Or.inl (oH hw 74 rfl)) Via.refl eh20 F_p0_foundCount (g := (mkF m 49 #[.val (.ref p0), .val (.ref x0), .val (.long 0), .second, .val (.int (-1 : Int32))] [(.ref p0)])) rfl rfl (hb hby d15_49)
      refine own_go (S' := (T21.setTop (mkF m 52 #[.val (.ref p0), .val (.ref x0), .val (.long 0), .second, .val (.int (-1 : Int32))] [(.int 1)]))) st21 ?_
      refine own_go (S' := (T21.setTop (mkF m 53 #[.val (.ref p0), .val (.ref x0), .val (.long 0), .second, .val (.int (-1 : Int32))] [(.ref p0), (.int 1)]))) (fun _ kont => XS.aloadN X21.here hx rfl (hb hby d15_52) rfl rfl kont) ?_
      obtain ⟨T22, X22, e22, st22⟩ := getF X21 hx hZ hown (host := "") (Or.inl (oH hw 63 rfl)) Via.refl e21 F_p0_found (g := (mkF m 53 #[.val (.ref p0), .val (.ref x0), .val (.long 0), .second, .val (.int (-1 : Int32))] [(.ref p0), (.int 1)])) rfl rfl (hb hby d15_53)
      refine own_go (S' := (T22.setTop (mkF m 56 #[.val (.ref p0), .val (.ref x0), .val (.long 0), .second, .val (.int (-1 : Int32))] [(.ref fa), (.int 1)]))) st22 ?_
      obtain ⟨cl23, Ar23, -, S23, M23, -, -⟩ := id V_fa
      have ql23 := len_of S23 M23
      refine own_go (S' := (T22.setTop (mkF m 57 #[.val (.ref p0), .val (.ref x0), .val (.long 0), .second, .val (.int (-1 : Int32))] [(.int 4), (.int 1)]))) (fun _ kont => X22.arraylength hx (by rw [e22]; exact Ar23.1) (State.isArrayOf_alike hZ.alike Ar23.2.1) (g := (mkF m 56 #[.val (.ref p0), .val (.ref x0), .val (.long 0), .second, .val (.int (-1 : Int32))] [(.ref fa), (.int 1)])) rfl rfl (hb hby d15_56) _ (by rw [ql23]; exact kont)) ?_
      refine own_go (S' := (T22.setTop (mkF m 71 #[.val (.ref p0), .val (.ref x0), .val (.long 0), .second, .val (.int (-1 : Int32))] [(.ref p0)]))) (fun _ kont => XS.icmpYes X22.here hx rfl (pc0 := 57) (pc' := 70) rfl (hb hby d15_57) rfl (feq (by decide)).2 (by decide) (by decide) (XS.aloadN X22.here hx rfl (hb hby d15_70) rfl rfl kont)) ?_
      obtain ⟨T24, X24, e24, st24⟩ := getF X22 hx hZ hown (host := "") (Or.inl (oH hw 74 rfl)) Via.refl e22 F_p0_foundCount (g := (mkF m 71 #[.val (.ref p0), .val (.ref x0), .val (.long 0), .second, .val (.int (-1 : Int32))] [(.ref p0)])) rfl rfl (hb hby d15_71)
      refine own_go (S' := (T24.setTop (mkF m 74 #[.val (.ref p0), .val (.ref x0), .val (.long 0), .second, .val (.int (-1 : Int32))] [(.int 1)]))) st24 ?_
      refine own_go (S' := (T24.setTop (mkF m 82 #[.val (.ref p0), .val (.ref x0), .val (.long 0), .second, .val (.int 1)] [(.ref p0)]))) (fun _ kont => XS.istore X24.here hx rfl (hb hby d15_74) rfl (l' := #[.val (.ref p0), .val (.ref x0), .val (.long 0), .second, .val (.int 1)]) rfl (XS.iload X24.here hx rfl (hb hby d15_76) rfl (XS.ifNo X24.here hx rfl (hb hby d15_78) rfl ((if0 _ _).trans (tlt (by decide)).2.2.2) (XS.aloadN X24.here hx rfl (hb hby d15_81) rfl rfl kont)))) ?_
      obtain ⟨T25, X25, e25, st25⟩ := getF X24 hx hZ hown (host := "") (Or.inl (oH hw 63 rfl)) Via.refl e24 F_p0_found (g := (mkF m 82 #[.val (.ref p0), .val (.ref x0), .val (.long 0), .second, .val (.int 1)] [(.ref p0)])) rfl rfl (hb hby d15_82)
      refine own_go (S' := (T25.setTop (mkF m 85 #[.val (.ref p0), .val (.ref x0), .val (.long 0), .second, .val (.int 1)] [(.ref fa)]))) st25 ?_
      refine own_go (S' := (T25.setTop (mkF m 89 #[.val (.ref p0), .val (.ref x0), .val (.long 0), .second, .val (.int 1)] [(.int ((1 : Int32) - (1 : Int32))), (.ref fa)]))) (fun _ kont => XS.iload X25.here hx rfl (hb hby d15_85) rfl (XS.iconst X25.here hx rfl (hb hby d15_87) (XS.isub X25.here hx rfl (hb hby d15_88) rfl kont))) ?_
      rw [show ((1 : Int32) - (1 : Int32)) = (0 : Int32) from by decide]
      obtain ⟨cl26, Ar26, -, S26, -, H26, -⟩ := id V_fa
      have hin26 := inb_of (j := (0 : Int32)) S26 ⟨by decide, by decide⟩
      have hat26 := Has.at (v := (.ref y0)) H26 hin26 (by first | rfl | decide)
      refine own_go (S' := (T25.setTop (mkF m 90 #[.val (.ref p0), .val (.ref x0), .val (.long 0), .second, .val (.int 1)] [(.ref y0)]))) (fun _ kont => X25.aaload hx (j := (0 : Int32)) (v := (.ref y0)) (by rw [e25]; exact Ar26.1) (State.isArrayOf_alike hZ.alike Ar26.2.1) rfl Ar26.2.2 hin26 hat26 (g := (mkF m 89 #[.val (.ref p0), .val (.ref x0), .val (.long 0), .second, .val (.int 1)] [(.int 0), (.ref fa)])) rfl rfl (hb hby d15_89) _ kont) ?_
      obtain ⟨lx27, Ex27, Fn27, Fd27, Fi27, pp27, lp27, Fp27, Ep27, Fc27⟩ := id U_y0
      obtain ⟨T28, X28, e28, st28⟩ := getF X25 hx hZ hown (host := "") (Or.inl (oH hw 126 rfl)) Via.refl e25 Fn27 (g := (mkF m 90 #[.val (.ref p0), .val (.ref x0), .val (.long 0), .second, .val (.int 1)] [(.ref y0)])) rfl rfl (hb hby d15_90)
      refine own_go (S' := (T28.setTop (mkF m 93 #[.val (.ref p0), .val (.ref x0), .val (.long 0), .second, .val (.int 1)] [(.int ny0)]))) st28 ?_
      refine own_go (S' := (T28.setTop (mkF m 94 #[.val (.ref p0), .val (.ref x0), .val (.long 0), .second, .val (.int 1)] [(.ref x0), (.int ny0)]))) (fun _ kont => XS.aloadN X28.here hx rfl (hb hby d15_93) rfl rfl kont) ?_
      obtain ⟨lx29, Ex29, Fn29, Fd29, Fi29, pp29, lp29, Fp29, Ep29, Fc29⟩ := id U_x0
      obtain ⟨T30, X30, e30, st30⟩ := getF X28 hx hZ hown (host := "") (Or.inl (oH hw 126 rfl)) Via.refl e28 Fn29 (g := (mkF m 94 #[.val (.ref p0), .val (.ref x0), .val (.long 0), .second, .val (.int 1)] [(.ref x0), (.int ny0)])) rfl rfl (hb hby d15_94)
      refine own_go (S' := (T30.setTop (mkF m 97 #[.val (.ref p0), .val (.ref x0), .val (.long 0), .second, .val (.int 1)] [(.int nx0), (.int ny0)]))) st30 ?_
      by_cases b97_31 : nx0 < ny0
      · refine own_go (S' := (T30.setTop (mkF m 105 #[.val (.ref p0), .val (.ref x0), .val (.long 0), .second, .val (.int 1)] [(.int ((1 : Int32) - (1 : Int32))), (.ref p0)]))) (fun _ kont => XS.icmpNo X30.here hx rfl (hb hby d15_97) rfl (tlt b97_31).2.2.2 (XS.aloadN X30.here hx rfl (hb hby d15_100) rfl rfl (XS.iload X30.here hx rfl (hb hby d15_101) rfl (XS.iconst X30.here hx rfl (hb hby d15_103) (XS.isub X30.here hx rfl (hb hby d15_104) rfl kont))))) ?_
        rw [show ((1 : Int32) - (1 : Int32)) = (0 : Int32) from by decide]
        refine own_go (S' := (T30.setTop (mkF m 107 #[.val (.ref p0), .val (.ref x0), .val (.long 0), .second, .val (.int 1)] [(.int 1), (.int 0), (.ref p0)]))) (fun _ kont => XS.iload X30.here hx rfl (hb hby d15_105) rfl kont) ?_
        obtain ⟨cq35, qp35, qp35'⟩ := E_p0.cell
        obtain ⟨v35, _, ⟨T35, L35, k35, n35⟩, -, X35, ⟨Lc35, hQ35, l35, y35, z35⟩, st35⟩ := X30.privateBack hx (y := (⟨"com/example/otaniemi/otaniemi/Pending", "move", "(II)V"⟩ : MethodName)) hown (mvT hZ (oH hw 150 rfl)) (mvT hZ (oH hw 151 rfl)) (own_selP (args := #[]) (mvT hZ (oH hw 55 rfl)) (mvP hZ (oH hw 152 rfl)) (mvT hZ (oH hw 151 rfl)) (by decide)) (Cond.privateMethod_at (mvP hZ (oH hw 152 rfl) (args := #[]))) (mvT hZ (oH hw 153 rfl)) (by decide) (backOf (W := 0) (rmMv01A l Z a0 hw [] p0 fa kf (1 : Int32) f1 va kv v0 v1 y0 h0 n0 Z0 E_p0 F_p0_found F_p0_foundCount F_p0_passed F_p0_values g_p0 g_fa V_fa O_fa g_va nfv V_va U_y0.2.1) hZ (oH hw 153 rfl) (oH hw 56 rfl) (by decide) (by decide)) (g := (mkF m 107 #[.val (.ref p0), .val (.ref x0), .val (.long 0), .second, .val (.int 1)] [(.int 1), (.int 0), (.ref p0)])) rfl (by rw [hml]; rfl) (Steps.refl _) (a := p0) (by rw [e30]; exact qp35) qp35' (argsL := [(.int 0), (.int 1)]) (rest := []) (lenOf pd_318 rfl) rfl (by show 2 * 0 + _ ≤ _; exact Nat.le_of_eq rfl) (hb hby d15_107) (fun _ _ => ⟨rfl, e30, (by decide : 0 + 0 ≤ _), (by decide : 0 + 0 ≤ _)⟩)
        dsimp only [Pt.U, Pt.locs, Pt.cells, Pt.slots] at X35 l35 y35 z35 st35 hQ35
        subst l35 y35 z35
        obtain ⟨rfl, Nq35, Kc35, Vf35, Vv35⟩ := hQ35
        have Kt35 := K0.trans Kc35 (fun x hx => by simp only [List.mem_cons, List.mem_singleton, List.not_mem_nil, or_false] at hx; rcases hx with rfl | rfl <;> first | (left; simp; done) | (right; assumption))
        have N35 := Fr.app N20 Nq35
        have Z35 : n0 ≤ T35.heap.size := Nat.le_trans Z0 Kc35.1
        have c35_Ep0 := E_p0.keep Kc35
        have c35_Fp0_found := F_p0_found.keep Kc35 (ninS npf (ninS npv nin0))
        have c35_Fp0_foundCount := F_p0_foundCount.keep Kc35 (ninS npf (ninS npv nin0))
        have c35_Fp0_passed := F_p0_passed.keep Kc35 (ninS npf (ninS npv nin0))
        have c35_Fp0_values := F_p0_values.keep Kc35 (ninS npf (ninS npv nin0))
        have c35_Ux0 := U_x0.kp (own_Kp.keep Kc35 (own_gS g_fa (own_gS g_va own_g0)))
        have c35_Uy0 := U_y0.kp (own_Kp.keep Kc35 (own_gS g_fa (own_gS g_va own_g0)))
        refine own_goT (S' := (T35.setTop (mkF m 110 #[.val (.ref p0), .val (.ref x0), .val (.long 0), .second, .val (.int 1)] []))) st35 ?_
        refine own_go (S' := (T35.setTop (mkF m 113 #[.val (.ref p0), .val (.ref x0), .val (.long 0), .second, .val (.int ((1 : Int32) + (-1 : Int32)))] []))) (fun _ kont => XS.iinc X35.here hx rfl (hb hby d15_110) rfl (l' := #[.val (.ref p0), .val (.ref x0), .val (.long 0), .second, .val (.int ((1 : Int32) + (-1 : Int32)))]) rfl kont) ?_
        rw [show ((1 : Int32) + (-1 : Int32)) = (0 : Int32) from by decide]
        refine own_go (S' := (T35.setTop (mkF m 122 #[.val (.ref p0), .val (.ref x0), .val (.long 0), .second, .val (.int 0)] [(.long 0), (.long 0), (.ref x0), (.int 0), (.ref p0)]))) (fun _ kont => XS.goto X35.here hx rfl (pc0 := 113) (pc' := 76) rfl (hb hby d15_113) (by decide) (by decide) (XS.iload X35.here hx rfl (hb hby d15_76) rfl (XS.ifYes X35.here hx rfl (pc0 := 78) (pc' := 116) rfl (hb hby d15_78) rfl ((if0 _ _).trans (flt (by decide)).2.2.2) (by decide) (by decide) (XS.aloadN X35.here hx rfl (hb hby d15_116) rfl rfl (XS.iload X35.here hx rfl (hb hby d15_117) rfl (XS.aloadN X35.here hx rfl (hb hby d15_119) rfl rfl (XS.lloadN X35.here hx rfl (hb hby d15_120) rfl (XS.lconst X35.here hx rfl (hb hby d15_121) kont)))))))) ?_
        obtain ⟨cq36, qp36, qp36'⟩ := c35_Ep0.cell
        obtain ⟨v36, _, ⟨T36, L36, k36, n36⟩, -, X36, ⟨Lc36, hQ36, l36, y36, z36⟩, st36⟩ := X35.privateBack hx (y := (⟨"com/example/otaniemi/otaniemi/Pending", "put", "(ILcom/example/otaniemi/otaniemi/State;JJ)V"⟩ : MethodName)) hown (mvT hZ (oH hw 117 rfl)) (mvT hZ (oH hw 118 rfl)) (own_selP (args := #[]) (mvT hZ (oH hw 55 rfl)) (mvP hZ (oH hw 119 rfl)) (mvT hZ (oH hw 118 rfl)) (by decide)) (Cond.privateMethod_at (mvP hZ (oH hw 119 rfl) (args := #[]))) (mvT hZ (oH hw 120 rfl)) (by decide) (backOf (W := 0) (rmPu0A l Z a0 hw [] p0 fa kf (1 : Int32) (.ref y0) (.ref y0) va kv v0 v0 x0 (0 : Int64) (0 : Int64) T35.heap n0 Z35 c35_Ep0 c35_Fp0_found c35_Fp0_foundCount c35_Fp0_passed c35_Fp0_values g_p0 g_fa Vf35 O_fa g_va nfv Vv35 c35_Ux0.2.1) hZ (oH hw 120 rfl) (oH hw 56 rfl) (by decide) (by decide)) (g := (mkF m 122 #[.val (.ref p0), .val (.ref x0), .val (.long 0), .second, .val (.int 0)] [(.long 0), (.long 0), (.ref x0), (.int 0), (.ref p0)])) rfl (by rw [hml]; rfl) (Steps.refl _) (a := p0) qp36 qp36' (argsL := [(.int 0), (.ref x0), (.long 0), (.long 0)]) (rest := []) (lenOf pd_235 rfl) rfl (by show 2 * 0 + _ ≤ _; exact Nat.le_of_eq rfl) (hb hby d15_122) (fun _ _ => ⟨rfl, rfl, (by decide : 0 + 0 ≤ _), (by decide : 0 + 0 ≤ _)⟩)
        dsimp only [Pt.U, Pt.locs, Pt.cells, Pt.slots] at X36 l36 y36 z36 st36 hQ36
        subst l36 y36 z36
        obtain ⟨rfl, Nq36, Kc36, Vf36, Vv36⟩ := hQ36
        have Kt36 := Kt35.trans Kc36 (fun x hx => by simp only [List.mem_cons, List.mem_singleton, List.not_mem_nil, or_false] at hx; rcases hx with rfl | rfl <;> first | (left; simp; done) | (right; assumption))
        have N36 := Fr.app N35 Nq36
        have Z36 : n0 ≤ T36.heap.size := Nat.le_trans Z35 Kc36.1
        have c36_Ep0 := c35_Ep0.keep Kc36
        have c36_Fp0_found := c35_Fp0_found.keep Kc36 (ninS npf (ninS npv nin0))
        have c36_Fp0_foundCount := c35_Fp0_foundCount.keep Kc36 (ninS npf (ninS npv nin0))
        have c36_Fp0_passed := c35_Fp0_passed.keep Kc36 (ninS npf (ninS npv nin0))
        have c36_Fp0_values := c35_Fp0_values.keep Kc36 (ninS npf (ninS npv nin0))
        have c36_Ux0 := c35_Ux0.kp (own_Kp.keep Kc36 (own_gS g_fa (own_gS g_va own_g0)))
        have c36_Uy0 := c35_Uy0.kp (own_Kp.keep Kc36 (own_gS g_fa (own_gS g_va own_g0)))
        refine own_goT (S' := (T36.setTop (mkF m 125 #[.val (.ref p0), .val (.ref x0), .val (.long 0), .second, .val (.int 0)] []))) st36 ?_
        refine own_go (S' := (T36.setTop (mkF m 127 #[.val (.ref p0), .val (.ref x0), .val (.long 0), .second, .val (.int 0)] [(.ref p0), (.ref p0)]))) (fun _ kont => XS.aloadN X36.here hx rfl (hb hby d15_125) rfl rfl (XS.dup X36.here hx rfl (hb hby d15_126) rfl rfl kont)) ?_
        obtain ⟨T37, X37, e37, st37⟩ := getF X36 hx hZ hown (host := "") (Or.inl (oH hw 74 rfl)) Via.refl rfl c36_Fp0_foundCount (g := (mkF m 127 #[.val (.ref p0), .val (.ref x0), .val (.long 0), .second, .val (.int 0)] [(.ref p0), (.ref p0)])) rfl rfl (hb hby d15_127)
        refine own_go (S' := (T37.setTop (mkF m 130 #[.val (.ref p0), .val (.ref x0), .val (.long 0), .second, .val (.int 0)] [(.int 1), (.ref p0)]))) st37 ?_
        refine own_go (S' := (T37.setTop (mkF m 132 #[.val (.ref p0), .val (.ref x0), .val (.long 0), .second, .val (.int 0)] [(.int ((1 : Int32) + (1 : Int32))), (.ref p0)]))) (fun _ kont => XS.iconst X37.here hx rfl (hb hby d15_130) (XS.iadd X37.here hx rfl (hb hby d15_131) rfl kont)) ?_
        rw [show ((1 : Int32) + (1 : Int32)) = (2 : Int32) from by decide]
        obtain ⟨T38, h38, X38, e38, W38, st38⟩ := putF X37 hx hZ hown (host := "") (Or.inl (oH hw 74 rfl)) Via.refl e37 c36_Fp0_foundCount c36_Ep0 (Or.inl (oH hw 75 rfl)) (oH hw 55 rfl) (ty := .int) (by decide) rfl rfl (g := (mkF m 132 #[.val (.ref p0), .val (.ref x0), .val (.long 0), .second, .val (.int 0)] [(.int 2), (.ref p0)])) rfl rfl (hb hby d15_132)
        have c38_Ep0 := c36_Ep0.wr W38
        have c38_Fp0_found := c36_Fp0_found.other W38 (Or.inr (slot_ne (Or.inl (oH hw 64 rfl)) (Or.inl (oH hw 75 rfl)) (by decide) (by decide : parseFieldDescriptor "[Lcom/example/otaniemi/otaniemi/State;" = some (.array (.object "com/example/otaniemi/otaniemi/State"))) (by decide : parseFieldDescriptor "I" = some .int)))
        have c38_Fp0_foundCount := c36_Fp0_foundCount.same W38
        have c38_Fp0_passed := c36_Fp0_passed.other W38 (Or.inr (slot_ne (Or.inl (oH hw 125 rfl)) (Or.inl (oH hw 75 rfl)) (by decide) (by decide : parseFieldDescriptor "Lcom/example/otaniemi/otaniemi/Pending$Passed;" = some (.object "com/example/otaniemi/otaniemi/Pending$Passed")) (by decide : parseFieldDescriptor "I" = some .int)))
        have c38_Fp0_values := c36_Fp0_values.other W38 (Or.inr (slot_ne (Or.inl (oH hw 123 rfl)) (Or.inl (oH hw 75 rfl)) (by decide) (by decide : parseFieldDescriptor "[J" = some (.array .long)) (by decide : parseFieldDescriptor "I" = some .int)))
        have c38_Ux0 := c36_Ux0.kp (own_Kp.wr W38 g_p0)
        have c38_Uy0 := c36_Uy0.kp (own_Kp.wr W38 g_p0)
        have c38_Vfa := Vf36.other W38 (Ne.symm npf)
        have c38_Vva := Vv36.other W38 (Ne.symm npv)
        have K38 := Kt36.wr W38 (Or.inl (List.mem_of_getElem? (i := 0) rfl))
        have N38 := Fr.snoc X38 N36 g_p0
        have Z38 : n0 ≤ h38.size := Nat.le_trans Z36 (Nat.le_of_eq W38.size.symm)
        refine own_go (S' := (T38.setTop (mkF m 135 #[.val (.ref p0), .val (.ref x0), .val (.long 0), .second, .val (.int 0)] []))) st38 ?_
        refine own_ret0 X38 hx hlk Bd.returns (hb hby d15_135) (by decide) (by decide) ?_
        rw [e38]
        exact ⟨rfl, N38, own_Kp.keep K38 (own_gS g_p0 (own_gS g_fa (own_gS g_va own_g0))), Or.inl ⟨fa, kf, ⟨g_p0, g_fa, c38_Ep0, c38_Fp0_found, c38_Fp0_foundCount, c38_Fp0_passed, c38_Vfa, O_fa⟩, Or.inr ⟨va, kv, _, _, ⟨g_va, nfv, c38_Fp0_values, c38_Vva⟩, Or.inl ⟨rfl, rfl⟩, own_okAB q⟩⟩⟩
      · refine own_go (S' := (T30.setTop (mkF m 122 #[.val (.ref p0), .val (.ref x0), .val (.long 0), .second, .val (.int 1)] [(.long 0), (.long 0), (.ref x0), (.int 1), (.ref p0)]))) (fun _ kont => XS.icmpYes X30.here hx rfl (pc0 := 97) (pc' := 116) rfl (hb hby d15_97) rfl (flt b97_31).2.2.2 (by decide) (by decide) (XS.aloadN X30.here hx rfl (hb hby d15_116) rfl rfl (XS.iload X30.here hx rfl (hb hby d15_117) rfl (XS.aloadN X30.here hx rfl (hb hby d15_119) rfl rfl (XS.lloadN X30.here hx rfl (hb hby d15_120) rfl (XS.lconst X30.here hx rfl (hb hby d15_121) kont)))))) ?_
        obtain ⟨cq32, qp32, qp32'⟩ := E_p0.cell
        obtain ⟨v32, _, ⟨T32, L32, k32, n32⟩, -, X32, ⟨Lc32, hQ32, l32, y32, z32⟩, st32⟩ := X30.privateBack hx (y := (⟨"com/example/otaniemi/otaniemi/Pending", "put", "(ILcom/example/otaniemi/otaniemi/State;JJ)V"⟩ : MethodName)) hown (mvT hZ (oH hw 117 rfl)) (mvT hZ (oH hw 118 rfl)) (own_selP (args := #[]) (mvT hZ (oH hw 55 rfl)) (mvP hZ (oH hw 119 rfl)) (mvT hZ (oH hw 118 rfl)) (by decide)) (Cond.privateMethod_at (mvP hZ (oH hw 119 rfl) (args := #[]))) (mvT hZ (oH hw 120 rfl)) (by decide) (backOf (W := 0) (rmPu1A l Z a0 hw [] p0 fa kf (1 : Int32) (.ref y0) f1 va kv v0 v1 x0 (0 : Int64) (0 : Int64) h0 n0 Z0 E_p0 F_p0_found F_p0_foundCount F_p0_passed F_p0_values g_p0 g_fa V_fa O_fa g_va nfv V_va U_x0.2.1) hZ (oH hw 120 rfl) (oH hw 56 rfl) (by decide) (by decide)) (g := (mkF m 122 #[.val (.ref p0), .val (.ref x0), .val (.long 0), .second, .val (.int 1)] [(.long 0), (.long 0), (.ref x0), (.int 1), (.ref p0)])) rfl (by rw [hml]; rfl) (Steps.refl _) (a := p0) (by rw [e30]; exact qp32) qp32' (argsL := [(.int 1), (.ref x0), (.long 0), (.long 0)]) (rest := []) (lenOf pd_235 rfl) rfl (by show 2 * 0 + _ ≤ _; exact Nat.le_of_eq rfl) (hb hby d15_122) (fun _ _ => ⟨rfl, e30, (by decide : 0 + 0 ≤ _), (by decide : 0 + 0 ≤ _)⟩)
        dsimp only [Pt.U, Pt.locs, Pt.cells, Pt.slots] at X32 l32 y32 z32 st32 hQ32
        subst l32 y32 z32
        obtain ⟨rfl, Nq32, Kc32, Vf32, Vv32⟩ := hQ32
        have Kt32 := K0.trans Kc32 (fun x hx => by simp only [List.mem_cons, List.mem_singleton, List.not_mem_nil, or_false] at hx; rcases hx with rfl | rfl <;> first | (left; simp; done) | (right; assumption))
        have N32 := Fr.app N20 Nq32
        have Z32 : n0 ≤ T32.heap.size := Nat.le_trans Z0 Kc32.1
        have c32_Ep0 := E_p0.keep Kc32
        have c32_Fp0_found := F_p0_found.keep Kc32 (ninS npf (ninS npv nin0))
        have c32_Fp0_foundCount := F_p0_foundCount.keep Kc32 (ninS npf (ninS npv nin0))
        have c32_Fp0_passed := F_p0_passed.keep Kc32 (ninS npf (ninS npv nin0))
        have c32_Fp0_values := F_p0_values.keep Kc32 (ninS npf (ninS npv nin0))
        have c32_Ux0 := U_x0.kp (own_Kp.keep Kc32 (own_gS g_fa (own_gS g_va own_g0)))
        have c32_Uy0 := U_y0.kp (own_Kp.keep Kc32 (own_gS g_fa (own_gS g_va own_g0)))
        refine own_goT (S' := (T32.setTop (mkF m 125 #[.val (.ref p0), .val (.ref x0), .val (.long 0), .second, .val (.int 1)] []))) st32 ?_
        refine own_go (S' := (T32.setTop (mkF m 127 #[.val (.ref p0), .val (.ref x0), .val (.long 0), .second, .val (.int 1)] [(.ref p0), (.ref p0)]))) (fun _ kont => XS.aloadN X32.here hx rfl (hb hby d15_125) rfl rfl (XS.dup X32.here hx rfl (hb hby d15_126) rfl rfl kont)) ?_
        obtain ⟨T33, X33, e33, st33⟩ := getF X32 hx hZ hown (host := "") (Or.inl (oH hw 74 rfl)) Via.refl rfl c32_Fp0_foundCount (g := (mkF m 127 #[.val (.ref p0), .val (.ref x0), .val (.long 0), .second, .val (.int 1)] [(.ref p0), (.ref p0)])) rfl rfl (hb hby d15_127)
        refine own_go (S' := (T33.setTop (mkF m 130 #[.val (.ref p0), .val (.ref x0), .val (.long 0), .second, .val (.int 1)] [(.int 1), (.ref p0)]))) st33 ?_
        refine own_go (S' := (T33.setTop (mkF m 132 #[.val (.ref p0), .val (.ref x0), .val (.long 0), .second, .val (.int 1)] [(.int ((1 : Int32) + (1 : Int32))), (.ref p0)]))) (fun _ kont => XS.iconst X33.here hx rfl (hb hby d15_130) (XS.iadd X33.here hx rfl (hb hby d15_131) rfl kont)) ?_
        rw [show ((1 : Int32) + (1 : Int32)) = (2 : Int32) from by decide]
        obtain ⟨T34, h34, X34, e34, W34, st34⟩ := putF X33 hx hZ hown (host := "") (Or.inl (oH hw 74 rfl)) Via.refl e33 c32_Fp0_foundCount c32_Ep0 (Or.inl (oH hw 75 rfl)) (oH hw 55 rfl) (ty := .int) (by decide) rfl rfl (g := (mkF m 132 #[.val (.ref p0), .val (.ref x0), .val (.long 0), .second, .val (.int 1)] [(.int 2), (.ref p0)])) rfl rfl (hb hby d15_132)
        have c34_Ep0 := c32_Ep0.wr W34
        have c34_Fp0_found := c32_Fp0_found.other W34 (Or.inr (slot_ne (Or.inl (oH hw 64 rfl)) (Or.inl (oH hw 75 rfl)) (by decide) (by decide : parseFieldDescriptor "[Lcom/example/otaniemi/otaniemi/State;" = some (.array (.object "com/example/otaniemi/otaniemi/State"))) (by decide : parseFieldDescriptor "I" = some .int)))
        have c34_Fp0_foundCount := c32_Fp0_foundCount.same W34
        have c34_Fp0_passed := c32_Fp0_passed.other W34 (Or.inr (slot_ne (Or.inl (oH hw 125 rfl)) (Or.inl (oH hw 75 rfl)) (by decide) (by decide : parseFieldDescriptor "Lcom/example/otaniemi/otaniemi/Pending$Passed;" = some (.object "com/example/otaniemi/otaniemi/Pending$Passed")) (by decide : parseFieldDescriptor "I" = some .int)))
        have c34_Fp0_values := c32_Fp0_values.other W34 (Or.inr (slot_ne (Or.inl (oH hw 123 rfl)) (Or.inl (oH hw 75 rfl)) (by decide) (by decide : parseFieldDescriptor "[J" = some (.array .long)) (by decide : parseFieldDescriptor "I" = some .int)))
        have c34_Ux0 := c32_Ux0.kp (own_Kp.wr W34 g_p0)
        have c34_Uy0 := c32_Uy0.kp (own_Kp.wr W34 g_p0)
        have c34_Vfa := Vf32.other W34 (Ne.symm npf)
        have c34_Vva := Vv32.other W34 (Ne.symm npv)
        have K34 := Kt32.wr W34 (Or.inl (List.mem_of_getElem? (i := 0) rfl))
        have N34 := Fr.snoc X34 N32 g_p0
        have Z34 : n0 ≤ h34.size := Nat.le_trans Z32 (Nat.le_of_eq W34.size.symm)
        refine own_go (S' := (T34.setTop (mkF m 135 #[.val (.ref p0), .val (.ref x0), .val (.long 0), .second, .val (.int 1)] []))) st34 ?_
        refine own_ret0 X34 hx hlk Bd.returns (hb hby d15_135) (by decide) (by decide) ?_
        rw [e34]
        exact ⟨rfl, N34, own_Kp.keep K34 (own_gS g_p0 (own_gS g_fa (own_gS g_va own_g0))), Or.inr ⟨fa, kf, ⟨g_p0, g_fa, c34_Ep0, c34_Fp0_found, c34_Fp0_foundCount, c34_Fp0_passed, c34_Vfa, O_fa⟩, Or.inr ⟨va, kv, _, _, ⟨g_va, nfv, c34_Fp0_values, c34_Vva⟩, own_okAB q, Or.inl ⟨rfl, rfl⟩⟩⟩⟩
  · rcases hm with ⟨HN, rfl⟩ | ⟨va, kv, v0, v1, HV, q⟩
    · obtain ⟨g_p0, g_fa, E_p0, F_p0_found, F_p0_foundCount, F_p0_passed, V_fa, O_fa⟩ := HC
      have F_p0_values := HN
      unfold own_Vn at F_p0_values
      have npf := E_p0.neArv V_fa (oH hw 55 rfl)
      have K0 := Keep.refl h0 [p0, fa]
      refine own_go (S' := (s₁.setTop (mkF m 7 #[.val (.ref p0), .val (.ref x0), .val (.long 1), .second, .unset] [(.ref p0)]))) (fun _ kont => XS.lloadN X0.here hx rfl (hb hby d15_0) rfl (XS.lconst X0.here hx rfl (hb hby d15_1) (XS.lcmp X0.here hx rfl (hb hby d15_2) rfl (XS.ifNo X0.here hx rfl (hb hby d15_3) rfl ((if0 _ _).trans (feq (own_lne (by decide))).1) (XS.aloadN X0.here hx rfl (hb hby d15_6) rfl rfl kont))))) ?_
      obtain ⟨cq39, qp39, qp39'⟩ := E_p0.cell
      obtain ⟨v39, _, ⟨T39, L39, k39, n39⟩, -, X39, ⟨Lc39, hQ39, l39, y39, z39⟩, st39⟩ := X0.privateBack hx (y := (⟨"com/example/otaniemi/otaniemi/Pending", "keepValues", "()V"⟩ : MethodName)) hown (mvT hZ (oH hw 127 rfl)) (mvT hZ (oH hw 128 rfl)) (own_selP (args := #[]) (mvT hZ (oH hw 55 rfl)) (mvP hZ (oH hw 129 rfl)) (mvT hZ (oH hw 128 rfl)) (by decide)) (Cond.privateMethod_at (mvP hZ (oH hw 129 rfl) (args := #[]))) (mvT hZ (oH hw 130 rfl)) (by decide) (backOf (W := 0) (rmKvN l Z a0 hw [] p0 fa kf (1 : Int32) (.ref y0) f1 h0 n0 Z0 E_p0 F_p0_found F_p0_foundCount F_p0_passed F_p0_values g_p0 g_fa V_fa O_fa) hZ (oH hw 130 rfl) (oH hw 56 rfl) (by decide) (by decide)) (g := (mkF m 7 #[.val (.ref p0), .val (.ref x0), .val (.long 1), .second, .unset] [(.ref p0)])) rfl (by rw [hml]; rfl) (Steps.refl _) (a := p0) (by rw [e0]; exact qp39) qp39' (argsL := []) (rest := []) (lenOf pd_48 rfl) rfl (by show 2 * 0 + _ ≤ _; exact Nat.le_of_eq rfl) (hb hby d15_7) (fun _ _ => ⟨rfl, e0, (by decide : 0 + 1 ≤ _), (by decide : 0 + 4 ≤ _)⟩)
      dsimp only [Pt.U, Pt.locs, Pt.cells, Pt.slots] at X39 l39 y39 z39 st39 hQ39
      subst l39 y39 z39
      obtain ⟨va, kv, rfl, sz_va, Nq39, Kc39, Fa39, Fb39, Fc39, Fd39, Vv39⟩ := hQ39
      have Kt39 := K0.trans Kc39 (fun x hx => by simp only [List.mem_cons, List.mem_singleton, List.not_mem_nil, or_false] at hx; rcases hx with rfl <;> first | (left; simp; done) | (right; assumption))
      have N39 := Fr.app N0 Nq39
      have Z39 : n0 ≤ T39.heap.size := Nat.le_trans Z0 Kc39.1
      have c39_Ep0 := E_p0.keep Kc39
      have c39_Vfa := V_fa.keep Kc39 (ninS (Ne.symm npf) nin0)
      have c39_Ux0 := U_x0.kp (own_Kp.keep Kc39 (own_gS g_p0 own_g0))
      have c39_Uy0 := U_y0.kp (own_Kp.keep Kc39 (own_gS g_p0 own_g0))
      refine own_goT (S' := (T39.setTop (mkF m 10 #[.val (.ref p0), .val (.ref x0), .val (.long 1), .second, .unset] []))) st39 ?_
      have g_va : n0 ≤ va := Nat.le_trans Z0 sz_va
      have nfv : fa ≠ va := Nat.ne_of_lt (Nat.lt_of_lt_of_le V_fa.lt sz_va)
      have npv : p0 ≠ va := Nat.ne_of_lt (Nat.lt_of_lt_of_le E_p0.lt sz_va)
      refine own_go (S' := (T39.setTop (mkF m 12 #[.val (.ref p0), .val (.ref x0), .val (.long 1), .second, .unset] [(.ref x0), (.ref p0)]))) (fun _ kont => XS.aloadN X39.here hx rfl (hb hby d15_10) rfl rfl (XS.aloadN X39.here hx rfl (hb hby d15_11) rfl rfl kont)) ?_
      obtain ⟨cq40, qp40, qp40'⟩ := c39_Ep0.cell
      obtain ⟨v40, _, ⟨T40, L40, k40, n40⟩, -, X40, ⟨Lc40, hQ40, l40, y40, z40⟩, st40⟩ := X39.privateBack hx (y := (⟨"com/example/otaniemi/otaniemi/Pending", "indexOf", "(Lcom/example/otaniemi/otaniemi/State;)I"⟩ : MethodName)) hown (mvT hZ (oH hw 113 rfl)) (mvT hZ (oH hw 114 rfl)) (own_selP (args := #[]) (mvT hZ (oH hw 55 rfl)) (mvP hZ (oH hw 115 rfl)) (mvT hZ (oH hw 114 rfl)) (by decide)) (Cond.privateMethod_at (mvP hZ (oH hw 115 rfl) (args := #[]))) (mvT hZ (oH hw 116 rfl)) (by decide) (backOf (W := 0) (rmIxd l Z a0 hw [] p0 fa x0 y0 kf f1 T39.heap n0 Z39 c39_Ep0 Fa39 Fb39 c39_Vfa hne) hZ (oH hw 116 rfl) (oH hw 56 rfl) (by decide) (by decide)) (g := (mkF m 12 #[.val (.ref p0), .val (.ref x0), .val (.long 1), .second, .unset] [(.ref x0), (.ref p0)])) rfl (by rw [hml]; rfl) (Steps.refl _) (a := p0) qp40 qp40' (argsL := [(.ref x0)]) (rest := []) (lenOf pd_255 rfl) rfl (by show 2 * 0 + _ ≤ _; exact Nat.le_of_eq rfl) (hb hby d15_12) (fun _ _ => ⟨rfl, rfl, (by decide : 1 + 0 ≤ _), (by decide : 4 + 0 ≤ _)⟩)
      dsimp only [Pt.U, Pt.locs, Pt.cells, Pt.slots] at X40 l40 y40 z40 st40 hQ40
      subst l40 y40 z40
      obtain ⟨rfl, eh40, rfl⟩ := hQ40
      have N40 := Fr.app N39 (Fr.nil n0)
      refine own_goT (S' := (T40.setTop (mkF m 15 #[.val (.ref p0), .val (.ref x0), .val (.long 1), .second, .unset] [(.int (-1 : Int32))]))) st40 ?_
      refine own_go (S' := (T40.setTop (mkF m 49 #[.val (.ref p0), .val (.ref x0), .val (.long 1), .second, .val (.int (-1 : Int32))] [(.ref p0)]))) (fun _ kont => XS.istore X40.here hx rfl (hb hby d15_15) rfl (l' := #[.val (.ref p0), .val (.ref x0), .val (.long 1), .second, .val (.int (-1 : Int32))]) rfl (XS.iload X40.here hx rfl (hb hby d15_17) rfl (XS.ifYes X40.here hx rfl (pc0 := 19) (pc' := 48) rfl (hb hby d15_19) rfl ((if0 _ _).trans (tlt (by decide)).1) (by decide) (by decide) (XS.aloadN X40.here hx rfl (hb hby d15_48) rfl rfl kont)))) ?_
      obtain ⟨T41, X41, e41, st41⟩ := getF X40 hx hZ hown (host := "") (Or.inl (oH hw 74 rfl)) Via.refl eh40 Fb39 (g := (mkF m 49 #[.val (.ref p0), .val (.ref x0), .val (.long 1), .second, .val (.int (-1 : Int32))] [(.ref p0)])) rfl rfl (hb hby d15_49)
      refine own_go (S' := (T41.setTop (mkF m 52 #[.val (.ref p0), .val (.ref x0), .val (.long 1), .second, .val (.int (-1 : Int32))] [(.int 1)]))) st41 ?_
      refine own_go (S' := (T41.setTop (mkF m 53 #[.val (.ref p0), .val (.ref x0), .val (.long 1), .second, .val (.int (-1 : Int32))] [(.ref p0), (.int 1)]))) (fun _ kont => XS.aloadN X41.here hx rfl (hb hby d15_52) rfl rfl kont) ?_
      obtain ⟨T42, X42, e42, st42⟩ := getF X41 hx hZ hown (host := "") (Or.inl (oH hw 63 rfl)) Via.refl e41 Fa39 (g := (mkF m 53 #[.val (.ref p0), .val (.ref x0), .val (.long 1), .second, .val (.int (-1 : Int32))] [(.ref p0), (.int 1)])) rfl rfl (hb hby d15_53)
      refine own_go (S' := (T42.setTop (mkF m 56 #[.val (.ref p0), .val (.ref x0), .val (.long 1), .second, .val (.int (-1 : Int32))] [(.ref fa), (.int 1)]))) st42 ?_
      obtain ⟨cl43, Ar43, -, S43, M43, -, -⟩ := id c39_Vfa
      have ql43 := len_of S43 M43
      refine own_go (S' := (T42.setTop (mkF m 57 #[.val (.ref p0), .val (.ref x0), .val (.long 1), .second, .val (.int (-1 : Int32))] [(.int 4), (.int 1)]))) (fun _ kont => X42.arraylength hx (by rw [e42]; exact Ar43.1) (State.isArrayOf_alike hZ.alike Ar43.2.1) (g := (mkF m 56 #[.val (.ref p0), .val (.ref x0), .val (.long 1), .second, .val (.int (-1 : Int32))] [(.ref fa), (.int 1)])) rfl rfl (hb hby d15_56) _ (by rw [ql43]; exact kont)) ?_
      refine own_go (S' := (T42.setTop (mkF m 71 #[.val (.ref p0), .val (.ref x0), .val (.long 1), .second, .val (.int (-1 : Int32))] [(.ref p0)]))) (fun _ kont => XS.icmpYes X42.here hx rfl (pc0 := 57) (pc' := 70) rfl (hb hby d15_57) rfl (feq (by decide)).2 (by decide) (by decide) (XS.aloadN X42.here hx rfl (hb hby d15_70) rfl rfl kont)) ?_
      obtain ⟨T44, X44, e44, st44⟩ := getF X42 hx hZ hown (host := "") (Or.inl (oH hw 74 rfl)) Via.refl e42 Fb39 (g := (mkF m 71 #[.val (.ref p0), .val (.ref x0), .val (.long 1), .second, .val (.int (-1 : Int32))] [(.ref p0)])) rfl rfl (hb hby d15_71)
      refine own_go (S' := (T44.setTop (mkF m 74 #[.val (.ref p0), .val (.ref x0), .val (.long 1), .second, .val (.int (-1 : Int32))] [(.int 1)]))) st44 ?_
      refine own_go (S' := (T44.setTop (mkF m 82 #[.val (.ref p0), .val (.ref x0), .val (.long 1), .second, .val (.int 1)] [(.ref p0)]))) (fun _ kont => XS.istore X44.here hx rfl (hb hby d15_74) rfl (l' := #[.val (.ref p0), .val (.ref x0), .val (.long 1), .second, .val (.int 1)]) rfl (XS.iload X44.here hx rfl (hb hby d15_76) rfl (XS.ifNo X44.here hx rfl (hb hby d15_78) rfl ((if0 _ _).trans (tlt (by decide)).2.2.2) (XS.aloadN X44.here hx rfl (hb hby d15_81) rfl rfl kont)))) ?_
      obtain ⟨T45, X45, e45, st45⟩ := getF X44 hx hZ hown (host := "") (Or.inl (oH hw 63 rfl)) Via.refl e44 Fa39 (g := (mkF m 82 #[.val (.ref p0), .val (.ref x0), .val (.long 1), .second, .val (.int 1)] [(.ref p0)])) rfl rfl (hb hby d15_82)
      refine own_go (S' := (T45.setTop (mkF m 85 #[.val (.ref p0), .val (.ref x0), .val (.long 1), .second, .val (.int 1)] [(.ref fa)]))) st45 ?_
      refine own_go (S' := (T45.setTop (mkF m 89 #[.val (.ref p0), .val (.ref x0), .val (.long 1), .second, .val (.int 1)] [(.int ((1 : Int32) - (1 : Int32))), (.ref fa)]))) (fun _ kont => XS.iload X45.here hx rfl (hb hby d15_85) rfl (XS.iconst X45.here hx rfl (hb hby d15_87) (XS.isub X45.here hx rfl (hb hby d15_88) rfl kont))) ?_
      rw [show ((1 : Int32) - (1 : Int32)) = (0 : Int32) from by decide]
      obtain ⟨cl46, Ar46, -, S46, -, H46, -⟩ := id c39_Vfa
      have hin46 := inb_of (j := (0 : Int32)) S46 ⟨by decide, by decide⟩
      have hat46 := Has.at (v := (.ref y0)) H46 hin46 (by first | rfl | decide)
      refine own_go (S' := (T45.setTop (mkF m 90 #[.val (.ref p0), .val (.ref x0), .val (.long 1), .second, .val (.int 1)] [(.ref y0)]))) (fun _ kont => X45.aaload hx (j := (0 : Int32)) (v := (.ref y0)) (by rw [e45]; exact Ar46.1) (State.isArrayOf_alike hZ.alike Ar46.2.1) rfl Ar46.2.2 hin46 hat46 (g := (mkF m 89 #[.val (.ref p0), .val (.ref x0), .val (.long 1), .second, .val (.int 1)] [(.int 0), (.ref fa)])) rfl rfl (hb hby d15_89) _ kont) ?_
      obtain ⟨lx47, Ex47, Fn47, Fd47, Fi47, pp47, lp47, Fp47, Ep47, Fc47⟩ := id c39_Uy0
      obtain ⟨T48, X48, e48, st48⟩ := getF X45 hx hZ hown (host := "") (Or.inl (oH hw 126 rfl)) Via.refl e45 Fn47 (g := (mkF m 90 #[.val (.ref p0), .val (.ref x0), .val (.long 1), .second, .val (.int 1)] [(.ref y0)])) rfl rfl (hb hby d15_90)
      refine own_go (S' := (T48.setTop (mkF m 93 #[.val (.ref p0), .val (.ref x0), .val (.long 1), .second, .val (.int 1)] [(.int ny0)]))) st48 ?_
      refine own_go (S' := (T48.setTop (mkF m 94 #[.val (.ref p0), .val (.ref x0), .val (.long 1), .second, .val (.int 1)] [(.ref x0), (.int ny0)]))) (fun _ kont => XS.aloadN X48.here hx rfl (hb hby d15_93) rfl rfl kont) ?_
      obtain ⟨lx49, Ex49, Fn49, Fd49, Fi49, pp49, lp49, Fp49, Ep49, Fc49⟩ := id c39_Ux0
      obtain ⟨T50, X50, e50, st50⟩ := getF X48 hx hZ hown (host := "") (Or.inl (oH hw 126 rfl)) Via.refl e48 Fn49 (g := (mkF m 94 #[.val (.ref p0), .val (.ref x0), .val (.long 1), .second, .val (.int 1)] [(.ref x0), (.int ny0)])) rfl rfl (hb hby d15_94)
      refine own_go (S' := (T50.setTop (mkF m 97 #[.val (.ref p0), .val (.ref x0), .val (.long 1), .second, .val (.int 1)] [(.int nx0), (.int ny0)]))) st50 ?_
      by_cases b97_51 : nx0 < ny0
      · refine own_go (S' := (T50.setTop (mkF m 105 #[.val (.ref p0), .val (.ref x0), .val (.long 1), .second, .val (.int 1)] [(.int ((1 : Int32) - (1 : Int32))), (.ref p0)]))) (fun _ kont => XS.icmpNo X50.here hx rfl (hb hby d15_97) rfl (tlt b97_51).2.2.2 (XS.aloadN X50.here hx rfl (hb hby d15_100) rfl rfl (XS.iload X50.here hx rfl (hb hby d15_101) rfl (XS.iconst X50.here hx rfl (hb hby d15_103) (XS.isub X50.here hx rfl (hb hby d15_104) rfl kont))))) ?_
        rw [show ((1 : Int32) - (1 : Int32)) = (0 : Int32) from by decide]
        refine own_go (S' := (T50.setTop (mkF m 107 #[.val (.ref p0), .val (.ref x0), .val (.long 1), .second, .val (.int 1)] [(.int 1), (.int 0), (.ref p0)]))) (fun _ kont => XS.iload X50.here hx rfl (hb hby d15_105) rfl kont) ?_
        obtain ⟨cq55, qp55, qp55'⟩ := c39_Ep0.cell
        obtain ⟨v55, _, ⟨T55, L55, k55, n55⟩, -, X55, ⟨Lc55, hQ55, l55, y55, z55⟩, st55⟩ := X50.privateBack hx (y := (⟨"com/example/otaniemi/otaniemi/Pending", "move", "(II)V"⟩ : MethodName)) hown (mvT hZ (oH hw 150 rfl)) (mvT hZ (oH hw 151 rfl)) (own_selP (args := #[]) (mvT hZ (oH hw 55 rfl)) (mvP hZ (oH hw 152 rfl)) (mvT hZ (oH hw 151 rfl)) (by decide)) (Cond.privateMethod_at (mvP hZ (oH hw 152 rfl) (args := #[]))) (mvT hZ (oH hw 153 rfl)) (by decide) (backOf (W := 0) (rmMv01A l Z a0 hw [] p0 fa kf (1 : Int32) f1 va kv (0 : Int64) (0 : Int64) y0 T39.heap n0 Z39 c39_Ep0 Fa39 Fb39 Fc39 Fd39 g_p0 g_fa c39_Vfa O_fa g_va nfv Vv39 c39_Uy0.2.1) hZ (oH hw 153 rfl) (oH hw 56 rfl) (by decide) (by decide)) (g := (mkF m 107 #[.val (.ref p0), .val (.ref x0), .val (.long 1), .second, .val (.int 1)] [(.int 1), (.int 0), (.ref p0)])) rfl (by rw [hml]; rfl) (Steps.refl _) (a := p0) (by rw [e50]; exact qp55) qp55' (argsL := [(.int 0), (.int 1)]) (rest := []) (lenOf pd_318 rfl) rfl (by show 2 * 0 + _ ≤ _; exact Nat.le_of_eq rfl) (hb hby d15_107) (fun _ _ => ⟨rfl, e50, (by decide : 1 + 0 ≤ _), (by decide : 4 + 0 ≤ _)⟩)
        dsimp only [Pt.U, Pt.locs, Pt.cells, Pt.slots] at X55 l55 y55 z55 st55 hQ55
        subst l55 y55 z55
        obtain ⟨rfl, Nq55, Kc55, Vf55, Vv55⟩ := hQ55
        have Kt55 := Kt39.trans Kc55 (fun x hx => by simp only [List.mem_cons, List.mem_singleton, List.not_mem_nil, or_false] at hx; rcases hx with rfl | rfl <;> first | (left; simp; done) | (right; assumption))
        have N55 := Fr.app N40 Nq55
        have Z55 : n0 ≤ T55.heap.size := Nat.le_trans Z39 Kc55.1
        have c55_Ep0 := c39_Ep0.keep Kc55
        have c55_Ux0 := c39_Ux0.kp (own_Kp.keep Kc55 (own_gS g_fa (own_gS g_va own_g0)))
        have c55_Uy0 := c39_Uy0.kp (own_Kp.keep Kc55 (own_gS g_fa (own_gS g_va own_g0)))
        have c55_Fp0_found := Fa39.keep Kc55 (ninS npf (ninS npv nin0))
        have c55_Fp0_foundCount := Fb39.keep Kc55 (ninS npf (ninS npv nin0))
        have c55_Fp0_passed := Fc39.keep Kc55 (ninS npf (ninS npv nin0))
        have c55_Fp0_values := Fd39.keep Kc55 (ninS npf (ninS npv nin0))
        refine own_goT (S' := (T55.setTop (mkF m 110 #[.val (.ref p0), .val (.ref x0), .val (.long 1), .second, .val (.int 1)] []))) st55 ?_
        refine own_go (S' := (T55.setTop (mkF m 113 #[.val (.ref p0), .val (.ref x0), .val (.long 1), .second, .val (.int ((1 : Int32) + (-1 : Int32)))] []))) (fun _ kont => XS.iinc X55.here hx rfl (hb hby d15_110) rfl (l' := #[.val (.ref p0), .val (.ref x0), .val (.long 1), .second, .val (.int ((1 : Int32) + (-1 : Int32)))]) rfl kont) ?_
        rw [show ((1 : Int32) + (-1 : Int32)) = (0 : Int32) from by decide]
        refine own_go (S' := (T55.setTop (mkF m 122 #[.val (.ref p0), .val (.ref x0), .val (.long 1), .second, .val (.int 0)] [(.long 0), (.long 1), (.ref x0), (.int 0), (.ref p0)]))) (fun _ kont => XS.goto X55.here hx rfl (pc0 := 113) (pc' := 76) rfl (hb hby d15_113) (by decide) (by decide) (XS.iload X55.here hx rfl (hb hby d15_76) rfl (XS.ifYes X55.here hx rfl (pc0 := 78) (pc' := 116) rfl (hb hby d15_78) rfl ((if0 _ _).trans (flt (by decide)).2.2.2) (by decide) (by decide) (XS.aloadN X55.here hx rfl (hb hby d15_116) rfl rfl (XS.iload X55.here hx rfl (hb hby d15_117) rfl (XS.aloadN X55.here hx rfl (hb hby d15_119) rfl rfl (XS.lloadN X55.here hx rfl (hb hby d15_120) rfl (XS.lconst X55.here hx rfl (hb hby d15_121) kont)))))))) ?_
        obtain ⟨cq56, qp56, qp56'⟩ := c55_Ep0.cell
        obtain ⟨v56, _, ⟨T56, L56, k56, n56⟩, -, X56, ⟨Lc56, hQ56, l56, y56, z56⟩, st56⟩ := X55.privateBack hx (y := (⟨"com/example/otaniemi/otaniemi/Pending", "put", "(ILcom/example/otaniemi/otaniemi/State;JJ)V"⟩ : MethodName)) hown (mvT hZ (oH hw 117 rfl)) (mvT hZ (oH hw 118 rfl)) (own_selP (args := #[]) (mvT hZ (oH hw 55 rfl)) (mvP hZ (oH hw 119 rfl)) (mvT hZ (oH hw 118 rfl)) (by decide)) (Cond.privateMethod_at (mvP hZ (oH hw 119 rfl) (args := #[]))) (mvT hZ (oH hw 120 rfl)) (by decide) (backOf (W := 0) (rmPu0A l Z a0 hw [] p0 fa kf (1 : Int32) (.ref y0) (.ref y0) va kv (0 : Int64) (0 : Int64) x0 (1 : Int64) (0 : Int64) T55.heap n0 Z55 c55_Ep0 c55_Fp0_found c55_Fp0_foundCount c55_Fp0_passed c55_Fp0_values g_p0 g_fa Vf55 O_fa g_va nfv Vv55 c55_Ux0.2.1) hZ (oH hw 120 rfl) (oH hw 56 rfl) (by decide) (by decide)) (g := (mkF m 122 #[.val (.ref p0), .val (.ref x0), .val (.long 1), .second, .val (.int 0)] [(.long 0), (.long 1), (.ref x0), (.int 0), (.ref p0)])) rfl (by rw [hml]; rfl) (Steps.refl _) (a := p0) qp56 qp56' (argsL := [(.int 0), (.ref x0), (.long 1), (.long 0)]) (rest := []) (lenOf pd_235 rfl) rfl (by show 2 * 0 + _ ≤ _; exact Nat.le_of_eq rfl) (hb hby d15_122) (fun _ _ => ⟨rfl, rfl, (by decide : 1 + 0 ≤ _), (by decide : 4 + 0 ≤ _)⟩)
        dsimp only [Pt.U, Pt.locs, Pt.cells, Pt.slots] at X56 l56 y56 z56 st56 hQ56
        subst l56 y56 z56
        obtain ⟨rfl, Nq56, Kc56, Vf56, Vv56⟩ := hQ56
        have Kt56 := Kt55.trans Kc56 (fun x hx => by simp only [List.mem_cons, List.mem_singleton, List.not_mem_nil, or_false] at hx; rcases hx with rfl | rfl <;> first | (left; simp; done) | (right; assumption))
        have N56 := Fr.app N55 Nq56
        have Z56 : n0 ≤ T56.heap.size := Nat.le_trans Z55 Kc56.1
        have c56_Ep0 := c55_Ep0.keep Kc56
        have c56_Ux0 := c55_Ux0.kp (own_Kp.keep Kc56 (own_gS g_fa (own_gS g_va own_g0)))
        have c56_Uy0 := c55_Uy0.kp (own_Kp.keep Kc56 (own_gS g_fa (own_gS g_va own_g0)))
        have c56_Fp0_found := c55_Fp0_found.keep Kc56 (ninS npf (ninS npv nin0))
        have c56_Fp0_foundCount := c55_Fp0_foundCount.keep Kc56 (ninS npf (ninS npv nin0))
        have c56_Fp0_passed := c55_Fp0_passed.keep Kc56 (ninS npf (ninS npv nin0))
        have c56_Fp0_values := c55_Fp0_values.keep Kc56 (ninS npf (ninS npv nin0))
        refine own_goT (S' := (T56.setTop (mkF m 125 #[.val (.ref p0), .val (.ref x0), .val (.long 1), .second, .val (.int 0)] []))) st56 ?_
        refine own_go (S' := (T56.setTop (mkF m 127 #[.val (.ref p0), .val (.ref x0), .val (.long 1), .second, .val (.int 0)] [(.ref p0), (.ref p0)]))) (fun _ kont => XS.aloadN X56.here hx rfl (hb hby d15_125) rfl rfl (XS.dup X56.here hx rfl (hb hby d15_126) rfl rfl kont)) ?_
        obtain ⟨T57, X57, e57, st57⟩ := getF X56 hx hZ hown (host := "") (Or.inl (oH hw 74 rfl)) Via.refl rfl c56_Fp0_foundCount (g := (mkF m 127 #[.val (.ref p0), .val (.ref x0), .val (.long 1), .second, .val (.int 0)] [(.ref p0), (.ref p0)])) rfl rfl (hb hby d15_127)
        refine own_go (S' := (T57.setTop (mkF m 130 #[.val (.ref p0), .val (.ref x0), .val (.long 1), .second, .val (.int 0)] [(.int 1), (.ref p0)]))) st57 ?_
        refine own_go (S' := (T57.setTop (mkF m 132 #[.val (.ref p0), .val (.ref x0), .val (.long 1), .second, .val (.int 0)] [(.int ((1 : Int32) + (1 : Int32))), (.ref p0)]))) (fun _ kont => XS.iconst X57.here hx rfl (hb hby d15_130) (XS.iadd X57.here hx rfl (hb hby d15_131) rfl kont)) ?_
        rw [show ((1 : Int32) + (1 : Int32)) = (2 : Int32) from by decide]
        obtain ⟨T58, h58, X58, e58, W58, st58⟩ := putF X57 hx hZ hown (host := "") (Or.inl (oH hw 74 rfl)) Via.refl e57 c56_Fp0_foundCount c56_Ep0 (Or.inl (oH hw 75 rfl)) (oH hw 55 rfl) (ty := .int) (by decide) rfl rfl (g := (mkF m 132 #[.val (.ref p0), .val (.ref x0), .val (.long 1), .second, .val (.int 0)] [(.int 2), (.ref p0)])) rfl rfl (hb hby d15_132)
        have c58_Ep0 := c56_Ep0.wr W58
        have c58_Ux0 := c56_Ux0.kp (own_Kp.wr W58 g_p0)
        have c58_Uy0 := c56_Uy0.kp (own_Kp.wr W58 g_p0)
        have c58_Fp0_found := c56_Fp0_found.other W58 (Or.inr (slot_ne (Or.inl (oH hw 64 rfl)) (Or.inl (oH hw 75 rfl)) (by decide) (by decide : parseFieldDescriptor "[Lcom/example/otaniemi/otaniemi/State;" = some (.array (.object "com/example/otaniemi/otaniemi/State"))) (by decide : parseFieldDescriptor "I" = some .int)))
        have c58_Fp0_foundCount := c56_Fp0_foundCount.same W58
        have c58_Fp0_passed := c56_Fp0_passed.other W58 (Or.inr (slot_ne (Or.inl (oH hw 125 rfl)) (Or.inl (oH hw 75 rfl)) (by decide) (by decide : parseFieldDescriptor "Lcom/example/otaniemi/otaniemi/Pending$Passed;" = some (.object "com/example/otaniemi/otaniemi/Pending$Passed")) (by decide : parseFieldDescriptor "I" = some .int)))
        have c58_Fp0_values := c56_Fp0_values.other W58 (Or.inr (slot_ne (Or.inl (oH hw 123 rfl)) (Or.inl (oH hw 75 rfl)) (by decide) (by decide : parseFieldDescriptor "[J" = some (.array .long)) (by decide : parseFieldDescriptor "I" = some .int)))
        have c58_Vfa := Vf56.other W58 (Ne.symm npf)
        have c58_Vva := Vv56.other W58 (Ne.symm npv)
        have K58 := Kt56.wr W58 (Or.inl (List.mem_of_getElem? (i := 0) rfl))
        have N58 := Fr.snoc X58 N56 g_p0
        have Z58 : n0 ≤ h58.size := Nat.le_trans Z56 (Nat.le_of_eq W58.size.symm)
        refine own_go (S' := (T58.setTop (mkF m 135 #[.val (.ref p0), .val (.ref x0), .val (.long 1), .second, .val (.int 0)] []))) st58 ?_
        refine own_ret0 X58 hx hlk Bd.returns (hb hby d15_135) (by decide) (by decide) ?_
        rw [e58]
        exact ⟨rfl, N58, own_Kp.keep K58 (own_gS g_p0 (own_gS g_fa own_g0)), Or.inl ⟨fa, kf, ⟨g_p0, g_fa, c58_Ep0, c58_Fp0_found, c58_Fp0_foundCount, c58_Fp0_passed, c58_Vfa, O_fa⟩, Or.inr ⟨va, kv, _, _, ⟨g_va, nfv, c58_Fp0_values, c58_Vva⟩, Or.inr ⟨Or.inl rfl, rfl⟩, Or.inl ⟨rfl, rfl⟩⟩⟩⟩
      · refine own_go (S' := (T50.setTop (mkF m 122 #[.val (.ref p0), .val (.ref x0), .val (.long 1), .second, .val (.int 1)] [(.long 0), (.long 1), (.ref x0), (.int 1), (.ref p0)]))) (fun _ kont => XS.icmpYes X50.here hx rfl (pc0 := 97) (pc' := 116) rfl (hb hby d15_97) rfl (flt b97_51).2.2.2 (by decide) (by decide) (XS.aloadN X50.here hx rfl (hb hby d15_116) rfl rfl (XS.iload X50.here hx rfl (hb hby d15_117) rfl (XS.aloadN X50.here hx rfl (hb hby d15_119) rfl rfl (XS.lloadN X50.here hx rfl (hb hby d15_120) rfl (XS.lconst X50.here hx rfl (hb hby d15_121) kont)))))) ?_
        obtain ⟨cq52, qp52, qp52'⟩ := c39_Ep0.cell
        obtain ⟨v52, _, ⟨T52, L52, k52, n52⟩, -, X52, ⟨Lc52, hQ52, l52, y52, z52⟩, st52⟩ := X50.privateBack hx (y := (⟨"com/example/otaniemi/otaniemi/Pending", "put", "(ILcom/example/otaniemi/otaniemi/State;JJ)V"⟩ : MethodName)) hown (mvT hZ (oH hw 117 rfl)) (mvT hZ (oH hw 118 rfl)) (own_selP (args := #[]) (mvT hZ (oH hw 55 rfl)) (mvP hZ (oH hw 119 rfl)) (mvT hZ (oH hw 118 rfl)) (by decide)) (Cond.privateMethod_at (mvP hZ (oH hw 119 rfl) (args := #[]))) (mvT hZ (oH hw 120 rfl)) (by decide) (backOf (W := 0) (rmPu1A l Z a0 hw [] p0 fa kf (1 : Int32) (.ref y0) f1 va kv (0 : Int64) (0 : Int64) x0 (1 : Int64) (0 : Int64) T39.heap n0 Z39 c39_Ep0 Fa39 Fb39 Fc39 Fd39 g_p0 g_fa c39_Vfa O_fa g_va nfv Vv39 c39_Ux0.2.1) hZ (oH hw 120 rfl) (oH hw 56 rfl) (by decide) (by decide)) (g := (mkF m 122 #[.val (.ref p0), .val (.ref x0), .val (.long 1), .second, .val (.int 1)] [(.long 0), (.long 1), (.ref x0), (.int 1), (.ref p0)])) rfl (by rw [hml]; rfl) (Steps.refl _) (a := p0) (by rw [e50]; exact qp52) qp52' (argsL := [(.int 1), (.ref x0), (.long 1), (.long 0)]) (rest := []) (lenOf pd_235 rfl) rfl (by show 2 * 0 + _ ≤ _; exact Nat.le_of_eq rfl) (hb hby d15_122) (fun _ _ => ⟨rfl, e50, (by decide : 1 + 0 ≤ _), (by decide : 4 + 0 ≤ _)⟩)
        dsimp only [Pt.U, Pt.locs, Pt.cells, Pt.slots] at X52 l52 y52 z52 st52 hQ52
        subst l52 y52 z52
        obtain ⟨rfl, Nq52, Kc52, Vf52, Vv52⟩ := hQ52
        have Kt52 := Kt39.trans Kc52 (fun x hx => by simp only [List.mem_cons, List.mem_singleton, List.not_mem_nil, or_false] at hx; rcases hx with rfl | rfl <;> first | (left; simp; done) | (right; assumption))
        have N52 := Fr.app N40 Nq52
        have Z52 : n0 ≤ T52.heap.size := Nat.le_trans Z39 Kc52.1
        have c52_Ep0 := c39_Ep0.keep Kc52
        have c52_Ux0 := c39_Ux0.kp (own_Kp.keep Kc52 (own_gS g_fa (own_gS g_va own_g0)))
        have c52_Uy0 := c39_Uy0.kp (own_Kp.keep Kc52 (own_gS g_fa (own_gS g_va own_g0)))
        have c52_Fp0_found := Fa39.keep Kc52 (ninS npf (ninS npv nin0))
        have c52_Fp0_foundCount := Fb39.keep Kc52 (ninS npf (ninS npv nin0))
        have c52_Fp0_passed := Fc39.keep Kc52 (ninS npf (ninS npv nin0))
        have c52_Fp0_values := Fd39.keep Kc52 (ninS npf (ninS npv nin0))
        refine own_goT (S' := (T52.setTop (mkF m 125 #[.val (.ref p0), .val (.ref x0), .val (.long 1), .second, .val (.int 1)] []))) st52 ?_
        refine own_go (S' := (T52.setTop (mkF m 127 #[.val (.ref p0), .val (.ref x0), .val (.long 1), .second, .val (.int 1)] [(.ref p0), (.ref p0)]))) (fun _ kont => XS.aloadN X52.here hx rfl (hb hby d15_125) rfl rfl (XS.dup X52.here hx rfl (hb hby d15_126) rfl rfl kont)) ?_
        obtain ⟨T53, X53, e53, st53⟩ := getF X52 hx hZ hown (host := "") (Or.inl (oH hw 74 rfl)) Via.refl rfl c52_Fp0_foundCount (g := (mkF m 127 #[.val (.ref p0), .val (.ref x0), .val (.long 1), .second, .val (.int 1)] [(.ref p0), (.ref p0)])) rfl rfl (hb hby d15_127)
        refine own_go (S' := (T53.setTop (mkF m 130 #[.val (.ref p0), .val (.ref x0), .val (.long 1), .second, .val (.int 1)] [(.int 1), (.ref p0)]))) st53 ?_
        refine own_go (S' := (T53.setTop (mkF m 132 #[.val (.ref p0), .val (.ref x0), .val (.long 1), .second, .val (.int 1)] [(.int ((1 : Int32) + (1 : Int32))), (.ref p0)]))) (fun _ kont => XS.iconst X53.here hx rfl (hb hby d15_130) (XS.iadd X53.here hx rfl (hb hby d15_131) rfl kont)) ?_
        rw [show ((1 : Int32) + (1 : Int32)) = (2 : Int32) from by decide]
        obtain ⟨T54, h54, X54, e54, W54, st54⟩ := putF X53 hx hZ hown (host := "") (Or.inl (oH hw 74 rfl)) Via.refl e53 c52_Fp0_foundCount c52_Ep0 (Or.inl (oH hw 75 rfl)) (oH hw 55 rfl) (ty := .int) (by decide) rfl rfl (g := (mkF m 132 #[.val (.ref p0), .val (.ref x0), .val (.long 1), .second, .val (.int 1)] [(.int 2), (.ref p0)])) rfl rfl (hb hby d15_132)
        have c54_Ep0 := c52_Ep0.wr W54
        have c54_Ux0 := c52_Ux0.kp (own_Kp.wr W54 g_p0)
        have c54_Uy0 := c52_Uy0.kp (own_Kp.wr W54 g_p0)
        have c54_Fp0_found := c52_Fp0_found.other W54 (Or.inr (slot_ne (Or.inl (oH hw 64 rfl)) (Or.inl (oH hw 75 rfl)) (by decide) (by decide : parseFieldDescriptor "[Lcom/example/otaniemi/otaniemi/State;" = some (.array (.object "com/example/otaniemi/otaniemi/State"))) (by decide : parseFieldDescriptor "I" = some .int)))
        have c54_Fp0_foundCount := c52_Fp0_foundCount.same W54
        have c54_Fp0_passed := c52_Fp0_passed.other W54 (Or.inr (slot_ne (Or.inl (oH hw 125 rfl)) (Or.inl (oH hw 75 rfl)) (by decide) (by decide : parseFieldDescriptor "Lcom/example/otaniemi/otaniemi/Pending$Passed;" = some (.object "com/example/otaniemi/otaniemi/Pending$Passed")) (by decide : parseFieldDescriptor "I" = some .int)))
        have c54_Fp0_values := c52_Fp0_values.other W54 (Or.inr (slot_ne (Or.inl (oH hw 123 rfl)) (Or.inl (oH hw 75 rfl)) (by decide) (by decide : parseFieldDescriptor "[J" = some (.array .long)) (by decide : parseFieldDescriptor "I" = some .int)))
        have c54_Vfa := Vf52.other W54 (Ne.symm npf)
        have c54_Vva := Vv52.other W54 (Ne.symm npv)
        have K54 := Kt52.wr W54 (Or.inl (List.mem_of_getElem? (i := 0) rfl))
        have N54 := Fr.snoc X54 N52 g_p0
        have Z54 : n0 ≤ h54.size := Nat.le_trans Z52 (Nat.le_of_eq W54.size.symm)
        refine own_go (S' := (T54.setTop (mkF m 135 #[.val (.ref p0), .val (.ref x0), .val (.long 1), .second, .val (.int 1)] []))) st54 ?_
        refine own_ret0 X54 hx hlk Bd.returns (hb hby d15_135) (by decide) (by decide) ?_
        rw [e54]
        exact ⟨rfl, N54, own_Kp.keep K54 (own_gS g_p0 (own_gS g_fa own_g0)), Or.inr ⟨fa, kf, ⟨g_p0, g_fa, c54_Ep0, c54_Fp0_found, c54_Fp0_foundCount, c54_Fp0_passed, c54_Vfa, O_fa⟩, Or.inr ⟨va, kv, _, _, ⟨g_va, nfv, c54_Fp0_values, c54_Vva⟩, Or.inl ⟨rfl, rfl⟩, Or.inr ⟨Or.inl rfl, rfl⟩⟩⟩⟩
    · obtain ⟨g_p0, g_fa, E_p0, F_p0_found, F_p0_foundCount, F_p0_passed, V_fa, O_fa⟩ := HC
      obtain ⟨g_va, nfv, F_p0_values, V_va⟩ := HV
      have npf := E_p0.neArv V_fa (oH hw 55 rfl)
      have npv := E_p0.neArv V_va (oH hw 55 rfl)
      have K0 := Keep.refl h0 [p0, fa, va]
      refine own_go (S' := (s₁.setTop (mkF m 7 #[.val (.ref p0), .val (.ref x0), .val (.long 1), .second, .unset] [(.ref p0)]))) (fun _ kont => XS.lloadN X0.here hx rfl (hb hby d15_0) rfl (XS.lconst X0.here hx rfl (hb hby d15_1) (XS.lcmp X0.here hx rfl (hb hby d15_2) rfl (XS.ifNo X0.here hx rfl (hb hby d15_3) rfl ((if0 _ _).trans (feq (own_lne (by decide))).1) (XS.aloadN X0.here hx rfl (hb hby d15_6) rfl rfl kont))))) ?_
      obtain ⟨cq59, qp59, qp59'⟩ := E_p0.cell
      obtain ⟨v59, _, ⟨T59, L59, k59, n59⟩, -, X59, ⟨Lc59, hQ59, l59, y59, z59⟩, st59⟩ := X0.privateBack hx (y := (⟨"com/example/otaniemi/otaniemi/Pending", "keepValues", "()V"⟩ : MethodName)) hown (mvT hZ (oH hw 127 rfl)) (mvT hZ (oH hw 128 rfl)) (own_selP (args := #[]) (mvT hZ (oH hw 55 rfl)) (mvP hZ (oH hw 129 rfl)) (mvT hZ (oH hw 128 rfl)) (by decide)) (Cond.privateMethod_at (mvP hZ (oH hw 129 rfl) (args := #[]))) (mvT hZ (oH hw 130 rfl)) (by decide) (backOf (W := 0) (rmKvA l Z a0 hw [] p0 va h0 n0 Z0 E_p0 F_p0_values) hZ (oH hw 130 rfl) (oH hw 56 rfl) (by decide) (by decide)) (g := (mkF m 7 #[.val (.ref p0), .val (.ref x0), .val (.long 1), .second, .unset] [(.ref p0)])) rfl (by rw [hml]; rfl) (Steps.refl _) (a := p0) (by rw [e0]; exact qp59) qp59' (argsL := []) (rest := []) (lenOf pd_48 rfl) rfl (by show 2 * 0 + _ ≤ _; exact Nat.le_of_eq rfl) (hb hby d15_7) (fun _ _ => ⟨rfl, e0, (by decide : 0 + 1 ≤ _), (by decide : 0 + 4 ≤ _)⟩)
      dsimp only [Pt.U, Pt.locs, Pt.cells, Pt.slots] at X59 l59 y59 z59 st59 hQ59
      subst l59 y59 z59
      obtain ⟨rfl, eh59, rfl⟩ := hQ59
      have N59 := Fr.app N0 (Fr.nil n0)
      refine own_goT (S' := (T59.setTop (mkF m 10 #[.val (.ref p0), .val (.ref x0), .val (.long 1), .second, .unset] []))) st59 ?_
      refine own_go (S' := (T59.setTop (mkF m 12 #[.val (.ref p0), .val (.ref x0), .val (.long 1), .second, .unset] [(.ref x0), (.ref p0)]))) (fun _ kont => XS.aloadN X59.here hx rfl (hb hby d15_10) rfl rfl (XS.aloadN X59.here hx rfl (hb hby d15_11) rfl rfl kont)) ?_
      obtain ⟨cq60, qp60, qp60'⟩ := E_p0.cell
      obtain ⟨v60, _, ⟨T60, L60, k60, n60⟩, -, X60, ⟨Lc60, hQ60, l60, y60, z60⟩, st60⟩ := X59.privateBack hx (y := (⟨"com/example/otaniemi/otaniemi/Pending", "indexOf", "(Lcom/example/otaniemi/otaniemi/State;)I"⟩ : MethodName)) hown (mvT hZ (oH hw 113 rfl)) (mvT hZ (oH hw 114 rfl)) (own_selP (args := #[]) (mvT hZ (oH hw 55 rfl)) (mvP hZ (oH hw 115 rfl)) (mvT hZ (oH hw 114 rfl)) (by decide)) (Cond.privateMethod_at (mvP hZ (oH hw 115 rfl) (args := #[]))) (mvT hZ (oH hw 116 rfl)) (by decide) (backOf (W := 0) (rmIxd l Z a0 hw [] p0 fa x0 y0 kf f1 h0 n0 Z0 E_p0 F_p0_found F_p0_foundCount V_fa hne) hZ (oH hw 116 rfl) (oH hw 56 rfl) (by decide) (by decide)) (g := (mkF m 12 #[.val (.ref p0), .val (.ref x0), .val (.long 1), .second, .unset] [(.ref x0), (.ref p0)])) rfl (by rw [hml]; rfl) (Steps.refl _) (a := p0) (by rw [eh59]; exact qp60) qp60' (argsL := [(.ref x0)]) (rest := []) (lenOf pd_255 rfl) rfl (by show 2 * 0 + _ ≤ _; exact Nat.le_of_eq rfl) (hb hby d15_12) (fun _ _ => ⟨rfl, eh59, (by decide : 1 + 0 ≤ _), (by decide : 4 + 0 ≤ _)⟩)
      dsimp only [Pt.U, Pt.locs, Pt.cells, Pt.slots] at X60 l60 y60 z60 st60 hQ60
      subst l60 y60 z60
      obtain ⟨rfl, eh60, rfl⟩ := hQ60
      have N60 := Fr.app N59 (Fr.nil n0)
      refine own_goT (S' := (T60.setTop (mkF m 15 #[.val (.ref p0), .val (.ref x0), .val (.long 1), .second, .unset] [(.int (-1 : Int32))]))) st60 ?_
      refine own_go (S' := (T60.setTop (mkF m 49 #[.val (.ref p0), .val (.ref x0), .val (.long 1), .second, .val (.int (-1 : Int32))] [(.ref p0)]))) (fun _ kont => XS.istore X60.here hx rfl (hb hby d15_15) rfl (l' := #[.val (.ref p0), .val (.ref x0), .val (.long 1), .second, .val (.int (-1 : Int32))]) rfl (XS.iload X60.here hx rfl (hb hby d15_17) rfl (XS.ifYes X60.here hx rfl (pc0 := 19) (pc' := 48) rfl (hb hby d15_19) rfl ((if0 _ _).trans (tlt (by decide)).1) (by decide) (by decide) (XS.aloadN X60.here hx rfl (hb hby d15_48) rfl rfl kont)))) ?_
      obtain ⟨T61, X61, e61, st61⟩ := getF X60 hx hZ hown (host := "") (Or.inl (oH hw 74 rfl)) Via.refl eh60 F_p0_foundCount (g := (mkF m 49 #[.val (.ref p0), .val (.ref x0), .val (.long 1), .second, .val (.int (-1 : Int32))] [(.ref p0)])) rfl rfl (hb hby d15_49)
      refine own_go (S' := (T61.setTop (mkF m 52 #[.val (.ref p0), .val (.ref x0), .val (.long 1), .second, .val (.int (-1 : Int32))] [(.int 1)]))) st61 ?_
      refine own_go (S' := (T61.setTop (mkF m 53 #[.val (.ref p0), .val (.ref x0), .val (.long 1), .second, .val (.int (-1 : Int32))] [(.ref p0), (.int 1)]))) (fun _ kont => XS.aloadN X61.here hx rfl (hb hby d15_52) rfl rfl kont) ?_
      obtain ⟨T62, X62, e62, st62⟩ := getF X61 hx hZ hown (host := "") (Or.inl (oH hw 63 rfl)) Via.refl e61 F_p0_found (g := (mkF m 53 #[.val (.ref p0), .val (.ref x0), .val (.long 1), .second, .val (.int (-1 : Int32))] [(.ref p0), (.int 1)])) rfl rfl (hb hby d15_53)
      refine own_go (S' := (T62.setTop (mkF m 56 #[.val (.ref p0), .val (.ref x0), .val (.long 1), .second, .val (.int (-1 : Int32))] [(.ref fa), (.int 1)]))) st62 ?_
      obtain ⟨cl63, Ar63, -, S63, M63, -, -⟩ := id V_fa
      have ql63 := len_of S63 M63
      refine own_go (S' := (T62.setTop (mkF m 57 #[.val (.ref p0), .val (.ref x0), .val (.long 1), .second, .val (.int (-1 : Int32))] [(.int 4), (.int 1)]))) (fun _ kont => X62.arraylength hx (by rw [e62]; exact Ar63.1) (State.isArrayOf_alike hZ.alike Ar63.2.1) (g := (mkF m 56 #[.val (.ref p0), .val (.ref x0), .val (.long 1), .second, .val (.int (-1 : Int32))] [(.ref fa), (.int 1)])) rfl rfl (hb hby d15_56) _ (by rw [ql63]; exact kont)) ?_
      refine own_go (S' := (T62.setTop (mkF m 71 #[.val (.ref p0), .val (.ref x0), .val (.long 1), .second, .val (.int (-1 : Int32))] [(.ref p0)]))) (fun _ kont => XS.icmpYes X62.here hx rfl (pc0 := 57) (pc' := 70) rfl (hb hby d15_57) rfl (feq (by decide)).2 (by decide) (by decide) (XS.aloadN X62.here hx rfl (hb hby d15_70) rfl rfl kont)) ?_
      obtain ⟨T64, X64, e64, st64⟩ := getF X62 hx hZ hown (host := "") (Or.inl (oH hw 74 rfl)) Via.refl e62 F_p0_foundCount (g := (mkF m 71 #[.val (.ref p0), .val (.ref x0), .val (.long 1), .second, .val (.int (-1 : Int32))] [(.ref p0)])) rfl rfl (hb hby d15_71)
      refine own_go (S' := (T64.setTop (mkF m 74 #[.val (.ref p0), .val (.ref x0), .val (.long 1), .second, .val (.int (-1 : Int32))] [(.int 1)]))) st64 ?_
      refine own_go (S' := (T64.setTop (mkF m 82 #[.val (.ref p0), .val (.ref x0), .val (.long 1), .second, .val (.int 1)] [(.ref p0)]))) (fun _ kont => XS.istore X64.here hx rfl (hb hby d15_74) rfl (l' := #[.val (.ref p0), .val (.ref x0), .val (.long 1), .second, .val (.int 1)]) rfl (XS.iload X64.here hx rfl (hb hby d15_76) rfl (XS.ifNo X64.here hx rfl (hb hby d15_78) rfl ((if0 _ _).trans (tlt (by decide)).2.2.2) (XS.aloadN X64.here hx rfl (hb hby d15_81) rfl rfl kont)))) ?_
      obtain ⟨T65, X65, e65, st65⟩ := getF X64 hx hZ hown (host := "") (Or.inl (oH hw 63 rfl)) Via.refl e64 F_p0_found (g := (mkF m 82 #[.val (.ref p0), .val (.ref x0), .val (.long 1), .second, .val (.int 1)] [(.ref p0)])) rfl rfl (hb hby d15_82)
      refine own_go (S' := (T65.setTop (mkF m 85 #[.val (.ref p0), .val (.ref x0), .val (.long 1), .second, .val (.int 1)] [(.ref fa)]))) st65 ?_
      refine own_go (S' := (T65.setTop (mkF m 89 #[.val (.ref p0), .val (.ref x0), .val (.long 1), .second, .val (.int 1)] [(.int ((1 : Int32) - (1 : Int32))), (.ref fa)]))) (fun _ kont => XS.iload X65.here hx rfl (hb hby d15_85) rfl (XS.iconst X65.here hx rfl (hb hby d15_87) (XS.isub X65.here hx rfl (hb hby d15_88) rfl kont))) ?_
      rw [show ((1 : Int32) - (1 : Int32)) = (0 : Int32) from by decide]
      obtain ⟨cl66, Ar66, -, S66, -, H66, -⟩ := id V_fa
      have hin66 := inb_of (j := (0 : Int32)) S66 ⟨by decide, by decide⟩
      have hat66 := Has.at (v := (.ref y0)) H66 hin66 (by first | rfl | decide)
      refine own_go (S' := (T65.setTop (mkF m 90 #[.val (.ref p0), .val (.ref x0), .val (.long 1), .second, .val (.int 1)] [(.ref y0)]))) (fun _ kont => X65.aaload hx (j := (0 : Int32)) (v := (.ref y0)) (by rw [e65]; exact Ar66.1) (State.isArrayOf_alike hZ.alike Ar66.2.1) rfl Ar66.2.2 hin66 hat66 (g := (mkF m 89 #[.val (.ref p0), .val (.ref x0), .val (.long 1), .second, .val (.int 1)] [(.int 0), (.ref fa)])) rfl rfl (hb hby d15_89) _ kont) ?_
      obtain ⟨lx67, Ex67, Fn67, Fd67, Fi67, pp67, lp67, Fp67, Ep67, Fc67⟩ := id U_y0
      obtain ⟨T68, X68, e68, st68⟩ := getF X65 hx hZ hown (host := "") (Or.inl (oH hw 126 rfl)) Via.refl e65 Fn67 (g := (mkF m 90 #[.val (.ref p0), .val (.ref x0), .val (.long 1), .second, .val (.int 1)] [(.ref y0)])) rfl rfl (hb hby d15_90)
      refine own_go (S' := (T68.setTop (mkF m 93 #[.val (.ref p0), .val (.ref x0), .val (.long 1), .second, .val (.int 1)] [(.int ny0)]))) st68 ?_
      refine own_go (S' := (T68.setTop (mkF m 94 #[.val (.ref p0), .val (.ref x0), .val (.long 1), .second, .val (.int 1)] [(.ref x0), (.int ny0)]))) (fun _ kont => XS.aloadN X68.here hx rfl (hb hby d15_93) rfl rfl kont) ?_
      obtain ⟨lx69, Ex69, Fn69, Fd69, Fi69, pp69, lp69, Fp69, Ep69, Fc69⟩ := id U_x0
      obtain ⟨T70, X70, e70, st70⟩ := getF X68 hx hZ hown (host := "") (Or.inl (oH hw 126 rfl)) Via.refl e68 Fn69 (g := (mkF m 94 #[.val (.ref p0), .val (.ref x0), .val (.long 1), .second, .val (.int 1)] [(.ref x0), (.int ny0)])) rfl rfl (hb hby d15_94)
      refine own_go (S' := (T70.setTop (mkF m 97 #[.val (.ref p0), .val (.ref x0), .val (.long 1), .second, .val (.int 1)] [(.int nx0), (.int ny0)]))) st70 ?_
      by_cases b97_71 : nx0 < ny0
      · refine own_go (S' := (T70.setTop (mkF m 105 #[.val (.ref p0), .val (.ref x0), .val (.long 1), .second, .val (.int 1)] [(.int ((1 : Int32) - (1 : Int32))), (.ref p0)]))) (fun _ kont => XS.icmpNo X70.here hx rfl (hb hby d15_97) rfl (tlt b97_71).2.2.2 (XS.aloadN X70.here hx rfl (hb hby d15_100) rfl rfl (XS.iload X70.here hx rfl (hb hby d15_101) rfl (XS.iconst X70.here hx rfl (hb hby d15_103) (XS.isub X70.here hx rfl (hb hby d15_104) rfl kont))))) ?_
        rw [show ((1 : Int32) - (1 : Int32)) = (0 : Int32) from by decide]
        refine own_go (S' := (T70.setTop (mkF m 107 #[.val (.ref p0), .val (.ref x0), .val (.long 1), .second, .val (.int 1)] [(.int 1), (.int 0), (.ref p0)]))) (fun _ kont => XS.iload X70.here hx rfl (hb hby d15_105) rfl kont) ?_
        obtain ⟨cq75, qp75, qp75'⟩ := E_p0.cell
        obtain ⟨v75, _, ⟨T75, L75, k75, n75⟩, -, X75, ⟨Lc75, hQ75, l75, y75, z75⟩, st75⟩ := X70.privateBack hx (y := (⟨"com/example/otaniemi/otaniemi/Pending", "move", "(II)V"⟩ : MethodName)) hown (mvT hZ (oH hw 150 rfl)) (mvT hZ (oH hw 151 rfl)) (own_selP (args := #[]) (mvT hZ (oH hw 55 rfl)) (mvP hZ (oH hw 152 rfl)) (mvT hZ (oH hw 151 rfl)) (by decide)) (Cond.privateMethod_at (mvP hZ (oH hw 152 rfl) (args := #[]))) (mvT hZ (oH hw 153 rfl)) (by decide) (backOf (W := 0) (rmMv01A l Z a0 hw [] p0 fa kf (1 : Int32) f1 va kv v0 v1 y0 h0 n0 Z0 E_p0 F_p0_found F_p0_foundCount F_p0_passed F_p0_values g_p0 g_fa V_fa O_fa g_va nfv V_va U_y0.2.1) hZ (oH hw 153 rfl) (oH hw 56 rfl) (by decide) (by decide)) (g := (mkF m 107 #[.val (.ref p0), .val (.ref x0), .val (.long 1), .second, .val (.int 1)] [(.int 1), (.int 0), (.ref p0)])) rfl (by rw [hml]; rfl) (Steps.refl _) (a := p0) (by rw [e70]; exact qp75) qp75' (argsL := [(.int 0), (.int 1)]) (rest := []) (lenOf pd_318 rfl) rfl (by show 2 * 0 + _ ≤ _; exact Nat.le_of_eq rfl) (hb hby d15_107) (fun _ _ => ⟨rfl, e70, (by decide : 1 + 0 ≤ _), (by decide : 4 + 0 ≤ _)⟩)
        dsimp only [Pt.U, Pt.locs, Pt.cells, Pt.slots] at X75 l75 y75 z75 st75 hQ75
        subst l75 y75 z75
        obtain ⟨rfl, Nq75, Kc75, Vf75, Vv75⟩ := hQ75
        have Kt75 := K0.trans Kc75 (fun x hx => by simp only [List.mem_cons, List.mem_singleton, List.not_mem_nil, or_false] at hx; rcases hx with rfl | rfl <;> first | (left; simp; done) | (right; assumption))
        have N75 := Fr.app N60 Nq75
        have Z75 : n0 ≤ T75.heap.size := Nat.le_trans Z0 Kc75.1
        have c75_Ep0 := E_p0.keep Kc75
        have c75_Fp0_found := F_p0_found.keep Kc75 (ninS npf (ninS npv nin0))
        have c75_Fp0_foundCount := F_p0_foundCount.keep Kc75 (ninS npf (ninS npv nin0))
        have c75_Fp0_passed := F_p0_passed.keep Kc75 (ninS npf (ninS npv nin0))
        have c75_Fp0_values := F_p0_values.keep Kc75 (ninS npf (ninS npv nin0))
        have c75_Ux0 := U_x0.kp (own_Kp.keep Kc75 (own_gS g_fa (own_gS g_va own_g0)))
        have c75_Uy0 := U_y0.kp (own_Kp.keep Kc75 (own_gS g_fa (own_gS g_va own_g0)))
        refine own_goT (S' := (T75.setTop (mkF m 110 #[.val (.ref p0), .val (.ref x0), .val (.long 1), .second, .val (.int 1)] []))) st75 ?_
        refine own_go (S' := (T75.setTop (mkF m 113 #[.val (.ref p0), .val (.ref x0), .val (.long 1), .second, .val (.int ((1 : Int32) + (-1 : Int32)))] []))) (fun _ kont => XS.iinc X75.here hx rfl (hb hby d15_110) rfl (l' := #[.val (.ref p0), .val (.ref x0), .val (.long 1), .second, .val (.int ((1 : Int32) + (-1 : Int32)))]) rfl kont) ?_
        rw [show ((1 : Int32) + (-1 : Int32)) = (0 : Int32) from by decide]
        refine own_go (S' := (T75.setTop (mkF m 122 #[.val (.ref p0), .val (.ref x0), .val (.long 1), .second, .val (.int 0)] [(.long 0), (.long 1), (.ref x0), (.int 0), (.ref p0)]))) (fun _ kont => XS.goto X75.here hx rfl (pc0 := 113) (pc' := 76) rfl (hb hby d15_113) (by decide) (by decide) (XS.iload X75.here hx rfl (hb hby d15_76) rfl (XS.ifYes X75.here hx rfl (pc0 := 78) (pc' := 116) rfl (hb hby d15_78) rfl ((if0 _ _).trans (flt (by decide)).2.2.2) (by decide) (by decide) (XS.aloadN X75.here hx rfl (hb hby d15_116) rfl rfl (XS.iload X75.here hx rfl (hb hby d15_117) rfl (XS.aloadN X75.here hx rfl (hb hby d15_119) rfl rfl (XS.lloadN X75.here hx rfl (hb hby d15_120) rfl (XS.lconst X75.here hx rfl (hb hby d15_121) kont)))))))) ?_
        obtain ⟨cq76, qp76, qp76'⟩ := c75_Ep0.cell
        obtain ⟨v76, _, ⟨T76, L76, k76, n76⟩, -, X76, ⟨Lc76, hQ76, l76, y76, z76⟩, st76⟩ := X75.privateBack hx (y := (⟨"com/example/otaniemi/otaniemi/Pending", "put", "(ILcom/example/otaniemi/otaniemi/State;JJ)V"⟩ : MethodName)) hown (mvT hZ (oH hw 117 rfl)) (mvT hZ (oH hw 118 rfl)) (own_selP (args := #[]) (mvT hZ (oH hw 55 rfl)) (mvP hZ (oH hw 119 rfl)) (mvT hZ (oH hw 118 rfl)) (by decide)) (Cond.privateMethod_at (mvP hZ (oH hw 119 rfl) (args := #[]))) (mvT hZ (oH hw 120 rfl)) (by decide) (backOf (W := 0) (rmPu0A l Z a0 hw [] p0 fa kf (1 : Int32) (.ref y0) (.ref y0) va kv v0 v0 x0 (1 : Int64) (0 : Int64) T75.heap n0 Z75 c75_Ep0 c75_Fp0_found c75_Fp0_foundCount c75_Fp0_passed c75_Fp0_values g_p0 g_fa Vf75 O_fa g_va nfv Vv75 c75_Ux0.2.1) hZ (oH hw 120 rfl) (oH hw 56 rfl) (by decide) (by decide)) (g := (mkF m 122 #[.val (.ref p0), .val (.ref x0), .val (.long 1), .second, .val (.int 0)] [(.long 0), (.long 1), (.ref x0), (.int 0), (.ref p0)])) rfl (by rw [hml]; rfl) (Steps.refl _) (a := p0) qp76 qp76' (argsL := [(.int 0), (.ref x0), (.long 1), (.long 0)]) (rest := []) (lenOf pd_235 rfl) rfl (by show 2 * 0 + _ ≤ _; exact Nat.le_of_eq rfl) (hb hby d15_122) (fun _ _ => ⟨rfl, rfl, (by decide : 1 + 0 ≤ _), (by decide : 4 + 0 ≤ _)⟩)
        dsimp only [Pt.U, Pt.locs, Pt.cells, Pt.slots] at X76 l76 y76 z76 st76 hQ76
        subst l76 y76 z76
        obtain ⟨rfl, Nq76, Kc76, Vf76, Vv76⟩ := hQ76
        have Kt76 := Kt75.trans Kc76 (fun x hx => by simp only [List.mem_cons, List.mem_singleton, List.not_mem_nil, or_false] at hx; rcases hx with rfl | rfl <;> first | (left; simp; done) | (right; assumption))
        have N76 := Fr.app N75 Nq76
        have Z76 : n0 ≤ T76.heap.size := Nat.le_trans Z75 Kc76.1
        have c76_Ep0 := c75_Ep0.keep Kc76
        have c76_Fp0_found := c75_Fp0_found.keep Kc76 (ninS npf (ninS npv nin0))
        have c76_Fp0_foundCount := c75_Fp0_foundCount.keep Kc76 (ninS npf (ninS npv nin0))
        have c76_Fp0_passed := c75_Fp0_passed.keep Kc76 (ninS npf (ninS npv nin0))
        have c76_Fp0_values := c75_Fp0_values.keep Kc76 (ninS npf (ninS npv nin0))
        have c76_Ux0 := c75_Ux0.kp (own_Kp.keep Kc76 (own_gS g_fa (own_gS g_va own_g0)))
        have c76_Uy0 := c75_Uy0.kp (own_Kp.keep Kc76 (own_gS g_fa (own_gS g_va own_g0)))
        refine own_goT (S' := (T76.setTop (mkF m 125 #[.val (.ref p0), .val (.ref x0), .val (.long 1), .second, .val (.int 0)] []))) st76 ?_
        refine own_go (S' := (T76.setTop (mkF m 127 #[.val (.ref p0), .val (.ref x0), .val (.long 1), .second, .val (.int 0)] [(.ref p0), (.ref p0)]))) (fun _ kont => XS.aloadN X76.here hx rfl (hb hby d15_125) rfl rfl (XS.dup X76.here hx rfl (hb hby d15_126) rfl rfl kont)) ?_
        obtain ⟨T77, X77, e77, st77⟩ := getF X76 hx hZ hown (host := "") (Or.inl (oH hw 74 rfl)) Via.refl rfl c76_Fp0_foundCount (g := (mkF m 127 #[.val (.ref p0), .val (.ref x0), .val (.long 1), .second, .val (.int 0)] [(.ref p0), (.ref p0)])) rfl rfl (hb hby d15_127)
        refine own_go (S' := (T77.setTop (mkF m 130 #[.val (.ref p0), .val (.ref x0), .val (.long 1), .second, .val (.int 0)] [(.int 1), (.ref p0)]))) st77 ?_
        refine own_go (S' := (T77.setTop (mkF m 132 #[.val (.ref p0), .val (.ref x0), .val (.long 1), .second, .val (.int 0)] [(.int ((1 : Int32) + (1 : Int32))), (.ref p0)]))) (fun _ kont => XS.iconst X77.here hx rfl (hb hby d15_130) (XS.iadd X77.here hx rfl (hb hby d15_131) rfl kont)) ?_
        rw [show ((1 : Int32) + (1 : Int32)) = (2 : Int32) from by decide]
        obtain ⟨T78, h78, X78, e78, W78, st78⟩ := putF X77 hx hZ hown (host := "") (Or.inl (oH hw 74 rfl)) Via.refl e77 c76_Fp0_foundCount c76_Ep0 (Or.inl (oH hw 75 rfl)) (oH hw 55 rfl) (ty := .int) (by decide) rfl rfl (g := (mkF m 132 #[.val (.ref p0), .val (.ref x0), .val (.long 1), .second, .val (.int 0)] [(.int 2), (.ref p0)])) rfl rfl (hb hby d15_132)
        have c78_Ep0 := c76_Ep0.wr W78
        have c78_Fp0_found := c76_Fp0_found.other W78 (Or.inr (slot_ne (Or.inl (oH hw 64 rfl)) (Or.inl (oH hw 75 rfl)) (by decide) (by decide : parseFieldDescriptor "[Lcom/example/otaniemi/otaniemi/State;" = some (.array (.object "com/example/otaniemi/otaniemi/State"))) (by decide : parseFieldDescriptor "I" = some .int)))
        have c78_Fp0_foundCount := c76_Fp0_foundCount.same W78
        have c78_Fp0_passed := c76_Fp0_passed.other W78 (Or.inr (slot_ne (Or.inl (oH hw 125 rfl)) (Or.inl (oH hw 75 rfl)) (by decide) (by decide : parseFieldDescriptor "Lcom/example/otaniemi/otaniemi/Pending$Passed;" = some (.object "com/example/otaniemi/otaniemi/Pending$Passed")) (by decide : parseFieldDescriptor "I" = some .int)))
        have c78_Fp0_values := c76_Fp0_values.other W78 (Or.inr (slot_ne (Or.inl (oH hw 123 rfl)) (Or.inl (oH hw 75 rfl)) (by decide) (by decide : parseFieldDescriptor "[J" = some (.array .long)) (by decide : parseFieldDescriptor "I" = some .int)))
        have c78_Ux0 := c76_Ux0.kp (own_Kp.wr W78 g_p0)
        have c78_Uy0 := c76_Uy0.kp (own_Kp.wr W78 g_p0)
        have c78_Vfa := Vf76.other W78 (Ne.symm npf)
        have c78_Vva := Vv76.other W78 (Ne.symm npv)
        have K78 := Kt76.wr W78 (Or.inl (List.mem_of_getElem? (i := 0) rfl))
        have N78 := Fr.snoc X78 N76 g_p0
        have Z78 : n0 ≤ h78.size := Nat.le_trans Z76 (Nat.le_of_eq W78.size.symm)
        refine own_go (S' := (T78.setTop (mkF m 135 #[.val (.ref p0), .val (.ref x0), .val (.long 1), .second, .val (.int 0)] []))) st78 ?_
        refine own_ret0 X78 hx hlk Bd.returns (hb hby d15_135) (by decide) (by decide) ?_
        rw [e78]
        exact ⟨rfl, N78, own_Kp.keep K78 (own_gS g_p0 (own_gS g_fa (own_gS g_va own_g0))), Or.inl ⟨fa, kf, ⟨g_p0, g_fa, c78_Ep0, c78_Fp0_found, c78_Fp0_foundCount, c78_Fp0_passed, c78_Vfa, O_fa⟩, Or.inr ⟨va, kv, _, _, ⟨g_va, nfv, c78_Fp0_values, c78_Vva⟩, Or.inr ⟨Or.inl rfl, rfl⟩, own_okAB q⟩⟩⟩
      · refine own_go (S' := (T70.setTop (mkF m 122 #[.val (.ref p0), .val (.ref x0), .val (.long 1), .second, .val (.int 1)] [(.long 0), (.long 1), (.ref x0), (.int 1), (.ref p0)]))) (fun _ kont => XS.icmpYes X70.here hx rfl (pc0 := 97) (pc' := 116) rfl (hb hby d15_97) rfl (flt b97_71).2.2.2 (by decide) (by decide) (XS.aloadN X70.here hx rfl (hb hby d15_116) rfl rfl (XS.iload X70.here hx rfl (hb hby d15_117) rfl (XS.aloadN X70.here hx rfl (hb hby d15_119) rfl rfl (XS.lloadN X70.here hx rfl (hb hby d15_120) rfl (XS.lconst X70.here hx rfl (hb hby d15_121) kont)))))) ?_
        obtain ⟨cq72, qp72, qp72'⟩ := E_p0.cell
        obtain ⟨v72, _, ⟨T72, L72, k72, n72⟩, -, X72, ⟨Lc72, hQ72, l72, y72, z72⟩, st72⟩ := X70.privateBack hx (y := (⟨"com/example/otaniemi/otaniemi/Pending", "put", "(ILcom/example/otaniemi/otaniemi/State;JJ)V"⟩ : MethodName)) hown (mvT hZ (oH hw 117 rfl)) (mvT hZ (oH hw 118 rfl)) (own_selP (args := #[]) (mvT hZ (oH hw 55 rfl)) (mvP hZ (oH hw 119 rfl)) (mvT hZ (oH hw 118 rfl)) (by decide)) (Cond.privateMethod_at (mvP hZ (oH hw 119 rfl) (args := #[]))) (mvT hZ (oH hw 120 rfl)) (by decide) (backOf (W := 0) (rmPu1A l Z a0 hw [] p0 fa kf (1 : Int32) (.ref y0) f1 va kv v0 v1 x0 (1 : Int64) (0 : Int64) h0 n0 Z0 E_p0 F_p0_found F_p0_foundCount F_p0_passed F_p0_values g_p0 g_fa V_fa O_fa g_va nfv V_va U_x0.2.1) hZ (oH hw 120 rfl) (oH hw 56 rfl) (by decide) (by decide)) (g := (mkF m 122 #[.val (.ref p0), .val (.ref x0), .val (.long 1), .second, .val (.int 1)] [(.long 0), (.long 1), (.ref x0), (.int 1), (.ref p0)])) rfl (by rw [hml]; rfl) (Steps.refl _) (a := p0) (by rw [e70]; exact qp72) qp72' (argsL := [(.int 1), (.ref x0), (.long 1), (.long 0)]) (rest := []) (lenOf pd_235 rfl) rfl (by show 2 * 0 + _ ≤ _; exact Nat.le_of_eq rfl) (hb hby d15_122) (fun _ _ => ⟨rfl, e70, (by decide : 1 + 0 ≤ _), (by decide : 4 + 0 ≤ _)⟩)
        dsimp only [Pt.U, Pt.locs, Pt.cells, Pt.slots] at X72 l72 y72 z72 st72 hQ72
        subst l72 y72 z72
        obtain ⟨rfl, Nq72, Kc72, Vf72, Vv72⟩ := hQ72
        have Kt72 := K0.trans Kc72 (fun x hx => by simp only [List.mem_cons, List.mem_singleton, List.not_mem_nil, or_false] at hx; rcases hx with rfl | rfl <;> first | (left; simp; done) | (right; assumption))
        have N72 := Fr.app N60 Nq72
        have Z72 : n0 ≤ T72.heap.size := Nat.le_trans Z0 Kc72.1
        have c72_Ep0 := E_p0.keep Kc72
        have c72_Fp0_found := F_p0_found.keep Kc72 (ninS npf (ninS npv nin0))
        have c72_Fp0_foundCount := F_p0_foundCount.keep Kc72 (ninS npf (ninS npv nin0))
        have c72_Fp0_passed := F_p0_passed.keep Kc72 (ninS npf (ninS npv nin0))
        have c72_Fp0_values := F_p0_values.keep Kc72 (ninS npf (ninS npv nin0))
        have c72_Ux0 := U_x0.kp (own_Kp.keep Kc72 (own_gS g_fa (own_gS g_va own_g0)))
        have c72_Uy0 := U_y0.kp (own_Kp.keep Kc72 (own_gS g_fa (own_gS g_va own_g0)))
        refine own_goT (S' := (T72.setTop (mkF m 125 #[.val (.ref p0), .val (.ref x0), .val (.long 1), .second, .val (.int 1)] []))) st72 ?_
        refine own_go (S' := (T72.setTop (mkF m 127 #[.val (.ref p0), .val (.ref x0), .val (.long 1), .second, .val (.int 1)] [(.ref p0), (.ref p0)]))) (fun _ kont => XS.aloadN X72.here hx rfl (hb hby d15_125) rfl rfl (XS.dup X72.here hx rfl (hb hby d15_126) rfl rfl kont)) ?_
        obtain ⟨T73, X73, e73, st73⟩ := getF X72 hx hZ hown (host := "") (Or.inl (oH hw 74 rfl)) Via.refl rfl c72_Fp0_foundCount (g := (mkF m 127 #[.val (.ref p0), .val (.ref x0), .val (.long 1), .second, .val (.int 1)] [(.ref p0), (.ref p0)])) rfl rfl (hb hby d15_127)
        refine own_go (S' := (T73.setTop (mkF m 130 #[.val (.ref p0), .val (.ref x0), .val (.long 1), .second, .val (.int 1)] [(.int 1), (.ref p0)]))) st73 ?_
        refine own_go (S' := (T73.setTop (mkF m 132 #[.val (.ref p0), .val (.ref x0), .val (.long 1), .second, .val (.int 1)] [(.int ((1 : Int32) + (1 : Int32))), (.ref p0)]))) (fun _ kont => XS.iconst X73.here hx rfl (hb hby d15_130) (XS.iadd X73.here hx rfl (hb hby d15_131) rfl kont)) ?_
        rw [show ((1 : Int32) + (1 : Int32)) = (2 : Int32) from by decide]
        obtain ⟨T74, h74, X74, e74, W74, st74⟩ := putF X73 hx hZ hown (host := "") (Or.inl (oH hw 74 rfl)) Via.refl e73 c72_Fp0_foundCount c72_Ep0 (Or.inl (oH hw 75 rfl)) (oH hw 55 rfl) (ty := .int) (by decide) rfl rfl (g := (mkF m 132 #[.val (.ref p0), .val (.ref x0), .val (.long 1), .second, .val (.int 1)] [(.int 2), (.ref p0)])) rfl rfl (hb hby d15_132)
        have c74_Ep0 := c72_Ep0.wr W74
        have c74_Fp0_found := c72_Fp0_found.other W74 (Or.inr (slot_ne (Or.inl (oH hw 64 rfl)) (Or.inl (oH hw 75 rfl)) (by decide) (by decide : parseFieldDescriptor "[Lcom/example/otaniemi/otaniemi/State;" = some (.array (.object "com/example/otaniemi/otaniemi/State"))) (by decide : parseFieldDescriptor "I" = some .int)))
        have c74_Fp0_foundCount := c72_Fp0_foundCount.same W74
        have c74_Fp0_passed := c72_Fp0_passed.other W74 (Or.inr (slot_ne (Or.inl (oH hw 125 rfl)) (Or.inl (oH hw 75 rfl)) (by decide) (by decide : parseFieldDescriptor "Lcom/example/otaniemi/otaniemi/Pending$Passed;" = some (.object "com/example/otaniemi/otaniemi/Pending$Passed")) (by decide : parseFieldDescriptor "I" = some .int)))
        have c74_Fp0_values := c72_Fp0_values.other W74 (Or.inr (slot_ne (Or.inl (oH hw 123 rfl)) (Or.inl (oH hw 75 rfl)) (by decide) (by decide : parseFieldDescriptor "[J" = some (.array .long)) (by decide : parseFieldDescriptor "I" = some .int)))
        have c74_Ux0 := c72_Ux0.kp (own_Kp.wr W74 g_p0)
        have c74_Uy0 := c72_Uy0.kp (own_Kp.wr W74 g_p0)
        have c74_Vfa := Vf72.other W74 (Ne.symm npf)
        have c74_Vva := Vv72.other W74 (Ne.symm npv)
        have K74 := Kt72.wr W74 (Or.inl (List.mem_of_getElem? (i := 0) rfl))
        have N74 := Fr.snoc X74 N72 g_p0
        have Z74 : n0 ≤ h74.size := Nat.le_trans Z72 (Nat.le_of_eq W74.size.symm)
        refine own_go (S' := (T74.setTop (mkF m 135 #[.val (.ref p0), .val (.ref x0), .val (.long 1), .second, .val (.int 1)] []))) st74 ?_
        refine own_ret0 X74 hx hlk Bd.returns (hb hby d15_135) (by decide) (by decide) ?_
        rw [e74]
        exact ⟨rfl, N74, own_Kp.keep K74 (own_gS g_p0 (own_gS g_fa (own_gS g_va own_g0))), Or.inr ⟨fa, kf, ⟨g_p0, g_fa, c74_Ep0, c74_Fp0_found, c74_Fp0_foundCount, c74_Fp0_passed, c74_Vfa, O_fa⟩, Or.inr ⟨va, kv, _, _, ⟨g_va, nfv, c74_Fp0_values, c74_Vva⟩, own_okAB q, Or.inr ⟨Or.inl rfl, rfl⟩⟩⟩⟩
theorem d13_0 : decode prog_64_method_10_code 0 = .ok (.aload_n 0, 1) := by decide +kernel
theorem d13_1 : decode prog_64_method_10_code 1 = .ok (.aload_n 1, 1) := by decide +kernel
theorem d13_2 : decode prog_64_method_10_code 2 = .ok (.aload_n 1, 1) := by decide +kernel
theorem d13_3 : decode prog_64_method_10_code 3 = .ok (.invokevirtual 95, 3) := by decide +kernel
theorem d13_6 : decode prog_64_method_10_code 6 = .ok (.ifCond .eq 7, 3) := by decide +kernel
theorem d13_13 : decode prog_64_method_10_code 13 = .ok (.lconst 0, 1) := by decide +kernel
theorem d13_14 : decode prog_64_method_10_code 14 = .ok (.invokevirtual 27, 3) := by decide +kernel
theorem pd_328 : parseMethodDescriptor "(Lcom/example/otaniemi/otaniemi/State;J)V" = some ⟨[(.object "com/example/otaniemi/otaniemi/State"), .long], none⟩ := by decide +kernel
theorem d13_17 : decode prog_64_method_10_code 17 = .ok (.return_, 1) := by decide +kernel
theorem d13_9 : decode prog_64_method_10_code 9 = .ok (.lconst 1, 1) := by decide +kernel
theorem d13_10 : decode prog_64_method_10_code 10 = .ok (.goto 4, 3) := by decide +kernel
theorem ef_rmA0 (m : MethodId) (x0 : Addr) (x1 : Addr) : entryFrame m #[(.ref x0), (.ref x1)] 2 = mkF m 0 #[.val (.ref x0), .val (.ref x1)] [] := by first | (simp [entryFrame, mkF, argsToLocals, Value.category]; done) | rfl
def Q_rmA0 (Z : State) (p0 x0 : Addr) (nx0 cx0 dx0 : Int32) (h0 : Heap) (n0 : Nat) (v : Option Value) (h : Heap) (L : List Loc) : Prop := v = none ∧ Fr n0 L ∧ own_Kp n0 h0 h ∧ own_P1 own_okA Z h n0 p0 x0 cx0
set_option maxRecDepth 65536 in
set_option maxHeartbeats 40000000 in
theorem rmA0 (l : Launch) (Z : State) (a0 : Array Value) (hw : ∀ d ∈ tables_1, d.before a0 Z = true) (ws : List Jvm.Cond) (p0 x0 : Addr) (nx0 cx0 dx0 : Int32) (h0 : Heap) (n0 : Nat) (Z0 : n0 ≤ h0.size) (E_p0 : Exa Z h0 p0 "com/example/otaniemi/otaniemi/Pending") (P : own_P0 Z h0 n0 p0) (U_x0 : own_T Z n0 h0 x0 nx0 cx0 dx0) (hc_x0 : cx0 = 0 ∨ cx0 = 1) :
    MetFree l (⟨"com/example/otaniemi/otaniemi/Pending", "add", "(Lcom/example/otaniemi/otaniemi/State;)V"⟩ : MethodName) (head1 (Jvm.Cond.code (⟨"com/example/otaniemi/otaniemi/Pending", "add", "(Lcom/example/otaniemi/otaniemi/State;)V"⟩ : MethodName) prog_64_method_10_code 2 none :: ws) ({ frames := 3, cells := 1, slots := 4, locals := 48 } : Room)) (fun a U => a = #[(.ref p0), (.ref x0)] ∧ Z.Warmed39 U.vm ∧ U.heap = h0) (fun _ _ _ _ _ => True) (fun _ U o U' => ∃ v L, o = .returned v ∧ Q_rmA0 Z p0 x0 nx0 cx0 dx0 h0 n0 v U'.heap L ∧ FrameEnd U o U' L ({ frames := 3, cells := 1, slots := 4, locals := 48 } : Room).cells ({ frames := 3, cells := 1, slots := 4, locals := 48 } : Room).slots) := by
  refine MetFree.of_bodySF (plainFor_of_name pn_151) hisR ?_
  intro p e s m args below meth c s₁ Bd hml0 hP hK
  obtain ⟨rfl, hZ, hh⟩ := hP
  have hx := Bd.exec
  have hby := Bd.bytes
  have hlk := Bd.notSynchronized
  have hml : c.maxLocals = 2 := hml0
  have hown : s.vm.findClass "com/example/otaniemi/otaniemi/Pending" = some m.cls := findClass_of_methodNamed Bd.named
  have hnm := (name_of_methodNamed Bd.named Bd.method).1
  have X0 : Stand p l e ({ frames := 3, cells := 1, slots := 4, locals := 48 } : Room) s m #[(.ref p0), (.ref x0)] below meth c s₁ [] 0 0 := Stand.of_body Bd
  have e0 : s₁.heap = h0 := by rw [← hh, Bd.state]; rfl
  have N0 := Fr.nil n0
  change own_Go p e below s (Q_rmA0 Z p0 x0 nx0 cx0 dx0 h0 n0) ({ frames := 3, cells := 1, slots := 4, locals := 48 } : Room).cells ({ frames := 3, cells := 1, slots := 4, locals := 48 } : Room).slots _
  refine own_go (S' := (s₁.setTop (mkF m 0 #[.val (.ref p0), .val (.ref x0)] []))) (fun _ kont => castTop (ef_rmA0 m p0 x0) kont) ?_
  rcases hc_x0 with rfl | rfl
  · obtain ⟨lx1, Ex1, Fn1, Fd1, Fi1, pp1, lp1, Fp1, Ep1, Fc1⟩ := id U_x0
    refine own_go (S' := (s₁.setTop (mkF m 3 #[.val (.ref p0), .val (.ref x0)] [(.ref x0), (.ref x0), (.ref p0)]))) (fun _ kont => XS.aloadN X0.here hx rfl (hb hby d13_0) rfl rfl (XS.aloadN X0.here hx rfl (hb hby d13_1) rfl rfl (XS.aloadN X0.here hx rfl (hb hby d13_2) rfl rfl kont))) ?_
    obtain ⟨cq2, kq2, q2a, q2b, q2c⟩ := isOf hZ e0 Ex1
    obtain ⟨v2, _, ⟨T2, L2, k2, n2⟩, -, X2, ⟨Lc2, hQ2, l2, y2, z2⟩, st2⟩ := X0.virtualBack hx (y := (⟨"com/example/otaniemi/otaniemi/State", "isCounted", "()Z"⟩ : MethodName)) (z := (⟨"com/example/otaniemi/otaniemi/State", "isCounted", "()Z"⟩ : MethodName)) hown (mvT hZ (oH hw 104 rfl)) (mvT hZ (oH hw 105 rfl)) (notFace_of_selects (args := #[]) (mvT hZ (oH hw 107 rfl))) (mvT hZ (oH hw 107 rfl)) (mvT hZ (oH hw 106 rfl)) (by decide) (backOf (W := 2) (rmIs l Z a0 hw [] x0 nx0 (0 : Int32) dx0 h0 n0 Z0 U_x0 (by decide)) hZ (oH hw 108 rfl) (oH hw 2 rfl) (by decide) (by decide)) q2a q2c (g := (mkF m 3 #[.val (.ref p0), .val (.ref x0)] [(.ref x0), (.ref x0), (.ref p0)])) rfl (by rw [hml]; rfl) (Steps.refl _) (argsL := []) (rest := [(.ref x0), (.ref p0)]) (lenOf pd_144 rfl) rfl (by show 2 * 0 + _ ≤ _; exact Nat.le_of_eq rfl) (hb hby d13_3) (fun _ _ => ⟨rfl, e0, (by decide : 0 + 0 ≤ _), (by decide : 0 + 0 ≤ _)⟩)
    dsimp only [Pt.U, Pt.locs, Pt.cells, Pt.slots] at X2 l2 y2 z2 st2 hQ2
    subst l2 y2 z2
    obtain ⟨rfl, eh2, rfl⟩ := hQ2
    have N2 := Fr.app N0 (Fr.nil n0)
    refine own_goT (S' := (T2.setTop (mkF m 6 #[.val (.ref p0), .val (.ref x0)] [(.int 0), (.ref x0), (.ref p0)]))) st2 ?_
    refine own_go (S' := (T2.setTop (mkF m 14 #[.val (.ref p0), .val (.ref x0)] [(.long 0), (.ref x0), (.ref p0)]))) (fun _ kont => XS.ifYes X2.here hx rfl (pc0 := 6) (pc' := 13) rfl (hb hby d13_6) rfl ((if0 _ _).trans (teq (by decide)).1) (by decide) (by decide) (XS.lconst X2.here hx rfl (hb hby d13_13) kont)) ?_
    obtain ⟨cq3, qp3, qp3'⟩ := E_p0.cell
    obtain ⟨v3, _, ⟨T3, L3, k3, n3⟩, -, X3, ⟨Lc3, hQ3, l3, y3, z3⟩, st3⟩ := X2.privateBack hx (y := (⟨"com/example/otaniemi/otaniemi/Pending", "add", "(Lcom/example/otaniemi/otaniemi/State;J)V"⟩ : MethodName)) hown (mvT hZ (oH hw 109 rfl)) (mvT hZ (oH hw 110 rfl)) (own_selP (args := #[]) (mvT hZ (oH hw 55 rfl)) (mvP hZ (oH hw 111 rfl)) (mvT hZ (oH hw 110 rfl)) (by decide)) (Cond.privateMethod_at (mvP hZ (oH hw 111 rfl) (args := #[]))) (mvT hZ (oH hw 112 rfl)) (by decide) (backOf (W := 0) (rmJ0 l Z a0 hw [] p0 x0 (0 : Int64) nx0 (0 : Int32) dx0 h0 n0 Z0 P U_x0 (by decide)) hZ (oH hw 112 rfl) (oH hw 56 rfl) (by decide) (by decide)) (g := (mkF m 14 #[.val (.ref p0), .val (.ref x0)] [(.long 0), (.ref x0), (.ref p0)])) rfl (by rw [hml]; rfl) (Steps.refl _) (a := p0) (by rw [eh2]; exact qp3) qp3' (argsL := [(.ref x0), (.long 0)]) (rest := []) (lenOf pd_328 rfl) rfl (by show 2 * 0 + _ ≤ _; exact Nat.le_of_eq rfl) (hb hby d13_14) (fun _ _ => ⟨rfl, eh2, (by decide : 0 + 1 ≤ _), (by decide : 0 + 4 ≤ _)⟩)
    dsimp only [Pt.U, Pt.locs, Pt.cells, Pt.slots] at X3 l3 y3 z3 st3 hQ3
    subst l3 y3 z3
    obtain ⟨rfl, Nq3, Kp3, P3⟩ := hQ3
    have N3 := Fr.app N2 Nq3
    have Z3 : n0 ≤ T3.heap.size := Nat.le_trans Z0 Kp3.1
    refine own_goT (S' := (T3.setTop (mkF m 17 #[.val (.ref p0), .val (.ref x0)] []))) st3 ?_
    refine own_ret0 X3 hx hlk Bd.returns (hb hby d13_17) (by decide) (by decide) ?_
    exact ⟨rfl, N3, Kp3, P3⟩
  · obtain ⟨lx4, Ex4, Fn4, Fd4, Fi4, pp4, lp4, Fp4, Ep4, Fc4⟩ := id U_x0
    refine own_go (S' := (s₁.setTop (mkF m 3 #[.val (.ref p0), .val (.ref x0)] [(.ref x0), (.ref x0), (.ref p0)]))) (fun _ kont => XS.aloadN X0.here hx rfl (hb hby d13_0) rfl rfl (XS.aloadN X0.here hx rfl (hb hby d13_1) rfl rfl (XS.aloadN X0.here hx rfl (hb hby d13_2) rfl rfl kont))) ?_
    obtain ⟨cq5, kq5, q5a, q5b, q5c⟩ := isOf hZ e0 Ex4
    obtain ⟨v5, _, ⟨T5, L5, k5, n5⟩, -, X5, ⟨Lc5, hQ5, l5, y5, z5⟩, st5⟩ := X0.virtualBack hx (y := (⟨"com/example/otaniemi/otaniemi/State", "isCounted", "()Z"⟩ : MethodName)) (z := (⟨"com/example/otaniemi/otaniemi/State", "isCounted", "()Z"⟩ : MethodName)) hown (mvT hZ (oH hw 104 rfl)) (mvT hZ (oH hw 105 rfl)) (notFace_of_selects (args := #[]) (mvT hZ (oH hw 107 rfl))) (mvT hZ (oH hw 107 rfl)) (mvT hZ (oH hw 106 rfl)) (by decide) (backOf (W := 2) (rmIs l Z a0 hw [] x0 nx0 (1 : Int32) dx0 h0 n0 Z0 U_x0 (by decide)) hZ (oH hw 108 rfl) (oH hw 2 rfl) (by decide) (by decide)) q5a q5c (g := (mkF m 3 #[.val (.ref p0), .val (.ref x0)] [(.ref x0), (.ref x0), (.ref p0)])) rfl (by rw [hml]; rfl) (Steps.refl _) (argsL := []) (rest := [(.ref x0), (.ref p0)]) (lenOf pd_144 rfl) rfl (by show 2 * 0 + _ ≤ _; exact Nat.le_of_eq rfl) (hb hby d13_3) (fun _ _ => ⟨rfl, e0, (by decide : 0 + 0 ≤ _), (by decide : 0 + 0 ≤ _)⟩)
    dsimp only [Pt.U, Pt.locs, Pt.cells, Pt.slots] at X5 l5 y5 z5 st5 hQ5
    subst l5 y5 z5
    obtain ⟨rfl, eh5, rfl⟩ := hQ5
    have N5 := Fr.app N0 (Fr.nil n0)
    refine own_goT (S' := (T5.setTop (mkF m 6 #[.val (.ref p0), .val (.ref x0)] [(.int 1), (.ref x0), (.ref p0)]))) st5 ?_
    refine own_go (S' := (T5.setTop (mkF m 14 #[.val (.ref p0), .val (.ref x0)] [(.long 1), (.ref x0), (.ref p0)]))) (fun _ kont => XS.ifNo X5.here hx rfl (hb hby d13_6) rfl ((if0 _ _).trans (feq (by decide)).1) (XS.lconst X5.here hx rfl (hb hby d13_9) (XS.goto X5.here hx rfl (pc0 := 10) (pc' := 14) rfl (hb hby d13_10) (by decide) (by decide) kont))) ?_
    obtain ⟨cq6, qp6, qp6'⟩ := E_p0.cell
    obtain ⟨v6, _, ⟨T6, L6, k6, n6⟩, -, X6, ⟨Lc6, hQ6, l6, y6, z6⟩, st6⟩ := X5.privateBack hx (y := (⟨"com/example/otaniemi/otaniemi/Pending", "add", "(Lcom/example/otaniemi/otaniemi/State;J)V"⟩ : MethodName)) hown (mvT hZ (oH hw 109 rfl)) (mvT hZ (oH hw 110 rfl)) (own_selP (args := #[]) (mvT hZ (oH hw 55 rfl)) (mvP hZ (oH hw 111 rfl)) (mvT hZ (oH hw 110 rfl)) (by decide)) (Cond.privateMethod_at (mvP hZ (oH hw 111 rfl) (args := #[]))) (mvT hZ (oH hw 112 rfl)) (by decide) (backOf (W := 0) (rmJ0 l Z a0 hw [] p0 x0 (1 : Int64) nx0 (1 : Int32) dx0 h0 n0 Z0 P U_x0 (by decide)) hZ (oH hw 112 rfl) (oH hw 56 rfl) (by decide) (by decide)) (g := (mkF m 14 #[.val (.ref p0), .val (.ref x0)] [(.long 1), (.ref x0), (.ref p0)])) rfl (by rw [hml]; rfl) (Steps.refl _) (a := p0) (by rw [eh5]; exact qp6) qp6' (argsL := [(.ref x0), (.long 1)]) (rest := []) (lenOf pd_328 rfl) rfl (by show 2 * 0 + _ ≤ _; exact Nat.le_of_eq rfl) (hb hby d13_14) (fun _ _ => ⟨rfl, eh5, (by decide : 0 + 1 ≤ _), (by decide : 0 + 4 ≤ _)⟩)
    dsimp only [Pt.U, Pt.locs, Pt.cells, Pt.slots] at X6 l6 y6 z6 st6 hQ6
    subst l6 y6 z6
    obtain ⟨rfl, Nq6, Kp6, P6⟩ := hQ6
    have N6 := Fr.app N5 Nq6
    have Z6 : n0 ≤ T6.heap.size := Nat.le_trans Z0 Kp6.1
    refine own_goT (S' := (T6.setTop (mkF m 17 #[.val (.ref p0), .val (.ref x0)] []))) st6 ?_
    refine own_ret0 X6 hx hlk Bd.returns (hb hby d13_17) (by decide) (by decide) ?_
    exact ⟨rfl, N6, Kp6, P6⟩
theorem ef_rmAs (m : MethodId) (x0 : Addr) (x1 : Addr) : entryFrame m #[(.ref x0), (.ref x1)] 2 = mkF m 0 #[.val (.ref x0), .val (.ref x1)] [] := by first | (simp [entryFrame, mkF, argsToLocals, Value.category]; done) | rfl
def Q_rmAs (Z : State) (p0 x0 : Addr) (nx0 cx0 dx0 : Int32) (h0 : Heap) (n0 : Nat) (v : Option Value) (h : Heap) (L : List Loc) : Prop := v = none ∧ Fr n0 L ∧ own_Kp n0 h0 h ∧ own_P1 own_okB Z h n0 p0 x0 cx0
set_option maxRecDepth 65536 in
set_option maxHeartbeats 40000000 in
theorem rmAs (l : Launch) (Z : State) (a0 : Array Value) (hw : ∀ d ∈ tables_1, d.before a0 Z = true) (ws : List Jvm.Cond) (p0 x0 : Addr) (nx0 cx0 dx0 : Int32) (h0 : Heap) (n0 : Nat) (Z0 : n0 ≤ h0.size) (E_p0 : Exa Z h0 p0 "com/example/otaniemi/otaniemi/Pending") (P : own_P1 own_okA Z h0 n0 p0 x0 cx0) (U_x0 : own_T Z n0 h0 x0 nx0 cx0 dx0) (hc_x0 : cx0 = 0 ∨ cx0 = 1) :
    MetFree l (⟨"com/example/otaniemi/otaniemi/Pending", "add", "(Lcom/example/otaniemi/otaniemi/State;)V"⟩ : MethodName) (head1 (Jvm.Cond.code (⟨"com/example/otaniemi/otaniemi/Pending", "add", "(Lcom/example/otaniemi/otaniemi/State;)V"⟩ : MethodName) prog_64_method_10_code 2 none :: ws) ({ frames := 3, cells := 1, slots := 4, locals := 48 } : Room)) (fun a U => a = #[(.ref p0), (.ref x0)] ∧ Z.Warmed39 U.vm ∧ U.heap = h0) (fun _ _ _ _ _ => True) (fun _ U o U' => ∃ v L, o = .returned v ∧ Q_rmAs Z p0 x0 nx0 cx0 dx0 h0 n0 v U'.heap L ∧ FrameEnd U o U' L ({ frames := 3, cells := 1, slots := 4, locals := 48 } : Room).cells ({ frames := 3, cells := 1, slots := 4, locals := 48 } : Room).slots) := by
  refine MetFree.of_bodySF (plainFor_of_name pn_151) hisR ?_
  intro p e s m args below meth c s₁ Bd hml0 hP hK
  obtain ⟨rfl, hZ, hh⟩ := hP
  have hx := Bd.exec
  have hby := Bd.bytes
  have hlk := Bd.notSynchronized
  have hml : c.maxLocals = 2 := hml0
  have hown : s.vm.findClass "com/example/otaniemi/otaniemi/Pending" = some m.cls := findClass_of_methodNamed Bd.named
  have hnm := (name_of_methodNamed Bd.named Bd.method).1
  have X0 : Stand p l e ({ frames := 3, cells := 1, slots := 4, locals := 48 } : Room) s m #[(.ref p0), (.ref x0)] below meth c s₁ [] 0 0 := Stand.of_body Bd
  have e0 : s₁.heap = h0 := by rw [← hh, Bd.state]; rfl
  have N0 := Fr.nil n0
  change own_Go p e below s (Q_rmAs Z p0 x0 nx0 cx0 dx0 h0 n0) ({ frames := 3, cells := 1, slots := 4, locals := 48 } : Room).cells ({ frames := 3, cells := 1, slots := 4, locals := 48 } : Room).slots _
  refine own_go (S' := (s₁.setTop (mkF m 0 #[.val (.ref p0), .val (.ref x0)] []))) (fun _ kont => castTop (ef_rmAs m p0 x0) kont) ?_
  rcases hc_x0 with rfl | rfl
  · obtain ⟨lx1, Ex1, Fn1, Fd1, Fi1, pp1, lp1, Fp1, Ep1, Fc1⟩ := id U_x0
    refine own_go (S' := (s₁.setTop (mkF m 3 #[.val (.ref p0), .val (.ref x0)] [(.ref x0), (.ref x0), (.ref p0)]))) (fun _ kont => XS.aloadN X0.here hx rfl (hb hby d13_0) rfl rfl (XS.aloadN X0.here hx rfl (hb hby d13_1) rfl rfl (XS.aloadN X0.here hx rfl (hb hby d13_2) rfl rfl kont))) ?_
    obtain ⟨cq2, kq2, q2a, q2b, q2c⟩ := isOf hZ e0 Ex1
    obtain ⟨v2, _, ⟨T2, L2, k2, n2⟩, -, X2, ⟨Lc2, hQ2, l2, y2, z2⟩, st2⟩ := X0.virtualBack hx (y := (⟨"com/example/otaniemi/otaniemi/State", "isCounted", "()Z"⟩ : MethodName)) (z := (⟨"com/example/otaniemi/otaniemi/State", "isCounted", "()Z"⟩ : MethodName)) hown (mvT hZ (oH hw 104 rfl)) (mvT hZ (oH hw 105 rfl)) (notFace_of_selects (args := #[]) (mvT hZ (oH hw 107 rfl))) (mvT hZ (oH hw 107 rfl)) (mvT hZ (oH hw 106 rfl)) (by decide) (backOf (W := 2) (rmIs l Z a0 hw [] x0 nx0 (0 : Int32) dx0 h0 n0 Z0 U_x0 (by decide)) hZ (oH hw 108 rfl) (oH hw 2 rfl) (by decide) (by decide)) q2a q2c (g := (mkF m 3 #[.val (.ref p0), .val (.ref x0)] [(.ref x0), (.ref x0), (.ref p0)])) rfl (by rw [hml]; rfl) (Steps.refl _) (argsL := []) (rest := [(.ref x0), (.ref p0)]) (lenOf pd_144 rfl) rfl (by show 2 * 0 + _ ≤ _; exact Nat.le_of_eq rfl) (hb hby d13_3) (fun _ _ => ⟨rfl, e0, (by decide : 0 + 0 ≤ _), (by decide : 0 + 0 ≤ _)⟩)
    dsimp only [Pt.U, Pt.locs, Pt.cells, Pt.slots] at X2 l2 y2 z2 st2 hQ2
    subst l2 y2 z2
    obtain ⟨rfl, eh2, rfl⟩ := hQ2
    have N2 := Fr.app N0 (Fr.nil n0)
    refine own_goT (S' := (T2.setTop (mkF m 6 #[.val (.ref p0), .val (.ref x0)] [(.int 0), (.ref x0), (.ref p0)]))) st2 ?_
    refine own_go (S' := (T2.setTop (mkF m 14 #[.val (.ref p0), .val (.ref x0)] [(.long 0), (.ref x0), (.ref p0)]))) (fun _ kont => XS.ifYes X2.here hx rfl (pc0 := 6) (pc' := 13) rfl (hb hby d13_6) rfl ((if0 _ _).trans (teq (by decide)).1) (by decide) (by decide) (XS.lconst X2.here hx rfl (hb hby d13_13) kont)) ?_
    obtain ⟨cq3, qp3, qp3'⟩ := E_p0.cell
    obtain ⟨v3, _, ⟨T3, L3, k3, n3⟩, -, X3, ⟨Lc3, hQ3, l3, y3, z3⟩, st3⟩ := X2.privateBack hx (y := (⟨"com/example/otaniemi/otaniemi/Pending", "add", "(Lcom/example/otaniemi/otaniemi/State;J)V"⟩ : MethodName)) hown (mvT hZ (oH hw 109 rfl)) (mvT hZ (oH hw 110 rfl)) (own_selP (args := #[]) (mvT hZ (oH hw 55 rfl)) (mvP hZ (oH hw 111 rfl)) (mvT hZ (oH hw 110 rfl)) (by decide)) (Cond.privateMethod_at (mvP hZ (oH hw 111 rfl) (args := #[]))) (mvT hZ (oH hw 112 rfl)) (by decide) (backOf (W := 0) (rmJs l Z a0 hw [] p0 x0 (0 : Int64) nx0 (0 : Int32) dx0 h0 n0 Z0 P U_x0 (by decide)) hZ (oH hw 112 rfl) (oH hw 56 rfl) (by decide) (by decide)) (g := (mkF m 14 #[.val (.ref p0), .val (.ref x0)] [(.long 0), (.ref x0), (.ref p0)])) rfl (by rw [hml]; rfl) (Steps.refl _) (a := p0) (by rw [eh2]; exact qp3) qp3' (argsL := [(.ref x0), (.long 0)]) (rest := []) (lenOf pd_328 rfl) rfl (by show 2 * 0 + _ ≤ _; exact Nat.le_of_eq rfl) (hb hby d13_14) (fun _ _ => ⟨rfl, eh2, (by decide : 0 + 1 ≤ _), (by decide : 0 + 4 ≤ _)⟩)
    dsimp only [Pt.U, Pt.locs, Pt.cells, Pt.slots] at X3 l3 y3 z3 st3 hQ3
    subst l3 y3 z3
    obtain ⟨rfl, Nq3, Kp3, P3⟩ := hQ3
    have N3 := Fr.app N2 Nq3
    have Z3 : n0 ≤ T3.heap.size := Nat.le_trans Z0 Kp3.1
    refine own_goT (S' := (T3.setTop (mkF m 17 #[.val (.ref p0), .val (.ref x0)] []))) st3 ?_
    refine own_ret0 X3 hx hlk Bd.returns (hb hby d13_17) (by decide) (by decide) ?_
    exact ⟨rfl, N3, Kp3, P3⟩
  · obtain ⟨lx4, Ex4, Fn4, Fd4, Fi4, pp4, lp4, Fp4, Ep4, Fc4⟩ := id U_x0
    refine own_go (S' := (s₁.setTop (mkF m 3 #[.val (.ref p0), .val (.ref x0)] [(.ref x0), (.ref x0), (.ref p0)]))) (fun _ kont => XS.aloadN X0.here hx rfl (hb hby d13_0) rfl rfl (XS.aloadN X0.here hx rfl (hb hby d13_1) rfl rfl (XS.aloadN X0.here hx rfl (hb hby d13_2) rfl rfl kont))) ?_
    obtain ⟨cq5, kq5, q5a, q5b, q5c⟩ := isOf hZ e0 Ex4
    obtain ⟨v5, _, ⟨T5, L5, k5, n5⟩, -, X5, ⟨Lc5, hQ5, l5, y5, z5⟩, st5⟩ := X0.virtualBack hx (y := (⟨"com/example/otaniemi/otaniemi/State", "isCounted", "()Z"⟩ : MethodName)) (z := (⟨"com/example/otaniemi/otaniemi/State", "isCounted", "()Z"⟩ : MethodName)) hown (mvT hZ (oH hw 104 rfl)) (mvT hZ (oH hw 105 rfl)) (notFace_of_selects (args := #[]) (mvT hZ (oH hw 107 rfl))) (mvT hZ (oH hw 107 rfl)) (mvT hZ (oH hw 106 rfl)) (by decide) (backOf (W := 2) (rmIs l Z a0 hw [] x0 nx0 (1 : Int32) dx0 h0 n0 Z0 U_x0 (by decide)) hZ (oH hw 108 rfl) (oH hw 2 rfl) (by decide) (by decide)) q5a q5c (g := (mkF m 3 #[.val (.ref p0), .val (.ref x0)] [(.ref x0), (.ref x0), (.ref p0)])) rfl (by rw [hml]; rfl) (Steps.refl _) (argsL := []) (rest := [(.ref x0), (.ref p0)]) (lenOf pd_144 rfl) rfl (by show 2 * 0 + _ ≤ _; exact Nat.le_of_eq rfl) (hb hby d13_3) (fun _ _ => ⟨rfl, e0, (by decide : 0 + 0 ≤ _), (by decide : 0 + 0 ≤ _)⟩)
    dsimp only [Pt.U, Pt.locs, Pt.cells, Pt.slots] at X5 l5 y5 z5 st5 hQ5
    subst l5 y5 z5
    obtain ⟨rfl, eh5, rfl⟩ := hQ5
    have N5 := Fr.app N0 (Fr.nil n0)
    refine own_goT (S' := (T5.setTop (mkF m 6 #[.val (.ref p0), .val (.ref x0)] [(.int 1), (.ref x0), (.ref p0)]))) st5 ?_
    refine own_go (S' := (T5.setTop (mkF m 14 #[.val (.ref p0), .val (.ref x0)] [(.long 1), (.ref x0), (.ref p0)]))) (fun _ kont => XS.ifNo X5.here hx rfl (hb hby d13_6) rfl ((if0 _ _).trans (feq (by decide)).1) (XS.lconst X5.here hx rfl (hb hby d13_9) (XS.goto X5.here hx rfl (pc0 := 10) (pc' := 14) rfl (hb hby d13_10) (by decide) (by decide) kont))) ?_
    obtain ⟨cq6, qp6, qp6'⟩ := E_p0.cell
    obtain ⟨v6, _, ⟨T6, L6, k6, n6⟩, -, X6, ⟨Lc6, hQ6, l6, y6, z6⟩, st6⟩ := X5.privateBack hx (y := (⟨"com/example/otaniemi/otaniemi/Pending", "add", "(Lcom/example/otaniemi/otaniemi/State;J)V"⟩ : MethodName)) hown (mvT hZ (oH hw 109 rfl)) (mvT hZ (oH hw 110 rfl)) (own_selP (args := #[]) (mvT hZ (oH hw 55 rfl)) (mvP hZ (oH hw 111 rfl)) (mvT hZ (oH hw 110 rfl)) (by decide)) (Cond.privateMethod_at (mvP hZ (oH hw 111 rfl) (args := #[]))) (mvT hZ (oH hw 112 rfl)) (by decide) (backOf (W := 0) (rmJs l Z a0 hw [] p0 x0 (1 : Int64) nx0 (1 : Int32) dx0 h0 n0 Z0 P U_x0 (by decide)) hZ (oH hw 112 rfl) (oH hw 56 rfl) (by decide) (by decide)) (g := (mkF m 14 #[.val (.ref p0), .val (.ref x0)] [(.long 1), (.ref x0), (.ref p0)])) rfl (by rw [hml]; rfl) (Steps.refl _) (a := p0) (by rw [eh5]; exact qp6) qp6' (argsL := [(.ref x0), (.long 1)]) (rest := []) (lenOf pd_328 rfl) rfl (by show 2 * 0 + _ ≤ _; exact Nat.le_of_eq rfl) (hb hby d13_14) (fun _ _ => ⟨rfl, eh5, (by decide : 0 + 1 ≤ _), (by decide : 0 + 4 ≤ _)⟩)
    dsimp only [Pt.U, Pt.locs, Pt.cells, Pt.slots] at X6 l6 y6 z6 st6 hQ6
    subst l6 y6 z6
    obtain ⟨rfl, Nq6, Kp6, P6⟩ := hQ6
    have N6 := Fr.app N5 Nq6
    have Z6 : n0 ≤ T6.heap.size := Nat.le_trans Z0 Kp6.1
    refine own_goT (S' := (T6.setTop (mkF m 17 #[.val (.ref p0), .val (.ref x0)] []))) st6 ?_
    refine own_ret0 X6 hx hlk Bd.returns (hb hby d13_17) (by decide) (by decide) ?_
    exact ⟨rfl, N6, Kp6, P6⟩
theorem ef_rmAd (m : MethodId) (x0 : Addr) (x1 : Addr) : entryFrame m #[(.ref x0), (.ref x1)] 2 = mkF m 0 #[.val (.ref x0), .val (.ref x1)] [] := by first | (simp [entryFrame, mkF, argsToLocals, Value.category]; done) | rfl
def Q_rmAd (Z : State) (p0 x0 : Addr) (nx0 cx0 dx0 : Int32) (y0 : Addr) (ny0 cy0 dy0 : Int32) (h0 : Heap) (n0 : Nat) (v : Option Value) (h : Heap) (L : List Loc) : Prop := v = none ∧ Fr n0 L ∧ own_Kp n0 h0 h ∧ (own_P2 Z h n0 p0 x0 cx0 y0 cy0 ∨ own_P2 Z h n0 p0 y0 cy0 x0 cx0)
set_option maxRecDepth 65536 in
set_option maxHeartbeats 40000000 in
theorem rmAd (l : Launch) (Z : State) (a0 : Array Value) (hw : ∀ d ∈ tables_1, d.before a0 Z = true) (ws : List Jvm.Cond) (p0 x0 : Addr) (nx0 cx0 dx0 : Int32) (y0 : Addr) (ny0 cy0 dy0 : Int32) (h0 : Heap) (n0 : Nat) (Z0 : n0 ≤ h0.size) (E_p0 : Exa Z h0 p0 "com/example/otaniemi/otaniemi/Pending") (P : own_P1 own_okA Z h0 n0 p0 y0 cy0) (U_y0 : own_T Z n0 h0 y0 ny0 cy0 dy0) (hne : y0 ≠ x0) (U_x0 : own_T Z n0 h0 x0 nx0 cx0 dx0) (hc_x0 : cx0 = 0 ∨ cx0 = 1) :
    MetFree l (⟨"com/example/otaniemi/otaniemi/Pending", "add", "(Lcom/example/otaniemi/otaniemi/State;)V"⟩ : MethodName) (head1 (Jvm.Cond.code (⟨"com/example/otaniemi/otaniemi/Pending", "add", "(Lcom/example/otaniemi/otaniemi/State;)V"⟩ : MethodName) prog_64_method_10_code 2 none :: ws) ({ frames := 3, cells := 1, slots := 4, locals := 48 } : Room)) (fun a U => a = #[(.ref p0), (.ref x0)] ∧ Z.Warmed39 U.vm ∧ U.heap = h0) (fun _ _ _ _ _ => True) (fun _ U o U' => ∃ v L, o = .returned v ∧ Q_rmAd Z p0 x0 nx0 cx0 dx0 y0 ny0 cy0 dy0 h0 n0 v U'.heap L ∧ FrameEnd U o U' L ({ frames := 3, cells := 1, slots := 4, locals := 48 } : Room).cells ({ frames := 3, cells := 1, slots := 4, locals := 48 } : Room).slots) := by
  refine MetFree.of_bodySF (plainFor_of_name pn_151) hisR ?_
  intro p e s m args below meth c s₁ Bd hml0 hP hK
  obtain ⟨rfl, hZ, hh⟩ := hP
  have hx := Bd.exec
  have hby := Bd.bytes
  have hlk := Bd.notSynchronized
  have hml : c.maxLocals = 2 := hml0
  have hown : s.vm.findClass "com/example/otaniemi/otaniemi/Pending" = some m.cls := findClass_of_methodNamed Bd.named
  have hnm := (name_of_methodNamed Bd.named Bd.method).1
  have X0 : Stand p l e ({ frames := 3, cells := 1, slots := 4, locals := 48 } : Room) s m #[(.ref p0), (.ref x0)] below meth c s₁ [] 0 0 := Stand.of_body Bd
  have e0 : s₁.heap = h0 := by rw [← hh, Bd.state]; rfl
  have N0 := Fr.nil n0
  change own_Go p e below s (Q_rmAd Z p0 x0 nx0 cx0 dx0 y0 ny0 cy0 dy0 h0 n0) ({ frames := 3, cells := 1, slots := 4, locals := 48 } : Room).cells ({ frames := 3, cells := 1, slots := 4, locals := 48 } : Room).slots _
  refine own_go (S' := (s₁.setTop (mkF m 0 #[.val (.ref p0), .val (.ref x0)] []))) (fun _ kont => castTop (ef_rmAd m p0 x0) kont) ?_
  rcases hc_x0 with rfl | rfl
  · obtain ⟨lx1, Ex1, Fn1, Fd1, Fi1, pp1, lp1, Fp1, Ep1, Fc1⟩ := id U_x0
    refine own_go (S' := (s₁.setTop (mkF m 3 #[.val (.ref p0), .val (.ref x0)] [(.ref x0), (.ref x0), (.ref p0)]))) (fun _ kont => XS.aloadN X0.here hx rfl (hb hby d13_0) rfl rfl (XS.aloadN X0.here hx rfl (hb hby d13_1) rfl rfl (XS.aloadN X0.here hx rfl (hb hby d13_2) rfl rfl kont))) ?_
    obtain ⟨cq2, kq2, q2a, q2b, q2c⟩ := isOf hZ e0 Ex1
    obtain ⟨v2, _, ⟨T2, L2, k2, n2⟩, -, X2, ⟨Lc2, hQ2, l2, y2, z2⟩, st2⟩ := X0.virtualBack hx (y := (⟨"com/example/otaniemi/otaniemi/State", "isCounted", "()Z"⟩ : MethodName)) (z := (⟨"com/example/otaniemi/otaniemi/State", "isCounted", "()Z"⟩ : MethodName)) hown (mvT hZ (oH hw 104 rfl)) (mvT hZ (oH hw 105 rfl)) (notFace_of_selects (args := #[]) (mvT hZ (oH hw 107 rfl))) (mvT hZ (oH hw 107 rfl)) (mvT hZ (oH hw 106 rfl)) (by decide) (backOf (W := 2) (rmIs l Z a0 hw [] x0 nx0 (0 : Int32) dx0 h0 n0 Z0 U_x0 (by decide)) hZ (oH hw 108 rfl) (oH hw 2 rfl) (by decide) (by decide)) q2a q2c (g := (mkF m 3 #[.val (.ref p0), .val (.ref x0)] [(.ref x0), (.ref x0), (.ref p0)])) rfl (by rw [hml]; rfl) (Steps.refl _) (argsL := []) (rest := [(.ref x0), (.ref p0)]) (lenOf pd_144 rfl) rfl (by show 2 * 0 + _ ≤ _; exact Nat.le_of_eq rfl) (hb hby d13_3) (fun _ _ => ⟨rfl, e0, (by decide : 0 + 0 ≤ _), (by decide : 0 + 0 ≤ _)⟩)
    dsimp only [Pt.U, Pt.locs, Pt.cells, Pt.slots] at X2 l2 y2 z2 st2 hQ2
    subst l2 y2 z2
    obtain ⟨rfl, eh2, rfl⟩ := hQ2
    have N2 := Fr.app N0 (Fr.nil n0)
    refine own_goT (S' := (T2.setTop (mkF m 6 #[.val (.ref p0), .val (.ref x0)] [(.int 0), (.ref x0), (.ref p0)]))) st2 ?_
    refine own_go (S' := (T2.setTop (mkF m 14 #[.val (.ref p0), .val (.ref x0)] [(.long 0), (.ref x0), (.ref p0)]))) (fun _ kont => XS.ifYes X2.here hx rfl (pc0 := 6) (pc' := 13) rfl (hb hby d13_6) rfl ((if0 _ _).trans (teq (by decide)).1) (by decide) (by decide) (XS.lconst X2.here hx rfl (hb hby d13_13) kont)) ?_
    obtain ⟨cq3, qp3, qp3'⟩ := E_p0.cell
    obtain ⟨v3, _, ⟨T3, L3, k3, n3⟩, -, X3, ⟨Lc3, hQ3, l3, y3, z3⟩, st3⟩ := X2.privateBack hx (y := (⟨"com/example/otaniemi/otaniemi/Pending", "add", "(Lcom/example/otaniemi/otaniemi/State;J)V"⟩ : MethodName)) hown (mvT hZ (oH hw 109 rfl)) (mvT hZ (oH hw 110 rfl)) (own_selP (args := #[]) (mvT hZ (oH hw 55 rfl)) (mvP hZ (oH hw 111 rfl)) (mvT hZ (oH hw 110 rfl)) (by decide)) (Cond.privateMethod_at (mvP hZ (oH hw 111 rfl) (args := #[]))) (mvT hZ (oH hw 112 rfl)) (by decide) (backOf (W := 0) (rmJd l Z a0 hw [] p0 x0 (0 : Int64) nx0 (0 : Int32) dx0 y0 ny0 cy0 dy0 h0 n0 Z0 P U_x0 U_y0 (by decide) hne) hZ (oH hw 112 rfl) (oH hw 56 rfl) (by decide) (by decide)) (g := (mkF m 14 #[.val (.ref p0), .val (.ref x0)] [(.long 0), (.ref x0), (.ref p0)])) rfl (by rw [hml]; rfl) (Steps.refl _) (a := p0) (by rw [eh2]; exact qp3) qp3' (argsL := [(.ref x0), (.long 0)]) (rest := []) (lenOf pd_328 rfl) rfl (by show 2 * 0 + _ ≤ _; exact Nat.le_of_eq rfl) (hb hby d13_14) (fun _ _ => ⟨rfl, eh2, (by decide : 0 + 1 ≤ _), (by decide : 0 + 4 ≤ _)⟩)
    dsimp only [Pt.U, Pt.locs, Pt.cells, Pt.slots] at X3 l3 y3 z3 st3 hQ3
    subst l3 y3 z3
    obtain ⟨rfl, Nq3, Kp3, P3⟩ := hQ3
    have N3 := Fr.app N2 Nq3
    have Z3 : n0 ≤ T3.heap.size := Nat.le_trans Z0 Kp3.1
    refine own_goT (S' := (T3.setTop (mkF m 17 #[.val (.ref p0), .val (.ref x0)] []))) st3 ?_
    refine own_ret0 X3 hx hlk Bd.returns (hb hby d13_17) (by decide) (by decide) ?_
    exact ⟨rfl, N3, Kp3, P3⟩
  · obtain ⟨lx4, Ex4, Fn4, Fd4, Fi4, pp4, lp4, Fp4, Ep4, Fc4⟩ := id U_x0
    refine own_go (S' := (s₁.setTop (mkF m 3 #[.val (.ref p0), .val (.ref x0)] [(.ref x0), (.ref x0), (.ref p0)]))) (fun _ kont => XS.aloadN X0.here hx rfl (hb hby d13_0) rfl rfl (XS.aloadN X0.here hx rfl (hb hby d13_1) rfl rfl (XS.aloadN X0.here hx rfl (hb hby d13_2) rfl rfl kont))) ?_
    obtain ⟨cq5, kq5, q5a, q5b, q5c⟩ := isOf hZ e0 Ex4
    obtain ⟨v5, _, ⟨T5, L5, k5, n5⟩, -, X5, ⟨Lc5, hQ5, l5, y5, z5⟩, st5⟩ := X0.virtualBack hx (y := (⟨"com/example/otaniemi/otaniemi/State", "isCounted", "()Z"⟩ : MethodName)) (z := (⟨"com/example/otaniemi/otaniemi/State", "isCounted", "()Z"⟩ : MethodName)) hown (mvT hZ (oH hw 104 rfl)) (mvT hZ (oH hw 105 rfl)) (notFace_of_selects (args := #[]) (mvT hZ (oH hw 107 rfl))) (mvT hZ (oH hw 107 rfl)) (mvT hZ (oH hw 106 rfl)) (by decide) (backOf (W := 2) (rmIs l Z a0 hw [] x0 nx0 (1 : Int32) dx0 h0 n0 Z0 U_x0 (by decide)) hZ (oH hw 108 rfl) (oH hw 2 rfl) (by decide) (by decide)) q5a q5c (g := (mkF m 3 #[.val (.ref p0), .val (.ref x0)] [(.ref x0), (.ref x0), (.ref p0)])) rfl (by rw [hml]; rfl) (Steps.refl _) (argsL := []) (rest := [(.ref x0), (.ref p0)]) (lenOf pd_144 rfl) rfl (by show 2 * 0 + _ ≤ _; exact Nat.le_of_eq rfl) (hb hby d13_3) (fun _ _ => ⟨rfl, e0, (by decide : 0 + 0 ≤ _), (by decide : 0 + 0 ≤ _)⟩)
    dsimp only [Pt.U, Pt.locs, Pt.cells, Pt.slots] at X5 l5 y5 z5 st5 hQ5
    subst l5 y5 z5
    obtain ⟨rfl, eh5, rfl⟩ := hQ5
    have N5 := Fr.app N0 (Fr.nil n0)
    refine own_goT (S' := (T5.setTop (mkF m 6 #[.val (.ref p0), .val (.ref x0)] [(.int 1), (.ref x0), (.ref p0)]))) st5 ?_
    refine own_go (S' := (T5.setTop (mkF m 14 #[.val (.ref p0), .val (.ref x0)] [(.long 1), (.ref x0), (.ref p0)]))) (fun _ kont => XS.ifNo X5.here hx rfl (hb hby d13_6) rfl ((if0 _ _).trans (feq (by decide)).1) (XS.lconst X5.here hx rfl (hb hby d13_9) (XS.goto X5.here hx rfl (pc0 := 10) (pc' := 14) rfl (hb hby d13_10) (by decide) (by decide) kont))) ?_
    obtain ⟨cq6, qp6, qp6'⟩ := E_p0.cell
    obtain ⟨v6, _, ⟨T6, L6, k6, n6⟩, -, X6, ⟨Lc6, hQ6, l6, y6, z6⟩, st6⟩ := X5.privateBack hx (y := (⟨"com/example/otaniemi/otaniemi/Pending", "add", "(Lcom/example/otaniemi/otaniemi/State;J)V"⟩ : MethodName)) hown (mvT hZ (oH hw 109 rfl)) (mvT hZ (oH hw 110 rfl)) (own_selP (args := #[]) (mvT hZ (oH hw 55 rfl)) (mvP hZ (oH hw 111 rfl)) (mvT hZ (oH hw 110 rfl)) (by decide)) (Cond.privateMethod_at (mvP hZ (oH hw 111 rfl) (args := #[]))) (mvT hZ (oH hw 112 rfl)) (by decide) (backOf (W := 0) (rmJd l Z a0 hw [] p0 x0 (1 : Int64) nx0 (1 : Int32) dx0 y0 ny0 cy0 dy0 h0 n0 Z0 P U_x0 U_y0 (by decide) hne) hZ (oH hw 112 rfl) (oH hw 56 rfl) (by decide) (by decide)) (g := (mkF m 14 #[.val (.ref p0), .val (.ref x0)] [(.long 1), (.ref x0), (.ref p0)])) rfl (by rw [hml]; rfl) (Steps.refl _) (a := p0) (by rw [eh5]; exact qp6) qp6' (argsL := [(.ref x0), (.long 1)]) (rest := []) (lenOf pd_328 rfl) rfl (by show 2 * 0 + _ ≤ _; exact Nat.le_of_eq rfl) (hb hby d13_14) (fun _ _ => ⟨rfl, eh5, (by decide : 0 + 1 ≤ _), (by decide : 0 + 4 ≤ _)⟩)
    dsimp only [Pt.U, Pt.locs, Pt.cells, Pt.slots] at X6 l6 y6 z6 st6 hQ6
    subst l6 y6 z6
    obtain ⟨rfl, Nq6, Kp6, P6⟩ := hQ6
    have N6 := Fr.app N5 Nq6
    have Z6 : n0 ≤ T6.heap.size := Nat.le_trans Z0 Kp6.1
    refine own_goT (S' := (T6.setTop (mkF m 17 #[.val (.ref p0), .val (.ref x0)] []))) st6 ?_
    refine own_ret0 X6 hx hlk Bd.returns (hb hby d13_17) (by decide) (by decide) ?_
    exact ⟨rfl, N6, Kp6, P6⟩
theorem d7_0 : decode method_3_code 0 = .ok (.iload_n 1, 1) := by decide +kernel
theorem d7_1 : decode method_3_code 1 = .ok (.iconst 1, 1) := by decide +kernel
theorem d7_2 : decode method_3_code 2 = .ok (.if_icmp .ne 11, 3) := by decide +kernel
theorem d7_13 : decode method_3_code 13 = .ok (.iload_n 1, 1) := by decide +kernel
theorem d7_14 : decode method_3_code 14 = .ok (.iconst 2, 1) := by decide +kernel
theorem d7_15 : decode method_3_code 15 = .ok (.if_icmp .ne 8, 3) := by decide +kernel
theorem d7_23 : decode method_3_code 23 = .ok (.return_, 1) := by decide +kernel
theorem d7_5 : decode method_3_code 5 = .ok (.aload_n 0, 1) := by decide +kernel
theorem d7_6 : decode method_3_code 6 = .ok (.aload_n 2, 1) := by decide +kernel
theorem d7_7 : decode method_3_code 7 = .ok (.invokevirtual 36, 3) := by decide +kernel
theorem pd_342 : parseMethodDescriptor "(Lcom/example/otaniemi/otaniemi/State;)V" = some ⟨[(.object "com/example/otaniemi/otaniemi/State")], none⟩ := by decide +kernel
theorem d7_10 : decode method_3_code 10 = .ok (.goto 13, 3) := by decide +kernel
theorem d7_18 : decode method_3_code 18 = .ok (.aload_n 0, 1) := by decide +kernel
theorem d7_19 : decode method_3_code 19 = .ok (.aload_n 3, 1) := by decide +kernel
theorem d7_20 : decode method_3_code 20 = .ok (.invokevirtual 36, 3) := by decide +kernel
theorem pn_347 : plainName "com/example/otaniemi/otaniemi/PendingGetSoleEndPinLaw" = true := by first | (simp [plainName, overriddenIn]; done) | decide +kernel
theorem ef_rmC0 (m : MethodId) (x0 : Addr) (x1 : Int32) (x2 : Addr) (x3 : Addr) : entryFrame m #[(.ref x0), (.int x1), (.ref x2), (.ref x3)] 4 = mkF m 0 #[.val (.ref x0), .val (.int x1), .val (.ref x2), .val (.ref x3)] [] := by first | (simp [entryFrame, mkF, argsToLocals, Value.category]; done) | rfl
def Q_rmC0 (Z : State) (p0 : Addr) (ch : Int32) (x0 : Addr) (nx0 cx0 dx0 : Int32) (y0 : Addr) (ny0 cy0 dy0 : Int32) (h0 : Heap) (n0 : Nat) (v : Option Value) (h : Heap) (L : List Loc) : Prop := v = none ∧ Fr n0 L ∧ own_Kp n0 h0 h ∧ ((ch = 1 ∧ own_P1 own_okA Z h n0 p0 x0 cx0) ∨ (¬ ch = 1 ∧ ch = 2 ∧ own_P1 own_okA Z h n0 p0 y0 cy0) ∨ (¬ ch = 1 ∧ ¬ ch = 2 ∧ own_P0 Z h n0 p0))
set_option maxRecDepth 65536 in
set_option maxHeartbeats 40000000 in
theorem rmC0 (l : Launch) (Z : State) (a0 : Array Value) (hw : ∀ d ∈ tables_1, d.before a0 Z = true) (ws : List Jvm.Cond) (p0 : Addr) (ch : Int32) (x0 : Addr) (nx0 cx0 dx0 : Int32) (y0 : Addr) (ny0 cy0 dy0 : Int32) (h0 : Heap) (n0 : Nat) (Z0 : n0 ≤ h0.size) (E_p0 : Exa Z h0 p0 "com/example/otaniemi/otaniemi/Pending") (P : own_P0 Z h0 n0 p0) (U_x0 : own_T Z n0 h0 x0 nx0 cx0 dx0) (U_y0 : own_T Z n0 h0 y0 ny0 cy0 dy0) (hc_x0 : cx0 = 0 ∨ cx0 = 1) (hc_y0 : cy0 = 0 ∨ cy0 = 1) (hne : x0 ≠ y0) :
    MetFree l (⟨"com/example/otaniemi/otaniemi/PendingGetSoleEndPinLaw", "addChoice", "(Lcom/example/otaniemi/otaniemi/Pending;ILcom/example/otaniemi/otaniemi/State;Lcom/example/otaniemi/otaniemi/State;)V"⟩ : MethodName) (head1 (Jvm.Cond.code (⟨"com/example/otaniemi/otaniemi/PendingGetSoleEndPinLaw", "addChoice", "(Lcom/example/otaniemi/otaniemi/Pending;ILcom/example/otaniemi/otaniemi/State;Lcom/example/otaniemi/otaniemi/State;)V"⟩ : MethodName) method_3_code 4 none :: ws) ({ frames := 4, cells := 1, slots := 4, locals := 61 } : Room)) (fun a U => a = #[(.ref p0), (.int ch), (.ref x0), (.ref y0)] ∧ Z.Warmed39 U.vm ∧ U.heap = h0) (fun _ _ _ _ _ => True) (fun _ U o U' => ∃ v L, o = .returned v ∧ Q_rmC0 Z p0 ch x0 nx0 cx0 dx0 y0 ny0 cy0 dy0 h0 n0 v U'.heap L ∧ FrameEnd U o U' L ({ frames := 4, cells := 1, slots := 4, locals := 61 } : Room).cells ({ frames := 4, cells := 1, slots := 4, locals := 61 } : Room).slots) := by
  refine MetFree.of_bodySF (plainFor_of_name pn_347) hisR ?_
  intro p e s m args below meth c s₁ Bd hml0 hP hK
  obtain ⟨rfl, hZ, hh⟩ := hP
  have hx := Bd.exec
  have hby := Bd.bytes
  have hlk := Bd.notSynchronized
  have hml : c.maxLocals = 4 := hml0
  have hown : s.vm.findClass "com/example/otaniemi/otaniemi/PendingGetSoleEndPinLaw" = some m.cls := findClass_of_methodNamed Bd.named
  have hnm := (name_of_methodNamed Bd.named Bd.method).1
  have X0 : Stand p l e ({ frames := 4, cells := 1, slots := 4, locals := 61 } : Room) s m #[(.ref p0), (.int ch), (.ref x0), (.ref y0)] below meth c s₁ [] 0 0 := Stand.of_body Bd
  have e0 : s₁.heap = h0 := by rw [← hh, Bd.state]; rfl
  have N0 := Fr.nil n0
  change own_Go p e below s (Q_rmC0 Z p0 ch x0 nx0 cx0 dx0 y0 ny0 cy0 dy0 h0 n0) ({ frames := 4, cells := 1, slots := 4, locals := 61 } : Room).cells ({ frames := 4, cells := 1, slots := 4, locals := 61 } : Room).slots _
  refine own_go (S' := (s₁.setTop (mkF m 0 #[.val (.ref p0), .val (.int ch), .val (.ref x0), .val (.ref y0)] []))) (fun _ kont => castTop (ef_rmC0 m p0 ch x0 y0) kont) ?_
  refine own_go (S' := (s₁.setTop (mkF m 2 #[.val (.ref p0), .val (.int ch), .val (.ref x0), .val (.ref y0)] [(.int 1), (.int ch)]))) (fun _ kont => XS.iloadN X0.here hx rfl (hb hby d7_0) rfl (XS.iconst X0.here hx rfl (hb hby d7_1) kont)) ?_
  by_cases q1 : ch = (1 : Int32)
  · refine own_go (S' := (s₁.setTop (mkF m 7 #[.val (.ref p0), .val (.int ch), .val (.ref x0), .val (.ref y0)] [(.ref x0), (.ref p0)]))) (fun _ kont => XS.icmpNo X0.here hx rfl (hb hby d7_2) rfl (teq q1).2 (XS.aloadN X0.here hx rfl (hb hby d7_5) rfl rfl (XS.aloadN X0.here hx rfl (hb hby d7_6) rfl rfl kont))) ?_
    obtain ⟨cq1, kq1, q1a, q1b, q1c⟩ := isOf hZ e0 E_p0
    obtain ⟨v1, _, ⟨T1, L1, k1, n1⟩, -, X1, ⟨Lc1, hQ1, l1, y1, z1⟩, st1⟩ := X0.virtualBack hx (y := (⟨"com/example/otaniemi/otaniemi/Pending", "add", "(Lcom/example/otaniemi/otaniemi/State;)V"⟩ : MethodName)) (z := (⟨"com/example/otaniemi/otaniemi/Pending", "add", "(Lcom/example/otaniemi/otaniemi/State;)V"⟩ : MethodName)) hown (mvT hZ (oH hw 99 rfl)) (mvT hZ (oH hw 100 rfl)) (notFace_of_selects (args := #[]) (mvT hZ (oH hw 102 rfl))) (mvT hZ (oH hw 102 rfl)) (mvT hZ (oH hw 101 rfl)) (by decide) (backOf (W := 0) (rmA0 l Z a0 hw [] p0 x0 nx0 cx0 dx0 h0 n0 Z0 E_p0 P U_x0 hc_x0) hZ (oH hw 103 rfl) (oH hw 56 rfl) (by decide) (by decide)) q1a q1c (g := (mkF m 7 #[.val (.ref p0), .val (.int ch), .val (.ref x0), .val (.ref y0)] [(.ref x0), (.ref p0)])) rfl (by rw [hml]; rfl) (Steps.refl _) (argsL := [(.ref x0)]) (rest := []) (lenOf pd_342 rfl) rfl (by show 2 * 0 + _ ≤ _; exact Nat.le_of_eq rfl) (hb hby d7_7) (fun _ _ => ⟨rfl, e0, (by decide : 0 + 1 ≤ _), (by decide : 0 + 4 ≤ _)⟩)
    dsimp only [Pt.U, Pt.locs, Pt.cells, Pt.slots] at X1 l1 y1 z1 st1 hQ1
    subst l1 y1 z1
    obtain ⟨rfl, Nq1, Kp1, P1⟩ := hQ1
    have N1 := Fr.app N0 Nq1
    have Z1 : n0 ≤ T1.heap.size := Nat.le_trans Z0 Kp1.1
    refine own_goT (S' := (T1.setTop (mkF m 10 #[.val (.ref p0), .val (.int ch), .val (.ref x0), .val (.ref y0)] []))) st1 ?_
    refine own_go (S' := (T1.setTop (mkF m 23 #[.val (.ref p0), .val (.int ch), .val (.ref x0), .val (.ref y0)] []))) (fun _ kont => XS.goto X1.here hx rfl (pc0 := 10) (pc' := 23) rfl (hb hby d7_10) (by decide) (by decide) kont) ?_
    refine own_ret0 X1 hx hlk Bd.returns (hb hby d7_23) (by decide) (by decide) ?_
    exact ⟨rfl, N1, Kp1, Or.inl ⟨q1, P1⟩⟩
  · refine own_go (S' := (s₁.setTop (mkF m 15 #[.val (.ref p0), .val (.int ch), .val (.ref x0), .val (.ref y0)] [(.int 2), (.int ch)]))) (fun _ kont => XS.icmpYes X0.here hx rfl (pc0 := 2) (pc' := 13) rfl (hb hby d7_2) rfl (feq q1).2 (by decide) (by decide) (XS.iloadN X0.here hx rfl (hb hby d7_13) rfl (XS.iconst X0.here hx rfl (hb hby d7_14) kont))) ?_
    by_cases q2 : ch = (2 : Int32)
    · refine own_go (S' := (s₁.setTop (mkF m 20 #[.val (.ref p0), .val (.int ch), .val (.ref x0), .val (.ref y0)] [(.ref y0), (.ref p0)]))) (fun _ kont => XS.icmpNo X0.here hx rfl (hb hby d7_15) rfl (teq q2).2 (XS.aloadN X0.here hx rfl (hb hby d7_18) rfl rfl (XS.aloadN X0.here hx rfl (hb hby d7_19) rfl rfl kont))) ?_
      obtain ⟨cq2, kq2, q2a, q2b, q2c⟩ := isOf hZ e0 E_p0
      obtain ⟨v2, _, ⟨T2, L2, k2, n2⟩, -, X2, ⟨Lc2, hQ2, l2, y2, z2⟩, st2⟩ := X0.virtualBack hx (y := (⟨"com/example/otaniemi/otaniemi/Pending", "add", "(Lcom/example/otaniemi/otaniemi/State;)V"⟩ : MethodName)) (z := (⟨"com/example/otaniemi/otaniemi/Pending", "add", "(Lcom/example/otaniemi/otaniemi/State;)V"⟩ : MethodName)) hown (mvT hZ (oH hw 99 rfl)) (mvT hZ (oH hw 100 rfl)) (notFace_of_selects (args := #[]) (mvT hZ (oH hw 102 rfl))) (mvT hZ (oH hw 102 rfl)) (mvT hZ (oH hw 101 rfl)) (by decide) (backOf (W := 0) (rmA0 l Z a0 hw [] p0 y0 ny0 cy0 dy0 h0 n0 Z0 E_p0 P U_y0 hc_y0) hZ (oH hw 103 rfl) (oH hw 56 rfl) (by decide) (by decide)) q2a q2c (g := (mkF m 20 #[.val (.ref p0), .val (.int ch), .val (.ref x0), .val (.ref y0)] [(.ref y0), (.ref p0)])) rfl (by rw [hml]; rfl) (Steps.refl _) (argsL := [(.ref y0)]) (rest := []) (lenOf pd_342 rfl) rfl (by show 2 * 0 + _ ≤ _; exact Nat.le_of_eq rfl) (hb hby d7_20) (fun _ _ => ⟨rfl, e0, (by decide : 0 + 1 ≤ _), (by decide : 0 + 4 ≤ _)⟩)
      dsimp only [Pt.U, Pt.locs, Pt.cells, Pt.slots] at X2 l2 y2 z2 st2 hQ2
      subst l2 y2 z2
      obtain ⟨rfl, Nq2, Kp2, P2⟩ := hQ2
      have N2 := Fr.app N0 Nq2
      have Z2 : n0 ≤ T2.heap.size := Nat.le_trans Z0 Kp2.1
      refine own_goT (S' := (T2.setTop (mkF m 23 #[.val (.ref p0), .val (.int ch), .val (.ref x0), .val (.ref y0)] []))) st2 ?_
      refine own_ret0 X2 hx hlk Bd.returns (hb hby d7_23) (by decide) (by decide) ?_
      exact ⟨rfl, N2, Kp2, Or.inr (Or.inl ⟨q1, q2, P2⟩)⟩
    · refine own_go (S' := (s₁.setTop (mkF m 23 #[.val (.ref p0), .val (.int ch), .val (.ref x0), .val (.ref y0)] []))) (fun _ kont => XS.icmpYes X0.here hx rfl (pc0 := 15) (pc' := 23) rfl (hb hby d7_15) rfl (feq q2).2 (by decide) (by decide) kont) ?_
      refine own_ret0 X0 hx hlk Bd.returns (hb hby d7_23) (by decide) (by decide) ?_
      rw [e0]
      exact ⟨rfl, N0, own_Kp.refl _ _, Or.inr (Or.inr ⟨q1, q2, P⟩)⟩
theorem ef_rmCa (m : MethodId) (x0 : Addr) (x1 : Int32) (x2 : Addr) (x3 : Addr) : entryFrame m #[(.ref x0), (.int x1), (.ref x2), (.ref x3)] 4 = mkF m 0 #[.val (.ref x0), .val (.int x1), .val (.ref x2), .val (.ref x3)] [] := by first | (simp [entryFrame, mkF, argsToLocals, Value.category]; done) | rfl
def Q_rmCa (Z : State) (p0 : Addr) (ch : Int32) (x0 : Addr) (nx0 cx0 dx0 : Int32) (y0 : Addr) (ny0 cy0 dy0 : Int32) (h0 : Heap) (n0 : Nat) (v : Option Value) (h : Heap) (L : List Loc) : Prop := v = none ∧ Fr n0 L ∧ own_Kp n0 h0 h ∧ own_E Z h n0 p0 x0 cx0 y0 cy0 1 (if ch = 2 then 1 else 0)
set_option maxRecDepth 65536 in
set_option maxHeartbeats 40000000 in
theorem rmCa (l : Launch) (Z : State) (a0 : Array Value) (hw : ∀ d ∈ tables_1, d.before a0 Z = true) (ws : List Jvm.Cond) (p0 : Addr) (ch : Int32) (x0 : Addr) (nx0 cx0 dx0 : Int32) (y0 : Addr) (ny0 cy0 dy0 : Int32) (h0 : Heap) (n0 : Nat) (Z0 : n0 ≤ h0.size) (E_p0 : Exa Z h0 p0 "com/example/otaniemi/otaniemi/Pending") (P : own_P1 own_okA Z h0 n0 p0 x0 cx0) (U_x0 : own_T Z n0 h0 x0 nx0 cx0 dx0) (U_y0 : own_T Z n0 h0 y0 ny0 cy0 dy0) (hc_x0 : cx0 = 0 ∨ cx0 = 1) (hc_y0 : cy0 = 0 ∨ cy0 = 1) (hne : x0 ≠ y0) :
    MetFree l (⟨"com/example/otaniemi/otaniemi/PendingGetSoleEndPinLaw", "addChoice", "(Lcom/example/otaniemi/otaniemi/Pending;ILcom/example/otaniemi/otaniemi/State;Lcom/example/otaniemi/otaniemi/State;)V"⟩ : MethodName) (head1 (Jvm.Cond.code (⟨"com/example/otaniemi/otaniemi/PendingGetSoleEndPinLaw", "addChoice", "(Lcom/example/otaniemi/otaniemi/Pending;ILcom/example/otaniemi/otaniemi/State;Lcom/example/otaniemi/otaniemi/State;)V"⟩ : MethodName) method_3_code 4 none :: ws) ({ frames := 4, cells := 1, slots := 4, locals := 61 } : Room)) (fun a U => a = #[(.ref p0), (.int ch), (.ref x0), (.ref y0)] ∧ Z.Warmed39 U.vm ∧ U.heap = h0) (fun _ _ _ _ _ => True) (fun _ U o U' => ∃ v L, o = .returned v ∧ Q_rmCa Z p0 ch x0 nx0 cx0 dx0 y0 ny0 cy0 dy0 h0 n0 v U'.heap L ∧ FrameEnd U o U' L ({ frames := 4, cells := 1, slots := 4, locals := 61 } : Room).cells ({ frames := 4, cells := 1, slots := 4, locals := 61 } : Room).slots) := by
  refine MetFree.of_bodySF (plainFor_of_name pn_347) hisR ?_
  intro p e s m args below meth c s₁ Bd hml0 hP hK
  obtain ⟨rfl, hZ, hh⟩ := hP
  have hx := Bd.exec
  have hby := Bd.bytes
  have hlk := Bd.notSynchronized
  have hml : c.maxLocals = 4 := hml0
  have hown : s.vm.findClass "com/example/otaniemi/otaniemi/PendingGetSoleEndPinLaw" = some m.cls := findClass_of_methodNamed Bd.named
  have hnm := (name_of_methodNamed Bd.named Bd.method).1
  have X0 : Stand p l e ({ frames := 4, cells := 1, slots := 4, locals := 61 } : Room) s m #[(.ref p0), (.int ch), (.ref x0), (.ref y0)] below meth c s₁ [] 0 0 := Stand.of_body Bd
  have e0 : s₁.heap = h0 := by rw [← hh, Bd.state]; rfl
  have N0 := Fr.nil n0
  change own_Go p e below s (Q_rmCa Z p0 ch x0 nx0 cx0 dx0 y0 ny0 cy0 dy0 h0 n0) ({ frames := 4, cells := 1, slots := 4, locals := 61 } : Room).cells ({ frames := 4, cells := 1, slots := 4, locals := 61 } : Room).slots _
  refine own_go (S' := (s₁.setTop (mkF m 0 #[.val (.ref p0), .val (.int ch), .val (.ref x0), .val (.ref y0)] []))) (fun _ kont => castTop (ef_rmCa m p0 ch x0 y0) kont) ?_
  refine own_go (S' := (s₁.setTop (mkF m 2 #[.val (.ref p0), .val (.int ch), .val (.ref x0), .val (.ref y0)] [(.int 1), (.int ch)]))) (fun _ kont => XS.iloadN X0.here hx rfl (hb hby d7_0) rfl (XS.iconst X0.here hx rfl (hb hby d7_1) kont)) ?_
  by_cases q1 : ch = (1 : Int32)
  · refine own_go (S' := (s₁.setTop (mkF m 7 #[.val (.ref p0), .val (.int ch), .val (.ref x0), .val (.ref y0)] [(.ref x0), (.ref p0)]))) (fun _ kont => XS.icmpNo X0.here hx rfl (hb hby d7_2) rfl (teq q1).2 (XS.aloadN X0.here hx rfl (hb hby d7_5) rfl rfl (XS.aloadN X0.here hx rfl (hb hby d7_6) rfl rfl kont))) ?_
    obtain ⟨cq1, kq1, q1a, q1b, q1c⟩ := isOf hZ e0 E_p0
    obtain ⟨v1, _, ⟨T1, L1, k1, n1⟩, -, X1, ⟨Lc1, hQ1, l1, y1, z1⟩, st1⟩ := X0.virtualBack hx (y := (⟨"com/example/otaniemi/otaniemi/Pending", "add", "(Lcom/example/otaniemi/otaniemi/State;)V"⟩ : MethodName)) (z := (⟨"com/example/otaniemi/otaniemi/Pending", "add", "(Lcom/example/otaniemi/otaniemi/State;)V"⟩ : MethodName)) hown (mvT hZ (oH hw 99 rfl)) (mvT hZ (oH hw 100 rfl)) (notFace_of_selects (args := #[]) (mvT hZ (oH hw 102 rfl))) (mvT hZ (oH hw 102 rfl)) (mvT hZ (oH hw 101 rfl)) (by decide) (backOf (W := 0) (rmAs l Z a0 hw [] p0 x0 nx0 cx0 dx0 h0 n0 Z0 E_p0 P U_x0 hc_x0) hZ (oH hw 103 rfl) (oH hw 56 rfl) (by decide) (by decide)) q1a q1c (g := (mkF m 7 #[.val (.ref p0), .val (.int ch), .val (.ref x0), .val (.ref y0)] [(.ref x0), (.ref p0)])) rfl (by rw [hml]; rfl) (Steps.refl _) (argsL := [(.ref x0)]) (rest := []) (lenOf pd_342 rfl) rfl (by show 2 * 0 + _ ≤ _; exact Nat.le_of_eq rfl) (hb hby d7_7) (fun _ _ => ⟨rfl, e0, (by decide : 0 + 1 ≤ _), (by decide : 0 + 4 ≤ _)⟩)
    dsimp only [Pt.U, Pt.locs, Pt.cells, Pt.slots] at X1 l1 y1 z1 st1 hQ1
    subst l1 y1 z1
    obtain ⟨rfl, Nq1, Kp1, P1⟩ := hQ1
    have N1 := Fr.app N0 Nq1
    have Z1 : n0 ≤ T1.heap.size := Nat.le_trans Z0 Kp1.1
    refine own_goT (S' := (T1.setTop (mkF m 10 #[.val (.ref p0), .val (.int ch), .val (.ref x0), .val (.ref y0)] []))) st1 ?_
    refine own_go (S' := (T1.setTop (mkF m 23 #[.val (.ref p0), .val (.int ch), .val (.ref x0), .val (.ref y0)] []))) (fun _ kont => XS.goto X1.here hx rfl (pc0 := 10) (pc' := 23) rfl (hb hby d7_10) (by decide) (by decide) kont) ?_
    refine own_ret0 X1 hx hlk Bd.returns (hb hby d7_23) (by decide) (by decide) ?_
    exact ⟨rfl, N1, Kp1, Or.inr (Or.inl ⟨rfl, if_neg (by rw [q1]; decide), P1⟩)⟩
  · refine own_go (S' := (s₁.setTop (mkF m 15 #[.val (.ref p0), .val (.int ch), .val (.ref x0), .val (.ref y0)] [(.int 2), (.int ch)]))) (fun _ kont => XS.icmpYes X0.here hx rfl (pc0 := 2) (pc' := 13) rfl (hb hby d7_2) rfl (feq q1).2 (by decide) (by decide) (XS.iloadN X0.here hx rfl (hb hby d7_13) rfl (XS.iconst X0.here hx rfl (hb hby d7_14) kont))) ?_
    by_cases q2 : ch = (2 : Int32)
    · refine own_go (S' := (s₁.setTop (mkF m 20 #[.val (.ref p0), .val (.int ch), .val (.ref x0), .val (.ref y0)] [(.ref y0), (.ref p0)]))) (fun _ kont => XS.icmpNo X0.here hx rfl (hb hby d7_15) rfl (teq q2).2 (XS.aloadN X0.here hx rfl (hb hby d7_18) rfl rfl (XS.aloadN X0.here hx rfl (hb hby d7_19) rfl rfl kont))) ?_
      obtain ⟨cq2, kq2, q2a, q2b, q2c⟩ := isOf hZ e0 E_p0
      obtain ⟨v2, _, ⟨T2, L2, k2, n2⟩, -, X2, ⟨Lc2, hQ2, l2, y2, z2⟩, st2⟩ := X0.virtualBack hx (y := (⟨"com/example/otaniemi/otaniemi/Pending", "add", "(Lcom/example/otaniemi/otaniemi/State;)V"⟩ : MethodName)) (z := (⟨"com/example/otaniemi/otaniemi/Pending", "add", "(Lcom/example/otaniemi/otaniemi/State;)V"⟩ : MethodName)) hown (mvT hZ (oH hw 99 rfl)) (mvT hZ (oH hw 100 rfl)) (notFace_of_selects (args := #[]) (mvT hZ (oH hw 102 rfl))) (mvT hZ (oH hw 102 rfl)) (mvT hZ (oH hw 101 rfl)) (by decide) (backOf (W := 0) (rmAd l Z a0 hw [] p0 y0 ny0 cy0 dy0 x0 nx0 cx0 dx0 h0 n0 Z0 E_p0 P U_x0 hne U_y0 hc_y0) hZ (oH hw 103 rfl) (oH hw 56 rfl) (by decide) (by decide)) q2a q2c (g := (mkF m 20 #[.val (.ref p0), .val (.int ch), .val (.ref x0), .val (.ref y0)] [(.ref y0), (.ref p0)])) rfl (by rw [hml]; rfl) (Steps.refl _) (argsL := [(.ref y0)]) (rest := []) (lenOf pd_342 rfl) rfl (by show 2 * 0 + _ ≤ _; exact Nat.le_of_eq rfl) (hb hby d7_20) (fun _ _ => ⟨rfl, e0, (by decide : 0 + 1 ≤ _), (by decide : 0 + 4 ≤ _)⟩)
      dsimp only [Pt.U, Pt.locs, Pt.cells, Pt.slots] at X2 l2 y2 z2 st2 hQ2
      subst l2 y2 z2
      obtain ⟨rfl, Nq2, Kp2, P2⟩ := hQ2
      have N2 := Fr.app N0 Nq2
      have Z2 : n0 ≤ T2.heap.size := Nat.le_trans Z0 Kp2.1
      refine own_goT (S' := (T2.setTop (mkF m 23 #[.val (.ref p0), .val (.int ch), .val (.ref x0), .val (.ref y0)] []))) st2 ?_
      refine own_ret0 X2 hx hlk Bd.returns (hb hby d7_23) (by decide) (by decide) ?_
      exact ⟨rfl, N2, Kp2, Or.inr (Or.inr (Or.inr ⟨rfl, if_pos q2, (P2).symm⟩))⟩
    · refine own_go (S' := (s₁.setTop (mkF m 23 #[.val (.ref p0), .val (.int ch), .val (.ref x0), .val (.ref y0)] []))) (fun _ kont => XS.icmpYes X0.here hx rfl (pc0 := 15) (pc' := 23) rfl (hb hby d7_15) rfl (feq q2).2 (by decide) (by decide) kont) ?_
      refine own_ret0 X0 hx hlk Bd.returns (hb hby d7_23) (by decide) (by decide) ?_
      rw [e0]
      exact ⟨rfl, N0, own_Kp.refl _ _, Or.inr (Or.inl ⟨rfl, if_neg q2, P.imp⟩)⟩
theorem ef_rmCb (m : MethodId) (x0 : Addr) (x1 : Int32) (x2 : Addr) (x3 : Addr) : entryFrame m #[(.ref x0), (.int x1), (.ref x2), (.ref x3)] 4 = mkF m 0 #[.val (.ref x0), .val (.int x1), .val (.ref x2), .val (.ref x3)] [] := by first | (simp [entryFrame, mkF, argsToLocals, Value.category]; done) | rfl
def Q_rmCb (Z : State) (p0 : Addr) (ch : Int32) (x0 : Addr) (nx0 cx0 dx0 : Int32) (y0 : Addr) (ny0 cy0 dy0 : Int32) (h0 : Heap) (n0 : Nat) (v : Option Value) (h : Heap) (L : List Loc) : Prop := v = none ∧ Fr n0 L ∧ own_Kp n0 h0 h ∧ own_E Z h n0 p0 x0 cx0 y0 cy0 (if ch = 1 then 1 else 0) 1
set_option maxRecDepth 65536 in
set_option maxHeartbeats 40000000 in
theorem rmCb (l : Launch) (Z : State) (a0 : Array Value) (hw : ∀ d ∈ tables_1, d.before a0 Z = true) (ws : List Jvm.Cond) (p0 : Addr) (ch : Int32) (x0 : Addr) (nx0 cx0 dx0 : Int32) (y0 : Addr) (ny0 cy0 dy0 : Int32) (h0 : Heap) (n0 : Nat) (Z0 : n0 ≤ h0.size) (E_p0 : Exa Z h0 p0 "com/example/otaniemi/otaniemi/Pending") (P : own_P1 own_okA Z h0 n0 p0 y0 cy0) (U_x0 : own_T Z n0 h0 x0 nx0 cx0 dx0) (U_y0 : own_T Z n0 h0 y0 ny0 cy0 dy0) (hc_x0 : cx0 = 0 ∨ cx0 = 1) (hc_y0 : cy0 = 0 ∨ cy0 = 1) (hne : x0 ≠ y0) :
    MetFree l (⟨"com/example/otaniemi/otaniemi/PendingGetSoleEndPinLaw", "addChoice", "(Lcom/example/otaniemi/otaniemi/Pending;ILcom/example/otaniemi/otaniemi/State;Lcom/example/otaniemi/otaniemi/State;)V"⟩ : MethodName) (head1 (Jvm.Cond.code (⟨"com/example/otaniemi/otaniemi/PendingGetSoleEndPinLaw", "addChoice", "(Lcom/example/otaniemi/otaniemi/Pending;ILcom/example/otaniemi/otaniemi/State;Lcom/example/otaniemi/otaniemi/State;)V"⟩ : MethodName) method_3_code 4 none :: ws) ({ frames := 4, cells := 1, slots := 4, locals := 61 } : Room)) (fun a U => a = #[(.ref p0), (.int ch), (.ref x0), (.ref y0)] ∧ Z.Warmed39 U.vm ∧ U.heap = h0) (fun _ _ _ _ _ => True) (fun _ U o U' => ∃ v L, o = .returned v ∧ Q_rmCb Z p0 ch x0 nx0 cx0 dx0 y0 ny0 cy0 dy0 h0 n0 v U'.heap L ∧ FrameEnd U o U' L ({ frames := 4, cells := 1, slots := 4, locals := 61 } : Room).cells ({ frames := 4, cells := 1, slots := 4, locals := 61 } : Room).slots) := by
  refine MetFree.of_bodySF (plainFor_of_name pn_347) hisR ?_
  intro p e s m args below meth c s₁ Bd hml0 hP hK
  obtain ⟨rfl, hZ, hh⟩ := hP
  have hx := Bd.exec
  have hby := Bd.bytes
  have hlk := Bd.notSynchronized
  have hml : c.maxLocals = 4 := hml0
  have hown : s.vm.findClass "com/example/otaniemi/otaniemi/PendingGetSoleEndPinLaw" = some m.cls := findClass_of_methodNamed Bd.named
  have hnm := (name_of_methodNamed Bd.named Bd.method).1
  have X0 : Stand p l e ({ frames := 4, cells := 1, slots := 4, locals := 61 } : Room) s m #[(.ref p0), (.int ch), (.ref x0), (.ref y0)] below meth c s₁ [] 0 0 := Stand.of_body Bd
  have e0 : s₁.heap = h0 := by rw [← hh, Bd.state]; rfl
  have N0 := Fr.nil n0
  change own_Go p e below s (Q_rmCb Z p0 ch x0 nx0 cx0 dx0 y0 ny0 cy0 dy0 h0 n0) ({ frames := 4, cells := 1, slots := 4, locals := 61 } : Room).cells ({ frames := 4, cells := 1, slots := 4, locals := 61 } : Room).slots _
  refine own_go (S' := (s₁.setTop (mkF m 0 #[.val (.ref p0), .val (.int ch), .val (.ref x0), .val (.ref y0)] []))) (fun _ kont => castTop (ef_rmCb m p0 ch x0 y0) kont) ?_
  refine own_go (S' := (s₁.setTop (mkF m 2 #[.val (.ref p0), .val (.int ch), .val (.ref x0), .val (.ref y0)] [(.int 1), (.int ch)]))) (fun _ kont => XS.iloadN X0.here hx rfl (hb hby d7_0) rfl (XS.iconst X0.here hx rfl (hb hby d7_1) kont)) ?_
  by_cases q1 : ch = (1 : Int32)
  · refine own_go (S' := (s₁.setTop (mkF m 7 #[.val (.ref p0), .val (.int ch), .val (.ref x0), .val (.ref y0)] [(.ref x0), (.ref p0)]))) (fun _ kont => XS.icmpNo X0.here hx rfl (hb hby d7_2) rfl (teq q1).2 (XS.aloadN X0.here hx rfl (hb hby d7_5) rfl rfl (XS.aloadN X0.here hx rfl (hb hby d7_6) rfl rfl kont))) ?_
    obtain ⟨cq1, kq1, q1a, q1b, q1c⟩ := isOf hZ e0 E_p0
    obtain ⟨v1, _, ⟨T1, L1, k1, n1⟩, -, X1, ⟨Lc1, hQ1, l1, y1, z1⟩, st1⟩ := X0.virtualBack hx (y := (⟨"com/example/otaniemi/otaniemi/Pending", "add", "(Lcom/example/otaniemi/otaniemi/State;)V"⟩ : MethodName)) (z := (⟨"com/example/otaniemi/otaniemi/Pending", "add", "(Lcom/example/otaniemi/otaniemi/State;)V"⟩ : MethodName)) hown (mvT hZ (oH hw 99 rfl)) (mvT hZ (oH hw 100 rfl)) (notFace_of_selects (args := #[]) (mvT hZ (oH hw 102 rfl))) (mvT hZ (oH hw 102 rfl)) (mvT hZ (oH hw 101 rfl)) (by decide) (backOf (W := 0) (rmAd l Z a0 hw [] p0 x0 nx0 cx0 dx0 y0 ny0 cy0 dy0 h0 n0 Z0 E_p0 P U_y0 hne.symm U_x0 hc_x0) hZ (oH hw 103 rfl) (oH hw 56 rfl) (by decide) (by decide)) q1a q1c (g := (mkF m 7 #[.val (.ref p0), .val (.int ch), .val (.ref x0), .val (.ref y0)] [(.ref x0), (.ref p0)])) rfl (by rw [hml]; rfl) (Steps.refl _) (argsL := [(.ref x0)]) (rest := []) (lenOf pd_342 rfl) rfl (by show 2 * 0 + _ ≤ _; exact Nat.le_of_eq rfl) (hb hby d7_7) (fun _ _ => ⟨rfl, e0, (by decide : 0 + 1 ≤ _), (by decide : 0 + 4 ≤ _)⟩)
    dsimp only [Pt.U, Pt.locs, Pt.cells, Pt.slots] at X1 l1 y1 z1 st1 hQ1
    subst l1 y1 z1
    obtain ⟨rfl, Nq1, Kp1, P1⟩ := hQ1
    have N1 := Fr.app N0 Nq1
    have Z1 : n0 ≤ T1.heap.size := Nat.le_trans Z0 Kp1.1
    refine own_goT (S' := (T1.setTop (mkF m 10 #[.val (.ref p0), .val (.int ch), .val (.ref x0), .val (.ref y0)] []))) st1 ?_
    refine own_go (S' := (T1.setTop (mkF m 23 #[.val (.ref p0), .val (.int ch), .val (.ref x0), .val (.ref y0)] []))) (fun _ kont => XS.goto X1.here hx rfl (pc0 := 10) (pc' := 23) rfl (hb hby d7_10) (by decide) (by decide) kont) ?_
    refine own_ret0 X1 hx hlk Bd.returns (hb hby d7_23) (by decide) (by decide) ?_
    exact ⟨rfl, N1, Kp1, Or.inr (Or.inr (Or.inr ⟨if_pos q1, rfl, P1⟩))⟩
  · refine own_go (S' := (s₁.setTop (mkF m 15 #[.val (.ref p0), .val (.int ch), .val (.ref x0), .val (.ref y0)] [(.int 2), (.int ch)]))) (fun _ kont => XS.icmpYes X0.here hx rfl (pc0 := 2) (pc' := 13) rfl (hb hby d7_2) rfl (feq q1).2 (by decide) (by decide) (XS.iloadN X0.here hx rfl (hb hby d7_13) rfl (XS.iconst X0.here hx rfl (hb hby d7_14) kont))) ?_
    by_cases q2 : ch = (2 : Int32)
    · refine own_go (S' := (s₁.setTop (mkF m 20 #[.val (.ref p0), .val (.int ch), .val (.ref x0), .val (.ref y0)] [(.ref y0), (.ref p0)]))) (fun _ kont => XS.icmpNo X0.here hx rfl (hb hby d7_15) rfl (teq q2).2 (XS.aloadN X0.here hx rfl (hb hby d7_18) rfl rfl (XS.aloadN X0.here hx rfl (hb hby d7_19) rfl rfl kont))) ?_
      obtain ⟨cq2, kq2, q2a, q2b, q2c⟩ := isOf hZ e0 E_p0
      obtain ⟨v2, _, ⟨T2, L2, k2, n2⟩, -, X2, ⟨Lc2, hQ2, l2, y2, z2⟩, st2⟩ := X0.virtualBack hx (y := (⟨"com/example/otaniemi/otaniemi/Pending", "add", "(Lcom/example/otaniemi/otaniemi/State;)V"⟩ : MethodName)) (z := (⟨"com/example/otaniemi/otaniemi/Pending", "add", "(Lcom/example/otaniemi/otaniemi/State;)V"⟩ : MethodName)) hown (mvT hZ (oH hw 99 rfl)) (mvT hZ (oH hw 100 rfl)) (notFace_of_selects (args := #[]) (mvT hZ (oH hw 102 rfl))) (mvT hZ (oH hw 102 rfl)) (mvT hZ (oH hw 101 rfl)) (by decide) (backOf (W := 0) (rmAs l Z a0 hw [] p0 y0 ny0 cy0 dy0 h0 n0 Z0 E_p0 P U_y0 hc_y0) hZ (oH hw 103 rfl) (oH hw 56 rfl) (by decide) (by decide)) q2a q2c (g := (mkF m 20 #[.val (.ref p0), .val (.int ch), .val (.ref x0), .val (.ref y0)] [(.ref y0), (.ref p0)])) rfl (by rw [hml]; rfl) (Steps.refl _) (argsL := [(.ref y0)]) (rest := []) (lenOf pd_342 rfl) rfl (by show 2 * 0 + _ ≤ _; exact Nat.le_of_eq rfl) (hb hby d7_20) (fun _ _ => ⟨rfl, e0, (by decide : 0 + 1 ≤ _), (by decide : 0 + 4 ≤ _)⟩)
      dsimp only [Pt.U, Pt.locs, Pt.cells, Pt.slots] at X2 l2 y2 z2 st2 hQ2
      subst l2 y2 z2
      obtain ⟨rfl, Nq2, Kp2, P2⟩ := hQ2
      have N2 := Fr.app N0 Nq2
      have Z2 : n0 ≤ T2.heap.size := Nat.le_trans Z0 Kp2.1
      refine own_goT (S' := (T2.setTop (mkF m 23 #[.val (.ref p0), .val (.int ch), .val (.ref x0), .val (.ref y0)] []))) st2 ?_
      refine own_ret0 X2 hx hlk Bd.returns (hb hby d7_23) (by decide) (by decide) ?_
      exact ⟨rfl, N2, Kp2, Or.inr (Or.inr (Or.inl ⟨if_neg q1, rfl, P2⟩))⟩
    · refine own_go (S' := (s₁.setTop (mkF m 23 #[.val (.ref p0), .val (.int ch), .val (.ref x0), .val (.ref y0)] []))) (fun _ kont => XS.icmpYes X0.here hx rfl (pc0 := 15) (pc' := 23) rfl (hb hby d7_15) rfl (feq q2).2 (by decide) (by decide) kont) ?_
      refine own_ret0 X0 hx hlk Bd.returns (hb hby d7_23) (by decide) (by decide) ?_
      rw [e0]
      exact ⟨rfl, N0, own_Kp.refl _ _, Or.inr (Or.inr (Or.inl ⟨if_neg q1, rfl, P.imp⟩))⟩
theorem d20_0 : decode prog_64_method_17_code 0 = .ok (.iconst 0, 1) := by decide +kernel
theorem d20_1 : decode prog_64_method_17_code 1 = .ok (.istore_n 2, 1) := by decide +kernel
theorem d20_2 : decode prog_64_method_17_code 2 = .ok (.iconst 0, 1) := by decide +kernel
theorem d20_3 : decode prog_64_method_17_code 3 = .ok (.istore_n 3, 1) := by decide +kernel
theorem d20_4 : decode prog_64_method_17_code 4 = .ok (.iload_n 3, 1) := by decide +kernel
theorem d20_5 : decode prog_64_method_17_code 5 = .ok (.aload_n 0, 1) := by decide +kernel
theorem d20_6 : decode prog_64_method_17_code 6 = .ok (.getfield 15, 3) := by decide +kernel
theorem d20_9 : decode prog_64_method_17_code 9 = .ok (.if_icmp .ge 31, 3) := by decide +kernel
theorem d20_40 : decode prog_64_method_17_code 40 = .ok (.aload_n 0, 1) := by decide +kernel
theorem d20_41 : decode prog_64_method_17_code 41 = .ok (.iload_n 2, 1) := by decide +kernel
theorem d20_42 : decode prog_64_method_17_code 42 = .ok (.putfield 15, 3) := by decide +kernel
theorem d20_45 : decode prog_64_method_17_code 45 = .ok (.return_, 1) := by decide +kernel
theorem ef_rmK0 (m : MethodId) (x0 : Addr) (x1 : Int32) : entryFrame m #[(.ref x0), (.int x1)] 4 = mkF m 0 #[.val (.ref x0), .val (.int x1), .unset, .unset] [] := by first | (simp [entryFrame, mkF, argsToLocals, Value.category]; done) | rfl
def Q_rmK0 (Z : State) (p0 : Addr) (gd : Int32) (h0 : Heap) (n0 : Nat) (v : Option Value) (h : Heap) (L : List Loc) : Prop := v = none ∧ Fr n0 L ∧ own_Kp n0 h0 h ∧ own_R Z h n0 p0 .null
set_option maxRecDepth 65536 in
set_option maxHeartbeats 40000000 in
theorem rmK0 (l : Launch) (Z : State) (a0 : Array Value) (hw : ∀ d ∈ tables_1, d.before a0 Z = true) (ws : List Jvm.Cond) (p0 : Addr) (gd : Int32) (h0 : Heap) (n0 : Nat) (Z0 : n0 ≤ h0.size) (P : own_P0 Z h0 n0 p0) :
    MetFree l (⟨"com/example/otaniemi/otaniemi/Pending", "keepEndsAbove", "(I)V"⟩ : MethodName) (head1 (Jvm.Cond.code (⟨"com/example/otaniemi/otaniemi/Pending", "keepEndsAbove", "(I)V"⟩ : MethodName) prog_64_method_17_code 4 none :: ws) ({ frames := 0, cells := 0, slots := 0, locals := 0 } : Room)) (fun a U => a = #[(.ref p0), (.int gd)] ∧ Z.Warmed39 U.vm ∧ U.heap = h0) (fun _ _ _ _ _ => True) (fun _ U o U' => ∃ v L, o = .returned v ∧ Q_rmK0 Z p0 gd h0 n0 v U'.heap L ∧ FrameEnd U o U' L ({ frames := 0, cells := 0, slots := 0, locals := 0 } : Room).cells ({ frames := 0, cells := 0, slots := 0, locals := 0 } : Room).slots) := by
  refine MetFree.of_bodySF (plainFor_of_name pn_151) hisR ?_
  intro p e s m args below meth c s₁ Bd hml0 hP hK
  obtain ⟨rfl, hZ, hh⟩ := hP
  have hx := Bd.exec
  have hby := Bd.bytes
  have hlk := Bd.notSynchronized
  have hml : c.maxLocals = 4 := hml0
  have hown : s.vm.findClass "com/example/otaniemi/otaniemi/Pending" = some m.cls := findClass_of_methodNamed Bd.named
  have hnm := (name_of_methodNamed Bd.named Bd.method).1
  have X0 : Stand p l e ({ frames := 0, cells := 0, slots := 0, locals := 0 } : Room) s m #[(.ref p0), (.int gd)] below meth c s₁ [] 0 0 := Stand.of_body Bd
  have e0 : s₁.heap = h0 := by rw [← hh, Bd.state]; rfl
  have N0 := Fr.nil n0
  change own_Go p e below s (Q_rmK0 Z p0 gd h0 n0) ({ frames := 0, cells := 0, slots := 0, locals := 0 } : Room).cells ({ frames := 0, cells := 0, slots := 0, locals := 0 } : Room).slots _
  refine own_go (S' := (s₁.setTop (mkF m 0 #[.val (.ref p0), .val (.int gd), .unset, .unset] []))) (fun _ kont => castTop (ef_rmK0 m p0 gd) kont) ?_
  obtain ⟨fa, kf, HC, HN⟩ := P
  obtain ⟨g_p0, g_fa, E_p0, F_p0_found, F_p0_foundCount, F_p0_passed, V_fa, O_fa⟩ := HC
  have F_p0_values := HN
  unfold own_Vn at F_p0_values
  have npf := E_p0.neArv V_fa (oH hw 55 rfl)
  have K0 := Keep.refl h0 [p0, fa]
  refine own_go (S' := (s₁.setTop (mkF m 6 #[.val (.ref p0), .val (.int gd), .val (.int 0), .val (.int 0)] [(.ref p0), (.int 0)]))) (fun _ kont => XS.iconst X0.here hx rfl (hb hby d20_0) (XS.istoreN X0.here hx rfl (hb hby d20_1) rfl (l' := #[.val (.ref p0), .val (.int gd), .val (.int 0), .unset]) rfl (XS.iconst X0.here hx rfl (hb hby d20_2) (XS.istoreN X0.here hx rfl (hb hby d20_3) rfl (l' := #[.val (.ref p0), .val (.int gd), .val (.int 0), .val (.int 0)]) rfl (XS.iloadN X0.here hx rfl (hb hby d20_4) rfl (XS.aloadN X0.here hx rfl (hb hby d20_5) rfl rfl kont)))))) ?_
  obtain ⟨T1, X1, e1, st1⟩ := getF X0 hx hZ hown (host := "") (Or.inl (oH hw 74 rfl)) Via.refl e0 F_p0_foundCount (g := (mkF m 6 #[.val (.ref p0), .val (.int gd), .val (.int 0), .val (.int 0)] [(.ref p0), (.int 0)])) rfl rfl (hb hby d20_6)
  refine own_go (S' := (T1.setTop (mkF m 9 #[.val (.ref p0), .val (.int gd), .val (.int 0), .val (.int 0)] [(.int 0), (.int 0)]))) st1 ?_
  refine own_go (S' := (T1.setTop (mkF m 42 #[.val (.ref p0), .val (.int gd), .val (.int 0), .val (.int 0)] [(.int 0), (.ref p0)]))) (fun _ kont => XS.icmpYes X1.here hx rfl (pc0 := 9) (pc' := 40) rfl (hb hby d20_9) rfl (flt (by decide)).2.1 (by decide) (by decide) (XS.aloadN X1.here hx rfl (hb hby d20_40) rfl rfl (XS.iloadN X1.here hx rfl (hb hby d20_41) rfl kont))) ?_
  obtain ⟨T2, h2, X2, e2, W2, st2⟩ := putF X1 hx hZ hown (host := "") (Or.inl (oH hw 74 rfl)) Via.refl e1 F_p0_foundCount E_p0 (Or.inl (oH hw 75 rfl)) (oH hw 55 rfl) (ty := .int) (by decide) rfl rfl (g := (mkF m 42 #[.val (.ref p0), .val (.int gd), .val (.int 0), .val (.int 0)] [(.int 0), (.ref p0)])) rfl rfl (hb hby d20_42)
  have c2_Ep0 := E_p0.wr W2
  have c2_Fp0_found := F_p0_found.other W2 (Or.inr (slot_ne (Or.inl (oH hw 64 rfl)) (Or.inl (oH hw 75 rfl)) (by decide) (by decide : parseFieldDescriptor "[Lcom/example/otaniemi/otaniemi/State;" = some (.array (.object "com/example/otaniemi/otaniemi/State"))) (by decide : parseFieldDescriptor "I" = some .int)))
  have c2_Fp0_foundCount := F_p0_foundCount.same W2
  have c2_Fp0_passed := F_p0_passed.other W2 (Or.inr (slot_ne (Or.inl (oH hw 125 rfl)) (Or.inl (oH hw 75 rfl)) (by decide) (by decide : parseFieldDescriptor "Lcom/example/otaniemi/otaniemi/Pending$Passed;" = some (.object "com/example/otaniemi/otaniemi/Pending$Passed")) (by decide : parseFieldDescriptor "I" = some .int)))
  have c2_Fp0_values := F_p0_values.other W2 (Or.inr (slot_ne (Or.inl (oH hw 123 rfl)) (Or.inl (oH hw 75 rfl)) (by decide) (by decide : parseFieldDescriptor "[J" = some (.array .long)) (by decide : parseFieldDescriptor "I" = some .int)))
  have c2_Vfa := V_fa.other W2 (Ne.symm npf)
  have K2 := K0.wr W2 (Or.inl (List.mem_of_getElem? (i := 0) rfl))
  have N2 := Fr.snoc X2 N0 g_p0
  have Z2 : n0 ≤ h2.size := Nat.le_trans Z0 (Nat.le_of_eq W2.size.symm)
  refine own_go (S' := (T2.setTop (mkF m 45 #[.val (.ref p0), .val (.int gd), .val (.int 0), .val (.int 0)] []))) st2 ?_
  refine own_ret0 X2 hx hlk Bd.returns (hb hby d20_45) (by decide) (by decide) ?_
  rw [e2]
  exact ⟨rfl, N2, own_Kp.keep K2 (own_gS g_p0 (own_gS g_fa own_g0)), Or.inl ⟨_, c2_Ep0, c2_Fp0_foundCount, by decide, rfl⟩⟩
theorem d20_12 : decode prog_64_method_17_code 12 = .ok (.aload_n 0, 1) := by decide +kernel
theorem d20_13 : decode prog_64_method_17_code 13 = .ok (.getfield 9, 3) := by decide +kernel
theorem d20_16 : decode prog_64_method_17_code 16 = .ok (.iload_n 3, 1) := by decide +kernel
theorem d20_17 : decode prog_64_method_17_code 17 = .ok (.aaload, 1) := by decide +kernel
theorem d20_18 : decode prog_64_method_17_code 18 = .ok (.iload_n 1, 1) := by decide +kernel
theorem d20_19 : decode prog_64_method_17_code 19 = .ok (.invokevirtual 167, 3) := by decide +kernel
theorem pd_366 : parseMethodDescriptor "(I)Z" = some ⟨[.int], some .boolean⟩ := by decide +kernel
theorem d20_22 : decode prog_64_method_17_code 22 = .ok (.ifCond .eq 12, 3) := by decide +kernel
theorem d20_34 : decode prog_64_method_17_code 34 = .ok (.iinc 3 1, 3) := by decide +kernel
theorem d20_37 : decode prog_64_method_17_code 37 = .ok (.goto (-33), 3) := by decide +kernel
theorem d20_25 : decode prog_64_method_17_code 25 = .ok (.aload_n 0, 1) := by decide +kernel
theorem d20_26 : decode prog_64_method_17_code 26 = .ok (.iload_n 3, 1) := by decide +kernel
theorem d20_27 : decode prog_64_method_17_code 27 = .ok (.iload_n 2, 1) := by decide +kernel
theorem d20_28 : decode prog_64_method_17_code 28 = .ok (.invokevirtual 111, 3) := by decide +kernel
theorem d20_31 : decode prog_64_method_17_code 31 = .ok (.iinc 2 1, 3) := by decide +kernel
theorem ef_rmK1 (m : MethodId) (x0 : Addr) (x1 : Int32) : entryFrame m #[(.ref x0), (.int x1)] 4 = mkF m 0 #[.val (.ref x0), .val (.int x1), .unset, .unset] [] := by first | (simp [entryFrame, mkF, argsToLocals, Value.category]; done) | rfl
def Q_rmK1 (Z : State) (p0 : Addr) (gd : Int32) (x0 : Addr) (nx0 cx0 dx0 : Int32) (h0 : Heap) (n0 : Nat) (v : Option Value) (h : Heap) (L : List Loc) : Prop := v = none ∧ Fr n0 L ∧ own_Kp n0 h0 h ∧ own_R Z h n0 p0 (own_r1 dx0 cx0 x0)
set_option maxRecDepth 65536 in
set_option maxHeartbeats 40000000 in
theorem rmK1 (l : Launch) (Z : State) (a0 : Array Value) (hw : ∀ d ∈ tables_1, d.before a0 Z = true) (ws : List Jvm.Cond) (p0 : Addr) (gd : Int32) (x0 : Addr) (nx0 cx0 dx0 : Int32) (h0 : Heap) (n0 : Nat) (Z0 : n0 ≤ h0.size) (P : own_P1 own_okB Z h0 n0 p0 x0 cx0) (U_x0 : own_T Z n0 h0 x0 nx0 cx0 dx0) (hd_x0 : dx0 = 0 ∨ dx0 = 1) :
    MetFree l (⟨"com/example/otaniemi/otaniemi/Pending", "keepEndsAbove", "(I)V"⟩ : MethodName) (head1 (Jvm.Cond.code (⟨"com/example/otaniemi/otaniemi/Pending", "keepEndsAbove", "(I)V"⟩ : MethodName) prog_64_method_17_code 4 none :: ws) ({ frames := 2, cells := 0, slots := 0, locals := 32 } : Room)) (fun a U => a = #[(.ref p0), (.int gd)] ∧ Z.Warmed39 U.vm ∧ U.heap = h0) (fun _ _ _ _ _ => True) (fun _ U o U' => ∃ v L, o = .returned v ∧ Q_rmK1 Z p0 gd x0 nx0 cx0 dx0 h0 n0 v U'.heap L ∧ FrameEnd U o U' L ({ frames := 2, cells := 0, slots := 0, locals := 32 } : Room).cells ({ frames := 2, cells := 0, slots := 0, locals := 32 } : Room).slots) := by
  refine MetFree.of_bodySF (plainFor_of_name pn_151) hisR ?_
  intro p e s m args below meth c s₁ Bd hml0 hP hK
  obtain ⟨rfl, hZ, hh⟩ := hP
  have hx := Bd.exec
  have hby := Bd.bytes
  have hlk := Bd.notSynchronized
  have hml : c.maxLocals = 4 := hml0
  have hown : s.vm.findClass "com/example/otaniemi/otaniemi/Pending" = some m.cls := findClass_of_methodNamed Bd.named
  have hnm := (name_of_methodNamed Bd.named Bd.method).1
  have X0 : Stand p l e ({ frames := 2, cells := 0, slots := 0, locals := 32 } : Room) s m #[(.ref p0), (.int gd)] below meth c s₁ [] 0 0 := Stand.of_body Bd
  have e0 : s₁.heap = h0 := by rw [← hh, Bd.state]; rfl
  have N0 := Fr.nil n0
  change own_Go p e below s (Q_rmK1 Z p0 gd x0 nx0 cx0 dx0 h0 n0) ({ frames := 2, cells := 0, slots := 0, locals := 32 } : Room).cells ({ frames := 2, cells := 0, slots := 0, locals := 32 } : Room).slots _
  refine own_go (S' := (s₁.setTop (mkF m 0 #[.val (.ref p0), .val (.int gd), .unset, .unset] []))) (fun _ kont => castTop (ef_rmK1 m p0 gd) kont) ?_
  obtain ⟨fa, kf, f1, HC, hm⟩ := P
  rcases hm with ⟨HN, rfl⟩ | ⟨va, kv, v0, v1, HV, q0⟩
  · obtain ⟨g_p0, g_fa, E_p0, F_p0_found, F_p0_foundCount, F_p0_passed, V_fa, O_fa⟩ := HC
    have F_p0_values := HN
    unfold own_Vn at F_p0_values
    have npf := E_p0.neArv V_fa (oH hw 55 rfl)
    have K0 := Keep.refl h0 [p0, fa]
    rcases hd_x0 with rfl | rfl
    · refine own_go (S' := (s₁.setTop (mkF m 6 #[.val (.ref p0), .val (.int gd), .val (.int 0), .val (.int 0)] [(.ref p0), (.int 0)]))) (fun _ kont => XS.iconst X0.here hx rfl (hb hby d20_0) (XS.istoreN X0.here hx rfl (hb hby d20_1) rfl (l' := #[.val (.ref p0), .val (.int gd), .val (.int 0), .unset]) rfl (XS.iconst X0.here hx rfl (hb hby d20_2) (XS.istoreN X0.here hx rfl (hb hby d20_3) rfl (l' := #[.val (.ref p0), .val (.int gd), .val (.int 0), .val (.int 0)]) rfl (XS.iloadN X0.here hx rfl (hb hby d20_4) rfl (XS.aloadN X0.here hx rfl (hb hby d20_5) rfl rfl kont)))))) ?_
      obtain ⟨T1, X1, e1, st1⟩ := getF X0 hx hZ hown (host := "") (Or.inl (oH hw 74 rfl)) Via.refl e0 F_p0_foundCount (g := (mkF m 6 #[.val (.ref p0), .val (.int gd), .val (.int 0), .val (.int 0)] [(.ref p0), (.int 0)])) rfl rfl (hb hby d20_6)
      refine own_go (S' := (T1.setTop (mkF m 9 #[.val (.ref p0), .val (.int gd), .val (.int 0), .val (.int 0)] [(.int 1), (.int 0)]))) st1 ?_
      refine own_go (S' := (T1.setTop (mkF m 13 #[.val (.ref p0), .val (.int gd), .val (.int 0), .val (.int 0)] [(.ref p0)]))) (fun _ kont => XS.icmpNo X1.here hx rfl (hb hby d20_9) rfl (tlt (by decide)).2.1 (XS.aloadN X1.here hx rfl (hb hby d20_12) rfl rfl kont)) ?_
      obtain ⟨T2, X2, e2, st2⟩ := getF X1 hx hZ hown (host := "") (Or.inl (oH hw 63 rfl)) Via.refl e1 F_p0_found (g := (mkF m 13 #[.val (.ref p0), .val (.int gd), .val (.int 0), .val (.int 0)] [(.ref p0)])) rfl rfl (hb hby d20_13)
      refine own_go (S' := (T2.setTop (mkF m 16 #[.val (.ref p0), .val (.int gd), .val (.int 0), .val (.int 0)] [(.ref fa)]))) st2 ?_
      refine own_go (S' := (T2.setTop (mkF m 17 #[.val (.ref p0), .val (.int gd), .val (.int 0), .val (.int 0)] [(.int 0), (.ref fa)]))) (fun _ kont => XS.iloadN X2.here hx rfl (hb hby d20_16) rfl kont) ?_
      obtain ⟨cl3, Ar3, -, S3, -, H3, -⟩ := id V_fa
      have hin3 := inb_of (j := (0 : Int32)) S3 ⟨by decide, by decide⟩
      have hat3 := Has.at (v := (.ref x0)) H3 hin3 (by first | rfl | decide)
      refine own_go (S' := (T2.setTop (mkF m 18 #[.val (.ref p0), .val (.int gd), .val (.int 0), .val (.int 0)] [(.ref x0)]))) (fun _ kont => X2.aaload hx (j := (0 : Int32)) (v := (.ref x0)) (by rw [e2]; exact Ar3.1) (State.isArrayOf_alike hZ.alike Ar3.2.1) rfl Ar3.2.2 hin3 hat3 (g := (mkF m 17 #[.val (.ref p0), .val (.int gd), .val (.int 0), .val (.int 0)] [(.int 0), (.ref fa)])) rfl rfl (hb hby d20_17) _ kont) ?_
      refine own_go (S' := (T2.setTop (mkF m 19 #[.val (.ref p0), .val (.int gd), .val (.int 0), .val (.int 0)] [(.int gd), (.ref x0)]))) (fun _ kont => XS.iloadN X2.here hx rfl (hb hby d20_18) rfl kont) ?_
      obtain ⟨lx4, Ex4, Fn4, Fd4, Fi4, pp4, lp4, Fp4, Ep4, Fc4⟩ := id U_x0
      obtain ⟨cq5, kq5, q5a, q5b, q5c⟩ := isOf hZ e2 Ex4
      obtain ⟨v5, _, ⟨T5, L5, k5, n5⟩, -, X5, ⟨Lc5, hQ5, l5, y5, z5⟩, st5⟩ := X2.virtualBack hx (y := (⟨"com/example/otaniemi/otaniemi/State", "isEndAbove", "(I)Z"⟩ : MethodName)) (z := (⟨"com/example/otaniemi/otaniemi/State", "isEndAbove", "(I)Z"⟩ : MethodName)) hown (mvT hZ (oH hw 140 rfl)) (mvT hZ (oH hw 141 rfl)) (notFace_of_selects (args := #[]) (mvT hZ (oH hw 143 rfl))) (mvT hZ (oH hw 143 rfl)) (mvT hZ (oH hw 142 rfl)) (by decide) (backOf (W := 0) (rmEa l Z a0 hw [] x0 gd _ _ (0 : Int32) h0 n0 Z0 U_x0 (by decide)) hZ (oH hw 144 rfl) (oH hw 2 rfl) (by decide) (by decide)) q5a q5c (g := (mkF m 19 #[.val (.ref p0), .val (.int gd), .val (.int 0), .val (.int 0)] [(.int gd), (.ref x0)])) rfl (by rw [hml]; rfl) (Steps.refl _) (argsL := [(.int gd)]) (rest := []) (lenOf pd_366 rfl) rfl (by show 2 * 0 + _ ≤ _; exact Nat.le_of_eq rfl) (hb hby d20_19) (fun _ _ => ⟨rfl, e2, (by decide : 0 + 0 ≤ _), (by decide : 0 + 0 ≤ _)⟩)
      dsimp only [Pt.U, Pt.locs, Pt.cells, Pt.slots] at X5 l5 y5 z5 st5 hQ5
      subst l5 y5 z5
      obtain ⟨rfl, eh5, rfl⟩ := hQ5
      have N5 := Fr.app N0 (Fr.nil n0)
      refine own_goT (S' := (T5.setTop (mkF m 22 #[.val (.ref p0), .val (.int gd), .val (.int 0), .val (.int 0)] [(.int 0)]))) st5 ?_
      refine own_go (S' := (T5.setTop (mkF m 37 #[.val (.ref p0), .val (.int gd), .val (.int 0), .val (.int ((0 : Int32) + (1 : Int32)))] []))) (fun _ kont => XS.ifYes X5.here hx rfl (pc0 := 22) (pc' := 34) rfl (hb hby d20_22) rfl ((if0 _ _).trans (teq (by decide)).1) (by decide) (by decide) (XS.iinc X5.here hx rfl (hb hby d20_34) rfl (l' := #[.val (.ref p0), .val (.int gd), .val (.int 0), .val (.int ((0 : Int32) + (1 : Int32)))]) rfl kont)) ?_
      rw [show ((0 : Int32) + (1 : Int32)) = (1 : Int32) from by decide]
      refine own_go (S' := (T5.setTop (mkF m 6 #[.val (.ref p0), .val (.int gd), .val (.int 0), .val (.int 1)] [(.ref p0), (.int 1)]))) (fun _ kont => XS.goto X5.here hx rfl (pc0 := 37) (pc' := 4) rfl (hb hby d20_37) (by decide) (by decide) (XS.iloadN X5.here hx rfl (hb hby d20_4) rfl (XS.aloadN X5.here hx rfl (hb hby d20_5) rfl rfl kont))) ?_
      obtain ⟨T6, X6, e6, st6⟩ := getF X5 hx hZ hown (host := "") (Or.inl (oH hw 74 rfl)) Via.refl eh5 F_p0_foundCount (g := (mkF m 6 #[.val (.ref p0), .val (.int gd), .val (.int 0), .val (.int 1)] [(.ref p0), (.int 1)])) rfl rfl (hb hby d20_6)
      refine own_go (S' := (T6.setTop (mkF m 9 #[.val (.ref p0), .val (.int gd), .val (.int 0), .val (.int 1)] [(.int 1), (.int 1)]))) st6 ?_
      refine own_go (S' := (T6.setTop (mkF m 42 #[.val (.ref p0), .val (.int gd), .val (.int 0), .val (.int 1)] [(.int 0), (.ref p0)]))) (fun _ kont => XS.icmpYes X6.here hx rfl (pc0 := 9) (pc' := 40) rfl (hb hby d20_9) rfl (flt (by decide)).2.1 (by decide) (by decide) (XS.aloadN X6.here hx rfl (hb hby d20_40) rfl rfl (XS.iloadN X6.here hx rfl (hb hby d20_41) rfl kont))) ?_
      obtain ⟨T7, h7, X7, e7, W7, st7⟩ := putF X6 hx hZ hown (host := "") (Or.inl (oH hw 74 rfl)) Via.refl e6 F_p0_foundCount E_p0 (Or.inl (oH hw 75 rfl)) (oH hw 55 rfl) (ty := .int) (by decide) rfl rfl (g := (mkF m 42 #[.val (.ref p0), .val (.int gd), .val (.int 0), .val (.int 1)] [(.int 0), (.ref p0)])) rfl rfl (hb hby d20_42)
      have c7_Ep0 := E_p0.wr W7
      have c7_Fp0_found := F_p0_found.other W7 (Or.inr (slot_ne (Or.inl (oH hw 64 rfl)) (Or.inl (oH hw 75 rfl)) (by decide) (by decide : parseFieldDescriptor "[Lcom/example/otaniemi/otaniemi/State;" = some (.array (.object "com/example/otaniemi/otaniemi/State"))) (by decide : parseFieldDescriptor "I" = some .int)))
      have c7_Fp0_foundCount := F_p0_foundCount.same W7
      have c7_Fp0_passed := F_p0_passed.other W7 (Or.inr (slot_ne (Or.inl (oH hw 125 rfl)) (Or.inl (oH hw 75 rfl)) (by decide) (by decide : parseFieldDescriptor "Lcom/example/otaniemi/otaniemi/Pending$Passed;" = some (.object "com/example/otaniemi/otaniemi/Pending$Passed")) (by decide : parseFieldDescriptor "I" = some .int)))
      have c7_Fp0_values := F_p0_values.other W7 (Or.inr (slot_ne (Or.inl (oH hw 123 rfl)) (Or.inl (oH hw 75 rfl)) (by decide) (by decide : parseFieldDescriptor "[J" = some (.array .long)) (by decide : parseFieldDescriptor "I" = some .int)))
      have c7_Vfa := V_fa.other W7 (Ne.symm npf)
      have c7_Ux0 := U_x0.kp (own_Kp.wr W7 g_p0)
      have K7 := K0.wr W7 (Or.inl (List.mem_of_getElem? (i := 0) rfl))
      have N7 := Fr.snoc X7 N5 g_p0
      have Z7 : n0 ≤ h7.size := Nat.le_trans Z0 (Nat.le_of_eq W7.size.symm)
      refine own_go (S' := (T7.setTop (mkF m 45 #[.val (.ref p0), .val (.int gd), .val (.int 0), .val (.int 1)] []))) st7 ?_
      refine own_ret0 X7 hx hlk Bd.returns (hb hby d20_45) (by decide) (by decide) ?_
      rw [e7]
      exact ⟨rfl, N7, own_Kp.keep K7 (own_gS g_p0 (own_gS g_fa own_g0)), Or.inl ⟨_, c7_Ep0, c7_Fp0_foundCount, by decide, own_r1_0 _ _⟩⟩
    · refine own_go (S' := (s₁.setTop (mkF m 6 #[.val (.ref p0), .val (.int gd), .val (.int 0), .val (.int 0)] [(.ref p0), (.int 0)]))) (fun _ kont => XS.iconst X0.here hx rfl (hb hby d20_0) (XS.istoreN X0.here hx rfl (hb hby d20_1) rfl (l' := #[.val (.ref p0), .val (.int gd), .val (.int 0), .unset]) rfl (XS.iconst X0.here hx rfl (hb hby d20_2) (XS.istoreN X0.here hx rfl (hb hby d20_3) rfl (l' := #[.val (.ref p0), .val (.int gd), .val (.int 0), .val (.int 0)]) rfl (XS.iloadN X0.here hx rfl (hb hby d20_4) rfl (XS.aloadN X0.here hx rfl (hb hby d20_5) rfl rfl kont)))))) ?_
      obtain ⟨T8, X8, e8, st8⟩ := getF X0 hx hZ hown (host := "") (Or.inl (oH hw 74 rfl)) Via.refl e0 F_p0_foundCount (g := (mkF m 6 #[.val (.ref p0), .val (.int gd), .val (.int 0), .val (.int 0)] [(.ref p0), (.int 0)])) rfl rfl (hb hby d20_6)
      refine own_go (S' := (T8.setTop (mkF m 9 #[.val (.ref p0), .val (.int gd), .val (.int 0), .val (.int 0)] [(.int 1), (.int 0)]))) st8 ?_
      refine own_go (S' := (T8.setTop (mkF m 13 #[.val (.ref p0), .val (.int gd), .val (.int 0), .val (.int 0)] [(.ref p0)]))) (fun _ kont => XS.icmpNo X8.here hx rfl (hb hby d20_9) rfl (tlt (by decide)).2.1 (XS.aloadN X8.here hx rfl (hb hby d20_12) rfl rfl kont)) ?_
      obtain ⟨T9, X9, e9, st9⟩ := getF X8 hx hZ hown (host := "") (Or.inl (oH hw 63 rfl)) Via.refl e8 F_p0_found (g := (mkF m 13 #[.val (.ref p0), .val (.int gd), .val (.int 0), .val (.int 0)] [(.ref p0)])) rfl rfl (hb hby d20_13)
      refine own_go (S' := (T9.setTop (mkF m 16 #[.val (.ref p0), .val (.int gd), .val (.int 0), .val (.int 0)] [(.ref fa)]))) st9 ?_
      refine own_go (S' := (T9.setTop (mkF m 17 #[.val (.ref p0), .val (.int gd), .val (.int 0), .val (.int 0)] [(.int 0), (.ref fa)]))) (fun _ kont => XS.iloadN X9.here hx rfl (hb hby d20_16) rfl kont) ?_
      obtain ⟨cl10, Ar10, -, S10, -, H10, -⟩ := id V_fa
      have hin10 := inb_of (j := (0 : Int32)) S10 ⟨by decide, by decide⟩
      have hat10 := Has.at (v := (.ref x0)) H10 hin10 (by first | rfl | decide)
      refine own_go (S' := (T9.setTop (mkF m 18 #[.val (.ref p0), .val (.int gd), .val (.int 0), .val (.int 0)] [(.ref x0)]))) (fun _ kont => X9.aaload hx (j := (0 : Int32)) (v := (.ref x0)) (by rw [e9]; exact Ar10.1) (State.isArrayOf_alike hZ.alike Ar10.2.1) rfl Ar10.2.2 hin10 hat10 (g := (mkF m 17 #[.val (.ref p0), .val (.int gd), .val (.int 0), .val (.int 0)] [(.int 0), (.ref fa)])) rfl rfl (hb hby d20_17) _ kont) ?_
      refine own_go (S' := (T9.setTop (mkF m 19 #[.val (.ref p0), .val (.int gd), .val (.int 0), .val (.int 0)] [(.int gd), (.ref x0)]))) (fun _ kont => XS.iloadN X9.here hx rfl (hb hby d20_18) rfl kont) ?_
      obtain ⟨lx11, Ex11, Fn11, Fd11, Fi11, pp11, lp11, Fp11, Ep11, Fc11⟩ := id U_x0
      obtain ⟨cq12, kq12, q12a, q12b, q12c⟩ := isOf hZ e9 Ex11
      obtain ⟨v12, _, ⟨T12, L12, k12, n12⟩, -, X12, ⟨Lc12, hQ12, l12, y12, z12⟩, st12⟩ := X9.virtualBack hx (y := (⟨"com/example/otaniemi/otaniemi/State", "isEndAbove", "(I)Z"⟩ : MethodName)) (z := (⟨"com/example/otaniemi/otaniemi/State", "isEndAbove", "(I)Z"⟩ : MethodName)) hown (mvT hZ (oH hw 140 rfl)) (mvT hZ (oH hw 141 rfl)) (notFace_of_selects (args := #[]) (mvT hZ (oH hw 143 rfl))) (mvT hZ (oH hw 143 rfl)) (mvT hZ (oH hw 142 rfl)) (by decide) (backOf (W := 0) (rmEa l Z a0 hw [] x0 gd _ _ (1 : Int32) h0 n0 Z0 U_x0 (by decide)) hZ (oH hw 144 rfl) (oH hw 2 rfl) (by decide) (by decide)) q12a q12c (g := (mkF m 19 #[.val (.ref p0), .val (.int gd), .val (.int 0), .val (.int 0)] [(.int gd), (.ref x0)])) rfl (by rw [hml]; rfl) (Steps.refl _) (argsL := [(.int gd)]) (rest := []) (lenOf pd_366 rfl) rfl (by show 2 * 0 + _ ≤ _; exact Nat.le_of_eq rfl) (hb hby d20_19) (fun _ _ => ⟨rfl, e9, (by decide : 0 + 0 ≤ _), (by decide : 0 + 0 ≤ _)⟩)
      dsimp only [Pt.U, Pt.locs, Pt.cells, Pt.slots] at X12 l12 y12 z12 st12 hQ12
      subst l12 y12 z12
      obtain ⟨rfl, eh12, rfl⟩ := hQ12
      have N12 := Fr.app N0 (Fr.nil n0)
      refine own_goT (S' := (T12.setTop (mkF m 22 #[.val (.ref p0), .val (.int gd), .val (.int 0), .val (.int 0)] [(.int 1)]))) st12 ?_
      refine own_go (S' := (T12.setTop (mkF m 28 #[.val (.ref p0), .val (.int gd), .val (.int 0), .val (.int 0)] [(.int 0), (.int 0), (.ref p0)]))) (fun _ kont => XS.ifNo X12.here hx rfl (hb hby d20_22) rfl ((if0 _ _).trans (feq (by decide)).1) (XS.aloadN X12.here hx rfl (hb hby d20_25) rfl rfl (XS.iloadN X12.here hx rfl (hb hby d20_26) rfl (XS.iloadN X12.here hx rfl (hb hby d20_27) rfl kont)))) ?_
      obtain ⟨cq13, qp13, qp13'⟩ := E_p0.cell
      obtain ⟨v13, _, ⟨T13, L13, k13, n13⟩, -, X13, ⟨Lc13, hQ13, l13, y13, z13⟩, st13⟩ := X12.privateBack hx (y := (⟨"com/example/otaniemi/otaniemi/Pending", "move", "(II)V"⟩ : MethodName)) hown (mvT hZ (oH hw 150 rfl)) (mvT hZ (oH hw 151 rfl)) (own_selP (args := #[]) (mvT hZ (oH hw 55 rfl)) (mvP hZ (oH hw 152 rfl)) (mvT hZ (oH hw 151 rfl)) (by decide)) (Cond.privateMethod_at (mvP hZ (oH hw 152 rfl) (args := #[]))) (mvT hZ (oH hw 153 rfl)) (by decide) (backOf (W := 0) (rmMv00N l Z a0 hw [] p0 fa kf (1 : Int32) f1 x0 h0 n0 Z0 E_p0 F_p0_found F_p0_foundCount F_p0_passed F_p0_values g_p0 g_fa V_fa O_fa U_x0.2.1) hZ (oH hw 153 rfl) (oH hw 56 rfl) (by decide) (by decide)) (g := (mkF m 28 #[.val (.ref p0), .val (.int gd), .val (.int 0), .val (.int 0)] [(.int 0), (.int 0), (.ref p0)])) rfl (by rw [hml]; rfl) (Steps.refl _) (a := p0) (by rw [eh12]; exact qp13) qp13' (argsL := [(.int 0), (.int 0)]) (rest := []) (lenOf pd_318 rfl) rfl (by show 2 * 0 + _ ≤ _; exact Nat.le_of_eq rfl) (hb hby d20_28) (fun _ _ => ⟨rfl, eh12, (by decide : 0 + 0 ≤ _), (by decide : 0 + 0 ≤ _)⟩)
      dsimp only [Pt.U, Pt.locs, Pt.cells, Pt.slots] at X13 l13 y13 z13 st13 hQ13
      subst l13 y13 z13
      obtain ⟨rfl, Nq13, Kc13, Vf13⟩ := hQ13
      have Kt13 := K0.trans Kc13 (fun x hx => by simp only [List.mem_cons, List.mem_singleton, List.not_mem_nil, or_false] at hx; rcases hx with rfl <;> first | (left; simp; done) | (right; assumption))
      have N13 := Fr.app N12 Nq13
      have Z13 : n0 ≤ T13.heap.size := Nat.le_trans Z0 Kc13.1
      have c13_Ep0 := E_p0.keep Kc13
      have c13_Fp0_found := F_p0_found.keep Kc13 (ninS npf nin0)
      have c13_Fp0_foundCount := F_p0_foundCount.keep Kc13 (ninS npf nin0)
      have c13_Fp0_passed := F_p0_passed.keep Kc13 (ninS npf nin0)
      have c13_Fp0_values := F_p0_values.keep Kc13 (ninS npf nin0)
      have c13_Ux0 := U_x0.kp (own_Kp.keep Kc13 (own_gS g_fa own_g0))
      refine own_goT (S' := (T13.setTop (mkF m 31 #[.val (.ref p0), .val (.int gd), .val (.int 0), .val (.int 0)] []))) st13 ?_
      refine own_go (S' := (T13.setTop (mkF m 34 #[.val (.ref p0), .val (.int gd), .val (.int ((0 : Int32) + (1 : Int32))), .val (.int 0)] []))) (fun _ kont => XS.iinc X13.here hx rfl (hb hby d20_31) rfl (l' := #[.val (.ref p0), .val (.int gd), .val (.int ((0 : Int32) + (1 : Int32))), .val (.int 0)]) rfl kont) ?_
      rw [show ((0 : Int32) + (1 : Int32)) = (1 : Int32) from by decide]
      refine own_go (S' := (T13.setTop (mkF m 37 #[.val (.ref p0), .val (.int gd), .val (.int 1), .val (.int ((0 : Int32) + (1 : Int32)))] []))) (fun _ kont => XS.iinc X13.here hx rfl (hb hby d20_34) rfl (l' := #[.val (.ref p0), .val (.int gd), .val (.int 1), .val (.int ((0 : Int32) + (1 : Int32)))]) rfl kont) ?_
      rw [show ((0 : Int32) + (1 : Int32)) = (1 : Int32) from by decide]
      refine own_go (S' := (T13.setTop (mkF m 6 #[.val (.ref p0), .val (.int gd), .val (.int 1), .val (.int 1)] [(.ref p0), (.int 1)]))) (fun _ kont => XS.goto X13.here hx rfl (pc0 := 37) (pc' := 4) rfl (hb hby d20_37) (by decide) (by decide) (XS.iloadN X13.here hx rfl (hb hby d20_4) rfl (XS.aloadN X13.here hx rfl (hb hby d20_5) rfl rfl kont))) ?_
      obtain ⟨T14, X14, e14, st14⟩ := getF X13 hx hZ hown (host := "") (Or.inl (oH hw 74 rfl)) Via.refl rfl c13_Fp0_foundCount (g := (mkF m 6 #[.val (.ref p0), .val (.int gd), .val (.int 1), .val (.int 1)] [(.ref p0), (.int 1)])) rfl rfl (hb hby d20_6)
      refine own_go (S' := (T14.setTop (mkF m 9 #[.val (.ref p0), .val (.int gd), .val (.int 1), .val (.int 1)] [(.int 1), (.int 1)]))) st14 ?_
      refine own_go (S' := (T14.setTop (mkF m 42 #[.val (.ref p0), .val (.int gd), .val (.int 1), .val (.int 1)] [(.int 1), (.ref p0)]))) (fun _ kont => XS.icmpYes X14.here hx rfl (pc0 := 9) (pc' := 40) rfl (hb hby d20_9) rfl (flt (by decide)).2.1 (by decide) (by decide) (XS.aloadN X14.here hx rfl (hb hby d20_40) rfl rfl (XS.iloadN X14.here hx rfl (hb hby d20_41) rfl kont))) ?_
      obtain ⟨T15, h15, X15, e15, W15, st15⟩ := putF X14 hx hZ hown (host := "") (Or.inl (oH hw 74 rfl)) Via.refl e14 c13_Fp0_foundCount c13_Ep0 (Or.inl (oH hw 75 rfl)) (oH hw 55 rfl) (ty := .int) (by decide) rfl rfl (g := (mkF m 42 #[.val (.ref p0), .val (.int gd), .val (.int 1), .val (.int 1)] [(.int 1), (.ref p0)])) rfl rfl (hb hby d20_42)
      have c15_Ep0 := c13_Ep0.wr W15
      have c15_Fp0_found := c13_Fp0_found.other W15 (Or.inr (slot_ne (Or.inl (oH hw 64 rfl)) (Or.inl (oH hw 75 rfl)) (by decide) (by decide : parseFieldDescriptor "[Lcom/example/otaniemi/otaniemi/State;" = some (.array (.object "com/example/otaniemi/otaniemi/State"))) (by decide : parseFieldDescriptor "I" = some .int)))
      have c15_Fp0_foundCount := c13_Fp0_foundCount.same W15
      have c15_Fp0_passed := c13_Fp0_passed.other W15 (Or.inr (slot_ne (Or.inl (oH hw 125 rfl)) (Or.inl (oH hw 75 rfl)) (by decide) (by decide : parseFieldDescriptor "Lcom/example/otaniemi/otaniemi/Pending$Passed;" = some (.object "com/example/otaniemi/otaniemi/Pending$Passed")) (by decide : parseFieldDescriptor "I" = some .int)))
      have c15_Fp0_values := c13_Fp0_values.other W15 (Or.inr (slot_ne (Or.inl (oH hw 123 rfl)) (Or.inl (oH hw 75 rfl)) (by decide) (by decide : parseFieldDescriptor "[J" = some (.array .long)) (by decide : parseFieldDescriptor "I" = some .int)))
      have c15_Ux0 := c13_Ux0.kp (own_Kp.wr W15 g_p0)
      have c15_Vfa := Vf13.other W15 (Ne.symm npf)
      have K15 := Kt13.wr W15 (Or.inl (List.mem_of_getElem? (i := 0) rfl))
      have N15 := Fr.snoc X15 N13 g_p0
      have Z15 : n0 ≤ h15.size := Nat.le_trans Z13 (Nat.le_of_eq W15.size.symm)
      refine own_go (S' := (T15.setTop (mkF m 45 #[.val (.ref p0), .val (.int gd), .val (.int 1), .val (.int 1)] []))) st15 ?_
      refine own_ret0 X15 hx hlk Bd.returns (hb hby d20_45) (by decide) (by decide) ?_
      rw [e15]
      exact ⟨rfl, N15, own_Kp.keep K15 (own_gS g_p0 (own_gS g_fa own_g0)), Or.inr ⟨fa, kf, _, x0, ⟨g_p0, g_fa, c15_Ep0, c15_Fp0_found, c15_Fp0_foundCount, c15_Fp0_passed, c15_Vfa, O_fa⟩, Or.inl ⟨c15_Fp0_values, own_r1_10 _⟩⟩⟩
  · obtain ⟨g_p0, g_fa, E_p0, F_p0_found, F_p0_foundCount, F_p0_passed, V_fa, O_fa⟩ := HC
    obtain ⟨g_va, nfv, F_p0_values, V_va⟩ := HV
    have npf := E_p0.neArv V_fa (oH hw 55 rfl)
    have npv := E_p0.neArv V_va (oH hw 55 rfl)
    have K0 := Keep.refl h0 [p0, fa, va]
    rcases hd_x0 with rfl | rfl
    · refine own_go (S' := (s₁.setTop (mkF m 6 #[.val (.ref p0), .val (.int gd), .val (.int 0), .val (.int 0)] [(.ref p0), (.int 0)]))) (fun _ kont => XS.iconst X0.here hx rfl (hb hby d20_0) (XS.istoreN X0.here hx rfl (hb hby d20_1) rfl (l' := #[.val (.ref p0), .val (.int gd), .val (.int 0), .unset]) rfl (XS.iconst X0.here hx rfl (hb hby d20_2) (XS.istoreN X0.here hx rfl (hb hby d20_3) rfl (l' := #[.val (.ref p0), .val (.int gd), .val (.int 0), .val (.int 0)]) rfl (XS.iloadN X0.here hx rfl (hb hby d20_4) rfl (XS.aloadN X0.here hx rfl (hb hby d20_5) rfl rfl kont)))))) ?_
      obtain ⟨T16, X16, e16, st16⟩ := getF X0 hx hZ hown (host := "") (Or.inl (oH hw 74 rfl)) Via.refl e0 F_p0_foundCount (g := (mkF m 6 #[.val (.ref p0), .val (.int gd), .val (.int 0), .val (.int 0)] [(.ref p0), (.int 0)])) rfl rfl (hb hby d20_6)
      refine own_go (S' := (T16.setTop (mkF m 9 #[.val (.ref p0), .val (.int gd), .val (.int 0), .val (.int 0)] [(.int 1), (.int 0)]))) st16 ?_
      refine own_go (S' := (T16.setTop (mkF m 13 #[.val (.ref p0), .val (.int gd), .val (.int 0), .val (.int 0)] [(.ref p0)]))) (fun _ kont => XS.icmpNo X16.here hx rfl (hb hby d20_9) rfl (tlt (by decide)).2.1 (XS.aloadN X16.here hx rfl (hb hby d20_12) rfl rfl kont)) ?_
      obtain ⟨T17, X17, e17, st17⟩ := getF X16 hx hZ hown (host := "") (Or.inl (oH hw 63 rfl)) Via.refl e16 F_p0_found (g := (mkF m 13 #[.val (.ref p0), .val (.int gd), .val (.int 0), .val (.int 0)] [(.ref p0)])) rfl rfl (hb hby d20_13)
      refine own_go (S' := (T17.setTop (mkF m 16 #[.val (.ref p0), .val (.int gd), .val (.int 0), .val (.int 0)] [(.ref fa)]))) st17 ?_
      refine own_go (S' := (T17.setTop (mkF m 17 #[.val (.ref p0), .val (.int gd), .val (.int 0), .val (.int 0)] [(.int 0), (.ref fa)]))) (fun _ kont => XS.iloadN X17.here hx rfl (hb hby d20_16) rfl kont) ?_
      obtain ⟨cl18, Ar18, -, S18, -, H18, -⟩ := id V_fa
      have hin18 := inb_of (j := (0 : Int32)) S18 ⟨by decide, by decide⟩
      have hat18 := Has.at (v := (.ref x0)) H18 hin18 (by first | rfl | decide)
      refine own_go (S' := (T17.setTop (mkF m 18 #[.val (.ref p0), .val (.int gd), .val (.int 0), .val (.int 0)] [(.ref x0)]))) (fun _ kont => X17.aaload hx (j := (0 : Int32)) (v := (.ref x0)) (by rw [e17]; exact Ar18.1) (State.isArrayOf_alike hZ.alike Ar18.2.1) rfl Ar18.2.2 hin18 hat18 (g := (mkF m 17 #[.val (.ref p0), .val (.int gd), .val (.int 0), .val (.int 0)] [(.int 0), (.ref fa)])) rfl rfl (hb hby d20_17) _ kont) ?_
      refine own_go (S' := (T17.setTop (mkF m 19 #[.val (.ref p0), .val (.int gd), .val (.int 0), .val (.int 0)] [(.int gd), (.ref x0)]))) (fun _ kont => XS.iloadN X17.here hx rfl (hb hby d20_18) rfl kont) ?_
      obtain ⟨lx19, Ex19, Fn19, Fd19, Fi19, pp19, lp19, Fp19, Ep19, Fc19⟩ := id U_x0
      obtain ⟨cq20, kq20, q20a, q20b, q20c⟩ := isOf hZ e17 Ex19
      obtain ⟨v20, _, ⟨T20, L20, k20, n20⟩, -, X20, ⟨Lc20, hQ20, l20, y20, z20⟩, st20⟩ := X17.virtualBack hx (y := (⟨"com/example/otaniemi/otaniemi/State", "isEndAbove", "(I)Z"⟩ : MethodName)) (z := (⟨"com/example/otaniemi/otaniemi/State", "isEndAbove", "(I)Z"⟩ : MethodName)) hown (mvT hZ (oH hw 140 rfl)) (mvT hZ (oH hw 141 rfl)) (notFace_of_selects (args := #[]) (mvT hZ (oH hw 143 rfl))) (mvT hZ (oH hw 143 rfl)) (mvT hZ (oH hw 142 rfl)) (by decide) (backOf (W := 0) (rmEa l Z a0 hw [] x0 gd _ _ (0 : Int32) h0 n0 Z0 U_x0 (by decide)) hZ (oH hw 144 rfl) (oH hw 2 rfl) (by decide) (by decide)) q20a q20c (g := (mkF m 19 #[.val (.ref p0), .val (.int gd), .val (.int 0), .val (.int 0)] [(.int gd), (.ref x0)])) rfl (by rw [hml]; rfl) (Steps.refl _) (argsL := [(.int gd)]) (rest := []) (lenOf pd_366 rfl) rfl (by show 2 * 0 + _ ≤ _; exact Nat.le_of_eq rfl) (hb hby d20_19) (fun _ _ => ⟨rfl, e17, (by decide : 0 + 0 ≤ _), (by decide : 0 + 0 ≤ _)⟩)
      dsimp only [Pt.U, Pt.locs, Pt.cells, Pt.slots] at X20 l20 y20 z20 st20 hQ20
      subst l20 y20 z20
      obtain ⟨rfl, eh20, rfl⟩ := hQ20
      have N20 := Fr.app N0 (Fr.nil n0)
      refine own_goT (S' := (T20.setTop (mkF m 22 #[.val (.ref p0), .val (.int gd), .val (.int 0), .val (.int 0)] [(.int 0)]))) st20 ?_
      refine own_go (S' := (T20.setTop (mkF m 37 #[.val (.ref p0), .val (.int gd), .val (.int 0), .val (.int ((0 : Int32) + (1 : Int32)))] []))) (fun _ kont => XS.ifYes X20.here hx rfl (pc0 := 22) (pc' := 34) rfl (hb hby d20_22) rfl ((if0 _ _).trans (teq (by decide)).1) (by decide) (by decide) (XS.iinc X20.here hx rfl (hb hby d20_34) rfl (l' := #[.val (.ref p0), .val (.int gd), .val (.int 0), .val (.int ((0 : Int32) + (1 : Int32)))]) rfl kont)) ?_
      rw [show ((0 : Int32) + (1 : Int32)) = (1 : Int32) from by decide]
      refine own_go (S' := (T20.setTop (mkF m 6 #[.val (.ref p0), .val (.int gd), .val (.int 0), .val (.int 1)] [(.ref p0), (.int 1)]))) (fun _ kont => XS.goto X20.here hx rfl (pc0 := 37) (pc' := 4) rfl (hb hby d20_37) (by decide) (by decide) (XS.iloadN X20.here hx rfl (hb hby d20_4) rfl (XS.aloadN X20.here hx rfl (hb hby d20_5) rfl rfl kont))) ?_
      obtain ⟨T21, X21, e21, st21⟩ := getF X20 hx hZ hown (host := "") (Or.inl (oH hw 74 rfl)) Via.refl eh20 F_p0_foundCount (g := (mkF m 6 #[.val (.ref p0), .val (.int gd), .val (.int 0), .val (.int 1)] [(.ref p0), (.int 1)])) rfl rfl (hb hby d20_6)
      refine own_go (S' := (T21.setTop (mkF m 9 #[.val (.ref p0), .val (.int gd), .val (.int 0), .val (.int 1)] [(.int 1), (.int 1)]))) st21 ?_
      refine own_go (S' := (T21.setTop (mkF m 42 #[.val (.ref p0), .val (.int gd), .val (.int 0), .val (.int 1)] [(.int 0), (.ref p0)]))) (fun _ kont => XS.icmpYes X21.here hx rfl (pc0 := 9) (pc' := 40) rfl (hb hby d20_9) rfl (flt (by decide)).2.1 (by decide) (by decide) (XS.aloadN X21.here hx rfl (hb hby d20_40) rfl rfl (XS.iloadN X21.here hx rfl (hb hby d20_41) rfl kont))) ?_
      obtain ⟨T22, h22, X22, e22, W22, st22⟩ := putF X21 hx hZ hown (host := "") (Or.inl (oH hw 74 rfl)) Via.refl e21 F_p0_foundCount E_p0 (Or.inl (oH hw 75 rfl)) (oH hw 55 rfl) (ty := .int) (by decide) rfl rfl (g := (mkF m 42 #[.val (.ref p0), .val (.int gd), .val (.int 0), .val (.int 1)] [(.int 0), (.ref p0)])) rfl rfl (hb hby d20_42)
      have c22_Ep0 := E_p0.wr W22
      have c22_Fp0_found := F_p0_found.other W22 (Or.inr (slot_ne (Or.inl (oH hw 64 rfl)) (Or.inl (oH hw 75 rfl)) (by decide) (by decide : parseFieldDescriptor "[Lcom/example/otaniemi/otaniemi/State;" = some (.array (.object "com/example/otaniemi/otaniemi/State"))) (by decide : parseFieldDescriptor "I" = some .int)))
      have c22_Fp0_foundCount := F_p0_foundCount.same W22
      have c22_Fp0_passed := F_p0_passed.other W22 (Or.inr (slot_ne (Or.inl (oH hw 125 rfl)) (Or.inl (oH hw 75 rfl)) (by decide) (by decide : parseFieldDescriptor "Lcom/example/otaniemi/otaniemi/Pending$Passed;" = some (.object "com/example/otaniemi/otaniemi/Pending$Passed")) (by decide : parseFieldDescriptor "I" = some .int)))
      have c22_Fp0_values := F_p0_values.other W22 (Or.inr (slot_ne (Or.inl (oH hw 123 rfl)) (Or.inl (oH hw 75 rfl)) (by decide) (by decide : parseFieldDescriptor "[J" = some (.array .long)) (by decide : parseFieldDescriptor "I" = some .int)))
      have c22_Vfa := V_fa.other W22 (Ne.symm npf)
      have c22_Vva := V_va.other W22 (Ne.symm npv)
      have c22_Ux0 := U_x0.kp (own_Kp.wr W22 g_p0)
      have K22 := K0.wr W22 (Or.inl (List.mem_of_getElem? (i := 0) rfl))
      have N22 := Fr.snoc X22 N20 g_p0
      have Z22 : n0 ≤ h22.size := Nat.le_trans Z0 (Nat.le_of_eq W22.size.symm)
      refine own_go (S' := (T22.setTop (mkF m 45 #[.val (.ref p0), .val (.int gd), .val (.int 0), .val (.int 1)] []))) st22 ?_
      refine own_ret0 X22 hx hlk Bd.returns (hb hby d20_45) (by decide) (by decide) ?_
      rw [e22]
      exact ⟨rfl, N22, own_Kp.keep K22 (own_gS g_p0 (own_gS g_fa (own_gS g_va own_g0))), Or.inl ⟨_, c22_Ep0, c22_Fp0_foundCount, by decide, own_r1_0 _ _⟩⟩
    · refine own_go (S' := (s₁.setTop (mkF m 6 #[.val (.ref p0), .val (.int gd), .val (.int 0), .val (.int 0)] [(.ref p0), (.int 0)]))) (fun _ kont => XS.iconst X0.here hx rfl (hb hby d20_0) (XS.istoreN X0.here hx rfl (hb hby d20_1) rfl (l' := #[.val (.ref p0), .val (.int gd), .val (.int 0), .unset]) rfl (XS.iconst X0.here hx rfl (hb hby d20_2) (XS.istoreN X0.here hx rfl (hb hby d20_3) rfl (l' := #[.val (.ref p0), .val (.int gd), .val (.int 0), .val (.int 0)]) rfl (XS.iloadN X0.here hx rfl (hb hby d20_4) rfl (XS.aloadN X0.here hx rfl (hb hby d20_5) rfl rfl kont)))))) ?_
      obtain ⟨T23, X23, e23, st23⟩ := getF X0 hx hZ hown (host := "") (Or.inl (oH hw 74 rfl)) Via.refl e0 F_p0_foundCount (g := (mkF m 6 #[.val (.ref p0), .val (.int gd), .val (.int 0), .val (.int 0)] [(.ref p0), (.int 0)])) rfl rfl (hb hby d20_6)
      refine own_go (S' := (T23.setTop (mkF m 9 #[.val (.ref p0), .val (.int gd), .val (.int 0), .val (.int 0)] [(.int 1), (.int 0)]))) st23 ?_
      refine own_go (S' := (T23.setTop (mkF m 13 #[.val (.ref p0), .val (.int gd), .val (.int 0), .val (.int 0)] [(.ref p0)]))) (fun _ kont => XS.icmpNo X23.here hx rfl (hb hby d20_9) rfl (tlt (by decide)).2.1 (XS.aloadN X23.here hx rfl (hb hby d20_12) rfl rfl kont)) ?_
      obtain ⟨T24, X24, e24, st24⟩ := getF X23 hx hZ hown (host := "") (Or.inl (oH hw 63 rfl)) Via.refl e23 F_p0_found (g := (mkF m 13 #[.val (.ref p0), .val (.int gd), .val (.int 0), .val (.int 0)] [(.ref p0)])) rfl rfl (hb hby d20_13)
      refine own_go (S' := (T24.setTop (mkF m 16 #[.val (.ref p0), .val (.int gd), .val (.int 0), .val (.int 0)] [(.ref fa)]))) st24 ?_
      refine own_go (S' := (T24.setTop (mkF m 17 #[.val (.ref p0), .val (.int gd), .val (.int 0), .val (.int 0)] [(.int 0), (.ref fa)]))) (fun _ kont => XS.iloadN X24.here hx rfl (hb hby d20_16) rfl kont) ?_
      obtain ⟨cl25, Ar25, -, S25, -, H25, -⟩ := id V_fa
      have hin25 := inb_of (j := (0 : Int32)) S25 ⟨by decide, by decide⟩
      have hat25 := Has.at (v := (.ref x0)) H25 hin25 (by first | rfl | decide)
      refine own_go (S' := (T24.setTop (mkF m 18 #[.val (.ref p0), .val (.int gd), .val (.int 0), .val (.int 0)] [(.ref x0)]))) (fun _ kont => X24.aaload hx (j := (0 : Int32)) (v := (.ref x0)) (by rw [e24]; exact Ar25.1) (State.isArrayOf_alike hZ.alike Ar25.2.1) rfl Ar25.2.2 hin25 hat25 (g := (mkF m 17 #[.val (.ref p0), .val (.int gd), .val (.int 0), .val (.int 0)] [(.int 0), (.ref fa)])) rfl rfl (hb hby d20_17) _ kont) ?_
      refine own_go (S' := (T24.setTop (mkF m 19 #[.val (.ref p0), .val (.int gd), .val (.int 0), .val (.int 0)] [(.int gd), (.ref x0)]))) (fun _ kont => XS.iloadN X24.here hx rfl (hb hby d20_18) rfl kont) ?_
      obtain ⟨lx26, Ex26, Fn26, Fd26, Fi26, pp26, lp26, Fp26, Ep26, Fc26⟩ := id U_x0
      obtain ⟨cq27, kq27, q27a, q27b, q27c⟩ := isOf hZ e24 Ex26
      obtain ⟨v27, _, ⟨T27, L27, k27, n27⟩, -, X27, ⟨Lc27, hQ27, l27, y27, z27⟩, st27⟩ := X24.virtualBack hx (y := (⟨"com/example/otaniemi/otaniemi/State", "isEndAbove", "(I)Z"⟩ : MethodName)) (z := (⟨"com/example/otaniemi/otaniemi/State", "isEndAbove", "(I)Z"⟩ : MethodName)) hown (mvT hZ (oH hw 140 rfl)) (mvT hZ (oH hw 141 rfl)) (notFace_of_selects (args := #[]) (mvT hZ (oH hw 143 rfl))) (mvT hZ (oH hw 143 rfl)) (mvT hZ (oH hw 142 rfl)) (by decide) (backOf (W := 0) (rmEa l Z a0 hw [] x0 gd _ _ (1 : Int32) h0 n0 Z0 U_x0 (by decide)) hZ (oH hw 144 rfl) (oH hw 2 rfl) (by decide) (by decide)) q27a q27c (g := (mkF m 19 #[.val (.ref p0), .val (.int gd), .val (.int 0), .val (.int 0)] [(.int gd), (.ref x0)])) rfl (by rw [hml]; rfl) (Steps.refl _) (argsL := [(.int gd)]) (rest := []) (lenOf pd_366 rfl) rfl (by show 2 * 0 + _ ≤ _; exact Nat.le_of_eq rfl) (hb hby d20_19) (fun _ _ => ⟨rfl, e24, (by decide : 0 + 0 ≤ _), (by decide : 0 + 0 ≤ _)⟩)
      dsimp only [Pt.U, Pt.locs, Pt.cells, Pt.slots] at X27 l27 y27 z27 st27 hQ27
      subst l27 y27 z27
      obtain ⟨rfl, eh27, rfl⟩ := hQ27
      have N27 := Fr.app N0 (Fr.nil n0)
      refine own_goT (S' := (T27.setTop (mkF m 22 #[.val (.ref p0), .val (.int gd), .val (.int 0), .val (.int 0)] [(.int 1)]))) st27 ?_
      refine own_go (S' := (T27.setTop (mkF m 28 #[.val (.ref p0), .val (.int gd), .val (.int 0), .val (.int 0)] [(.int 0), (.int 0), (.ref p0)]))) (fun _ kont => XS.ifNo X27.here hx rfl (hb hby d20_22) rfl ((if0 _ _).trans (feq (by decide)).1) (XS.aloadN X27.here hx rfl (hb hby d20_25) rfl rfl (XS.iloadN X27.here hx rfl (hb hby d20_26) rfl (XS.iloadN X27.here hx rfl (hb hby d20_27) rfl kont)))) ?_
      obtain ⟨cq28, qp28, qp28'⟩ := E_p0.cell
      obtain ⟨v28, _, ⟨T28, L28, k28, n28⟩, -, X28, ⟨Lc28, hQ28, l28, y28, z28⟩, st28⟩ := X27.privateBack hx (y := (⟨"com/example/otaniemi/otaniemi/Pending", "move", "(II)V"⟩ : MethodName)) hown (mvT hZ (oH hw 150 rfl)) (mvT hZ (oH hw 151 rfl)) (own_selP (args := #[]) (mvT hZ (oH hw 55 rfl)) (mvP hZ (oH hw 152 rfl)) (mvT hZ (oH hw 151 rfl)) (by decide)) (Cond.privateMethod_at (mvP hZ (oH hw 152 rfl) (args := #[]))) (mvT hZ (oH hw 153 rfl)) (by decide) (backOf (W := 0) (rmMv00A l Z a0 hw [] p0 fa kf (1 : Int32) f1 va kv v0 v1 x0 h0 n0 Z0 E_p0 F_p0_found F_p0_foundCount F_p0_passed F_p0_values g_p0 g_fa V_fa O_fa g_va nfv V_va U_x0.2.1) hZ (oH hw 153 rfl) (oH hw 56 rfl) (by decide) (by decide)) (g := (mkF m 28 #[.val (.ref p0), .val (.int gd), .val (.int 0), .val (.int 0)] [(.int 0), (.int 0), (.ref p0)])) rfl (by rw [hml]; rfl) (Steps.refl _) (a := p0) (by rw [eh27]; exact qp28) qp28' (argsL := [(.int 0), (.int 0)]) (rest := []) (lenOf pd_318 rfl) rfl (by show 2 * 0 + _ ≤ _; exact Nat.le_of_eq rfl) (hb hby d20_28) (fun _ _ => ⟨rfl, eh27, (by decide : 0 + 0 ≤ _), (by decide : 0 + 0 ≤ _)⟩)
      dsimp only [Pt.U, Pt.locs, Pt.cells, Pt.slots] at X28 l28 y28 z28 st28 hQ28
      subst l28 y28 z28
      obtain ⟨rfl, Nq28, Kc28, Vf28, Vv28⟩ := hQ28
      have Kt28 := K0.trans Kc28 (fun x hx => by simp only [List.mem_cons, List.mem_singleton, List.not_mem_nil, or_false] at hx; rcases hx with rfl | rfl <;> first | (left; simp; done) | (right; assumption))
      have N28 := Fr.app N27 Nq28
      have Z28 : n0 ≤ T28.heap.size := Nat.le_trans Z0 Kc28.1
      have c28_Ep0 := E_p0.keep Kc28
      have c28_Fp0_found := F_p0_found.keep Kc28 (ninS npf (ninS npv nin0))
      have c28_Fp0_foundCount := F_p0_foundCount.keep Kc28 (ninS npf (ninS npv nin0))
      have c28_Fp0_passed := F_p0_passed.keep Kc28 (ninS npf (ninS npv nin0))
      have c28_Fp0_values := F_p0_values.keep Kc28 (ninS npf (ninS npv nin0))
      have c28_Ux0 := U_x0.kp (own_Kp.keep Kc28 (own_gS g_fa (own_gS g_va own_g0)))
      refine own_goT (S' := (T28.setTop (mkF m 31 #[.val (.ref p0), .val (.int gd), .val (.int 0), .val (.int 0)] []))) st28 ?_
      refine own_go (S' := (T28.setTop (mkF m 34 #[.val (.ref p0), .val (.int gd), .val (.int ((0 : Int32) + (1 : Int32))), .val (.int 0)] []))) (fun _ kont => XS.iinc X28.here hx rfl (hb hby d20_31) rfl (l' := #[.val (.ref p0), .val (.int gd), .val (.int ((0 : Int32) + (1 : Int32))), .val (.int 0)]) rfl kont) ?_
      rw [show ((0 : Int32) + (1 : Int32)) = (1 : Int32) from by decide]
      refine own_go (S' := (T28.setTop (mkF m 37 #[.val (.ref p0), .val (.int gd), .val (.int 1), .val (.int ((0 : Int32) + (1 : Int32)))] []))) (fun _ kont => XS.iinc X28.here hx rfl (hb hby d20_34) rfl (l' := #[.val (.ref p0), .val (.int gd), .val (.int 1), .val (.int ((0 : Int32) + (1 : Int32)))]) rfl kont) ?_
      rw [show ((0 : Int32) + (1 : Int32)) = (1 : Int32) from by decide]
      refine own_go (S' := (T28.setTop (mkF m 6 #[.val (.ref p0), .val (.int gd), .val (.int 1), .val (.int 1)] [(.ref p0), (.int 1)]))) (fun _ kont => XS.goto X28.here hx rfl (pc0 := 37) (pc' := 4) rfl (hb hby d20_37) (by decide) (by decide) (XS.iloadN X28.here hx rfl (hb hby d20_4) rfl (XS.aloadN X28.here hx rfl (hb hby d20_5) rfl rfl kont))) ?_
      obtain ⟨T29, X29, e29, st29⟩ := getF X28 hx hZ hown (host := "") (Or.inl (oH hw 74 rfl)) Via.refl rfl c28_Fp0_foundCount (g := (mkF m 6 #[.val (.ref p0), .val (.int gd), .val (.int 1), .val (.int 1)] [(.ref p0), (.int 1)])) rfl rfl (hb hby d20_6)
      refine own_go (S' := (T29.setTop (mkF m 9 #[.val (.ref p0), .val (.int gd), .val (.int 1), .val (.int 1)] [(.int 1), (.int 1)]))) st29 ?_
      refine own_go (S' := (T29.setTop (mkF m 42 #[.val (.ref p0), .val (.int gd), .val (.int 1), .val (.int 1)] [(.int 1), (.ref p0)]))) (fun _ kont => XS.icmpYes X29.here hx rfl (pc0 := 9) (pc' := 40) rfl (hb hby d20_9) rfl (flt (by decide)).2.1 (by decide) (by decide) (XS.aloadN X29.here hx rfl (hb hby d20_40) rfl rfl (XS.iloadN X29.here hx rfl (hb hby d20_41) rfl kont))) ?_
      obtain ⟨T30, h30, X30, e30, W30, st30⟩ := putF X29 hx hZ hown (host := "") (Or.inl (oH hw 74 rfl)) Via.refl e29 c28_Fp0_foundCount c28_Ep0 (Or.inl (oH hw 75 rfl)) (oH hw 55 rfl) (ty := .int) (by decide) rfl rfl (g := (mkF m 42 #[.val (.ref p0), .val (.int gd), .val (.int 1), .val (.int 1)] [(.int 1), (.ref p0)])) rfl rfl (hb hby d20_42)
      have c30_Ep0 := c28_Ep0.wr W30
      have c30_Fp0_found := c28_Fp0_found.other W30 (Or.inr (slot_ne (Or.inl (oH hw 64 rfl)) (Or.inl (oH hw 75 rfl)) (by decide) (by decide : parseFieldDescriptor "[Lcom/example/otaniemi/otaniemi/State;" = some (.array (.object "com/example/otaniemi/otaniemi/State"))) (by decide : parseFieldDescriptor "I" = some .int)))
      have c30_Fp0_foundCount := c28_Fp0_foundCount.same W30
      have c30_Fp0_passed := c28_Fp0_passed.other W30 (Or.inr (slot_ne (Or.inl (oH hw 125 rfl)) (Or.inl (oH hw 75 rfl)) (by decide) (by decide : parseFieldDescriptor "Lcom/example/otaniemi/otaniemi/Pending$Passed;" = some (.object "com/example/otaniemi/otaniemi/Pending$Passed")) (by decide : parseFieldDescriptor "I" = some .int)))
      have c30_Fp0_values := c28_Fp0_values.other W30 (Or.inr (slot_ne (Or.inl (oH hw 123 rfl)) (Or.inl (oH hw 75 rfl)) (by decide) (by decide : parseFieldDescriptor "[J" = some (.array .long)) (by decide : parseFieldDescriptor "I" = some .int)))
      have c30_Ux0 := c28_Ux0.kp (own_Kp.wr W30 g_p0)
      have c30_Vfa := Vf28.other W30 (Ne.symm npf)
      have c30_Vva := Vv28.other W30 (Ne.symm npv)
      have K30 := Kt28.wr W30 (Or.inl (List.mem_of_getElem? (i := 0) rfl))
      have N30 := Fr.snoc X30 N28 g_p0
      have Z30 : n0 ≤ h30.size := Nat.le_trans Z28 (Nat.le_of_eq W30.size.symm)
      refine own_go (S' := (T30.setTop (mkF m 45 #[.val (.ref p0), .val (.int gd), .val (.int 1), .val (.int 1)] []))) st30 ?_
      refine own_ret0 X30 hx hlk Bd.returns (hb hby d20_45) (by decide) (by decide) ?_
      rw [e30]
      exact ⟨rfl, N30, own_Kp.keep K30 (own_gS g_p0 (own_gS g_fa (own_gS g_va own_g0))), Or.inr ⟨fa, kf, _, x0, ⟨g_p0, g_fa, c30_Ep0, c30_Fp0_found, c30_Fp0_foundCount, c30_Fp0_passed, c30_Vfa, O_fa⟩, Or.inr ⟨va, kv, _, _, ⟨g_va, nfv, c30_Fp0_values, c30_Vva⟩, own_okR q0 x0⟩⟩⟩
theorem ef_rmK2 (m : MethodId) (x0 : Addr) (x1 : Int32) : entryFrame m #[(.ref x0), (.int x1)] 4 = mkF m 0 #[.val (.ref x0), .val (.int x1), .unset, .unset] [] := by first | (simp [entryFrame, mkF, argsToLocals, Value.category]; done) | rfl
def Q_rmK2 (Z : State) (p0 : Addr) (gd : Int32) (x0 : Addr) (nx0 cx0 dx0 : Int32) (y0 : Addr) (ny0 cy0 dy0 : Int32) (h0 : Heap) (n0 : Nat) (v : Option Value) (h : Heap) (L : List Loc) : Prop := v = none ∧ Fr n0 L ∧ own_Kp n0 h0 h ∧ own_R Z h n0 p0 (own_r2 dx0 cx0 x0 dy0 cy0 y0)
set_option maxRecDepth 65536 in
set_option maxHeartbeats 40000000 in
theorem rmK2 (l : Launch) (Z : State) (a0 : Array Value) (hw : ∀ d ∈ tables_1, d.before a0 Z = true) (ws : List Jvm.Cond) (p0 : Addr) (gd : Int32) (x0 : Addr) (nx0 cx0 dx0 : Int32) (y0 : Addr) (ny0 cy0 dy0 : Int32) (h0 : Heap) (n0 : Nat) (Z0 : n0 ≤ h0.size) (P : own_P2 Z h0 n0 p0 x0 cx0 y0 cy0) (U_x0 : own_T Z n0 h0 x0 nx0 cx0 dx0) (U_y0 : own_T Z n0 h0 y0 ny0 cy0 dy0) (hd_x0 : dx0 = 0 ∨ dx0 = 1) (hd_y0 : dy0 = 0 ∨ dy0 = 1) :
    MetFree l (⟨"com/example/otaniemi/otaniemi/Pending", "keepEndsAbove", "(I)V"⟩ : MethodName) (head1 (Jvm.Cond.code (⟨"com/example/otaniemi/otaniemi/Pending", "keepEndsAbove", "(I)V"⟩ : MethodName) prog_64_method_17_code 4 none :: ws) ({ frames := 2, cells := 0, slots := 0, locals := 32 } : Room)) (fun a U => a = #[(.ref p0), (.int gd)] ∧ Z.Warmed39 U.vm ∧ U.heap = h0) (fun _ _ _ _ _ => True) (fun _ U o U' => ∃ v L, o = .returned v ∧ Q_rmK2 Z p0 gd x0 nx0 cx0 dx0 y0 ny0 cy0 dy0 h0 n0 v U'.heap L ∧ FrameEnd U o U' L ({ frames := 2, cells := 0, slots := 0, locals := 32 } : Room).cells ({ frames := 2, cells := 0, slots := 0, locals := 32 } : Room).slots) := by
  refine MetFree.of_bodySF (plainFor_of_name pn_151) hisR ?_
  intro p e s m args below meth c s₁ Bd hml0 hP hK
  obtain ⟨rfl, hZ, hh⟩ := hP
  have hx := Bd.exec
  have hby := Bd.bytes
  have hlk := Bd.notSynchronized
  have hml : c.maxLocals = 4 := hml0
  have hown : s.vm.findClass "com/example/otaniemi/otaniemi/Pending" = some m.cls := findClass_of_methodNamed Bd.named
  have hnm := (name_of_methodNamed Bd.named Bd.method).1
  have X0 : Stand p l e ({ frames := 2, cells := 0, slots := 0, locals := 32 } : Room) s m #[(.ref p0), (.int gd)] below meth c s₁ [] 0 0 := Stand.of_body Bd
  have e0 : s₁.heap = h0 := by rw [← hh, Bd.state]; rfl
  have N0 := Fr.nil n0
  change own_Go p e below s (Q_rmK2 Z p0 gd x0 nx0 cx0 dx0 y0 ny0 cy0 dy0 h0 n0) ({ frames := 2, cells := 0, slots := 0, locals := 32 } : Room).cells ({ frames := 2, cells := 0, slots := 0, locals := 32 } : Room).slots _
  refine own_go (S' := (s₁.setTop (mkF m 0 #[.val (.ref p0), .val (.int gd), .unset, .unset] []))) (fun _ kont => castTop (ef_rmK2 m p0 gd) kont) ?_
  obtain ⟨fa, kf, HC, hm⟩ := P
  rcases hm with ⟨HN, rfl, rfl⟩ | ⟨va, kv, v0, v1, HV, q0, q1⟩
  · obtain ⟨g_p0, g_fa, E_p0, F_p0_found, F_p0_foundCount, F_p0_passed, V_fa, O_fa⟩ := HC
    have F_p0_values := HN
    unfold own_Vn at F_p0_values
    have npf := E_p0.neArv V_fa (oH hw 55 rfl)
    have K0 := Keep.refl h0 [p0, fa]
    rcases hd_x0 with rfl | rfl
    · rcases hd_y0 with rfl | rfl
      · refine own_go (S' := (s₁.setTop (mkF m 6 #[.val (.ref p0), .val (.int gd), .val (.int 0), .val (.int 0)] [(.ref p0), (.int 0)]))) (fun _ kont => XS.iconst X0.here hx rfl (hb hby d20_0) (XS.istoreN X0.here hx rfl (hb hby d20_1) rfl (l' := #[.val (.ref p0), .val (.int gd), .val (.int 0), .unset]) rfl (XS.iconst X0.here hx rfl (hb hby d20_2) (XS.istoreN X0.here hx rfl (hb hby d20_3) rfl (l' := #[.val (.ref p0), .val (.int gd), .val (.int 0), .val (.int 0)]) rfl (XS.iloadN X0.here hx rfl (hb hby d20_4) rfl (XS.aloadN X0.here hx rfl (hb hby d20_5) rfl rfl kont)))))) ?_
        obtain ⟨T1, X1, e1, st1⟩ := getF X0 hx hZ hown (host := "") (Or.inl (oH hw 74 rfl)) Via.refl e0 F_p0_foundCount (g := (mkF m 6 #[.val (.ref p0), .val (.int gd), .val (.int 0), .val (.int 0)] [(.ref p0), (.int 0)])) rfl rfl (hb hby d20_6)
        refine own_go (S' := (T1.setTop (mkF m 9 #[.val (.ref p0), .val (.int gd), .val (.int 0), .val (.int 0)] [(.int 2), (.int 0)]))) st1 ?_
        refine own_go (S' := (T1.setTop (mkF m 13 #[.val (.ref p0), .val (.int gd), .val (.int 0), .val (.int 0)] [(.ref p0)]))) (fun _ kont => XS.icmpNo X1.here hx rfl (hb hby d20_9) rfl (tlt (by decide)).2.1 (XS.aloadN X1.here hx rfl (hb hby d20_12) rfl rfl kont)) ?_
        obtain ⟨T2, X2, e2, st2⟩ := getF X1 hx hZ hown (host := "") (Or.inl (oH hw 63 rfl)) Via.refl e1 F_p0_found (g := (mkF m 13 #[.val (.ref p0), .val (.int gd), .val (.int 0), .val (.int 0)] [(.ref p0)])) rfl rfl (hb hby d20_13)
        refine own_go (S' := (T2.setTop (mkF m 16 #[.val (.ref p0), .val (.int gd), .val (.int 0), .val (.int 0)] [(.ref fa)]))) st2 ?_
        refine own_go (S' := (T2.setTop (mkF m 17 #[.val (.ref p0), .val (.int gd), .val (.int 0), .val (.int 0)] [(.int 0), (.ref fa)]))) (fun _ kont => XS.iloadN X2.here hx rfl (hb hby d20_16) rfl kont) ?_
        obtain ⟨cl3, Ar3, -, S3, -, H3, -⟩ := id V_fa
        have hin3 := inb_of (j := (0 : Int32)) S3 ⟨by decide, by decide⟩
        have hat3 := Has.at (v := (.ref x0)) H3 hin3 (by first | rfl | decide)
        refine own_go (S' := (T2.setTop (mkF m 18 #[.val (.ref p0), .val (.int gd), .val (.int 0), .val (.int 0)] [(.ref x0)]))) (fun _ kont => X2.aaload hx (j := (0 : Int32)) (v := (.ref x0)) (by rw [e2]; exact Ar3.1) (State.isArrayOf_alike hZ.alike Ar3.2.1) rfl Ar3.2.2 hin3 hat3 (g := (mkF m 17 #[.val (.ref p0), .val (.int gd), .val (.int 0), .val (.int 0)] [(.int 0), (.ref fa)])) rfl rfl (hb hby d20_17) _ kont) ?_
        refine own_go (S' := (T2.setTop (mkF m 19 #[.val (.ref p0), .val (.int gd), .val (.int 0), .val (.int 0)] [(.int gd), (.ref x0)]))) (fun _ kont => XS.iloadN X2.here hx rfl (hb hby d20_18) rfl kont) ?_
        obtain ⟨lx4, Ex4, Fn4, Fd4, Fi4, pp4, lp4, Fp4, Ep4, Fc4⟩ := id U_x0
        obtain ⟨cq5, kq5, q5a, q5b, q5c⟩ := isOf hZ e2 Ex4
        obtain ⟨v5, _, ⟨T5, L5, k5, n5⟩, -, X5, ⟨Lc5, hQ5, l5, y5, z5⟩, st5⟩ := X2.virtualBack hx (y := (⟨"com/example/otaniemi/otaniemi/State", "isEndAbove", "(I)Z"⟩ : MethodName)) (z := (⟨"com/example/otaniemi/otaniemi/State", "isEndAbove", "(I)Z"⟩ : MethodName)) hown (mvT hZ (oH hw 140 rfl)) (mvT hZ (oH hw 141 rfl)) (notFace_of_selects (args := #[]) (mvT hZ (oH hw 143 rfl))) (mvT hZ (oH hw 143 rfl)) (mvT hZ (oH hw 142 rfl)) (by decide) (backOf (W := 0) (rmEa l Z a0 hw [] x0 gd _ _ (0 : Int32) h0 n0 Z0 U_x0 (by decide)) hZ (oH hw 144 rfl) (oH hw 2 rfl) (by decide) (by decide)) q5a q5c (g := (mkF m 19 #[.val (.ref p0), .val (.int gd), .val (.int 0), .val (.int 0)] [(.int gd), (.ref x0)])) rfl (by rw [hml]; rfl) (Steps.refl _) (argsL := [(.int gd)]) (rest := []) (lenOf pd_366 rfl) rfl (by show 2 * 0 + _ ≤ _; exact Nat.le_of_eq rfl) (hb hby d20_19) (fun _ _ => ⟨rfl, e2, (by decide : 0 + 0 ≤ _), (by decide : 0 + 0 ≤ _)⟩)
        dsimp only [Pt.U, Pt.locs, Pt.cells, Pt.slots] at X5 l5 y5 z5 st5 hQ5
        subst l5 y5 z5
        obtain ⟨rfl, eh5, rfl⟩ := hQ5
        have N5 := Fr.app N0 (Fr.nil n0)
        refine own_goT (S' := (T5.setTop (mkF m 22 #[.val (.ref p0), .val (.int gd), .val (.int 0), .val (.int 0)] [(.int 0)]))) st5 ?_
        refine own_go (S' := (T5.setTop (mkF m 37 #[.val (.ref p0), .val (.int gd), .val (.int 0), .val (.int ((0 : Int32) + (1 : Int32)))] []))) (fun _ kont => XS.ifYes X5.here hx rfl (pc0 := 22) (pc' := 34) rfl (hb hby d20_22) rfl ((if0 _ _).trans (teq (by decide)).1) (by decide) (by decide) (XS.iinc X5.here hx rfl (hb hby d20_34) rfl (l' := #[.val (.ref p0), .val (.int gd), .val (.int 0), .val (.int ((0 : Int32) + (1 : Int32)))]) rfl kont)) ?_
        rw [show ((0 : Int32) + (1 : Int32)) = (1 : Int32) from by decide]
        refine own_go (S' := (T5.setTop (mkF m 6 #[.val (.ref p0), .val (.int gd), .val (.int 0), .val (.int 1)] [(.ref p0), (.int 1)]))) (fun _ kont => XS.goto X5.here hx rfl (pc0 := 37) (pc' := 4) rfl (hb hby d20_37) (by decide) (by decide) (XS.iloadN X5.here hx rfl (hb hby d20_4) rfl (XS.aloadN X5.here hx rfl (hb hby d20_5) rfl rfl kont))) ?_
        obtain ⟨T6, X6, e6, st6⟩ := getF X5 hx hZ hown (host := "") (Or.inl (oH hw 74 rfl)) Via.refl eh5 F_p0_foundCount (g := (mkF m 6 #[.val (.ref p0), .val (.int gd), .val (.int 0), .val (.int 1)] [(.ref p0), (.int 1)])) rfl rfl (hb hby d20_6)
        refine own_go (S' := (T6.setTop (mkF m 9 #[.val (.ref p0), .val (.int gd), .val (.int 0), .val (.int 1)] [(.int 2), (.int 1)]))) st6 ?_
        refine own_go (S' := (T6.setTop (mkF m 13 #[.val (.ref p0), .val (.int gd), .val (.int 0), .val (.int 1)] [(.ref p0)]))) (fun _ kont => XS.icmpNo X6.here hx rfl (hb hby d20_9) rfl (tlt (by decide)).2.1 (XS.aloadN X6.here hx rfl (hb hby d20_12) rfl rfl kont)) ?_
        obtain ⟨T7, X7, e7, st7⟩ := getF X6 hx hZ hown (host := "") (Or.inl (oH hw 63 rfl)) Via.refl e6 F_p0_found (g := (mkF m 13 #[.val (.ref p0), .val (.int gd), .val (.int 0), .val (.int 1)] [(.ref p0)])) rfl rfl (hb hby d20_13)
        refine own_go (S' := (T7.setTop (mkF m 16 #[.val (.ref p0), .val (.int gd), .val (.int 0), .val (.int 1)] [(.ref fa)]))) st7 ?_
        refine own_go (S' := (T7.setTop (mkF m 17 #[.val (.ref p0), .val (.int gd), .val (.int 0), .val (.int 1)] [(.int 1), (.ref fa)]))) (fun _ kont => XS.iloadN X7.here hx rfl (hb hby d20_16) rfl kont) ?_
        obtain ⟨cl8, Ar8, -, S8, -, H8, -⟩ := id V_fa
        have hin8 := inb_of (j := (1 : Int32)) S8 ⟨by decide, by decide⟩
        have hat8 := Has.at (v := (.ref y0)) H8 hin8 (by first | rfl | decide)
        refine own_go (S' := (T7.setTop (mkF m 18 #[.val (.ref p0), .val (.int gd), .val (.int 0), .val (.int 1)] [(.ref y0)]))) (fun _ kont => X7.aaload hx (j := (1 : Int32)) (v := (.ref y0)) (by rw [e7]; exact Ar8.1) (State.isArrayOf_alike hZ.alike Ar8.2.1) rfl Ar8.2.2 hin8 hat8 (g := (mkF m 17 #[.val (.ref p0), .val (.int gd), .val (.int 0), .val (.int 1)] [(.int 1), (.ref fa)])) rfl rfl (hb hby d20_17) _ kont) ?_
        refine own_go (S' := (T7.setTop (mkF m 19 #[.val (.ref p0), .val (.int gd), .val (.int 0), .val (.int 1)] [(.int gd), (.ref y0)]))) (fun _ kont => XS.iloadN X7.here hx rfl (hb hby d20_18) rfl kont) ?_
        obtain ⟨lx9, Ex9, Fn9, Fd9, Fi9, pp9, lp9, Fp9, Ep9, Fc9⟩ := id U_y0
        obtain ⟨cq10, kq10, q10a, q10b, q10c⟩ := isOf hZ e7 Ex9
        obtain ⟨v10, _, ⟨T10, L10, k10, n10⟩, -, X10, ⟨Lc10, hQ10, l10, y10, z10⟩, st10⟩ := X7.virtualBack hx (y := (⟨"com/example/otaniemi/otaniemi/State", "isEndAbove", "(I)Z"⟩ : MethodName)) (z := (⟨"com/example/otaniemi/otaniemi/State", "isEndAbove", "(I)Z"⟩ : MethodName)) hown (mvT hZ (oH hw 140 rfl)) (mvT hZ (oH hw 141 rfl)) (notFace_of_selects (args := #[]) (mvT hZ (oH hw 143 rfl))) (mvT hZ (oH hw 143 rfl)) (mvT hZ (oH hw 142 rfl)) (by decide) (backOf (W := 0) (rmEa l Z a0 hw [] y0 gd _ _ (0 : Int32) h0 n0 Z0 U_y0 (by decide)) hZ (oH hw 144 rfl) (oH hw 2 rfl) (by decide) (by decide)) q10a q10c (g := (mkF m 19 #[.val (.ref p0), .val (.int gd), .val (.int 0), .val (.int 1)] [(.int gd), (.ref y0)])) rfl (by rw [hml]; rfl) (Steps.refl _) (argsL := [(.int gd)]) (rest := []) (lenOf pd_366 rfl) rfl (by show 2 * 0 + _ ≤ _; exact Nat.le_of_eq rfl) (hb hby d20_19) (fun _ _ => ⟨rfl, e7, (by decide : 0 + 0 ≤ _), (by decide : 0 + 0 ≤ _)⟩)
        dsimp only [Pt.U, Pt.locs, Pt.cells, Pt.slots] at X10 l10 y10 z10 st10 hQ10
        subst l10 y10 z10
        obtain ⟨rfl, eh10, rfl⟩ := hQ10
        have N10 := Fr.app N5 (Fr.nil n0)
        refine own_goT (S' := (T10.setTop (mkF m 22 #[.val (.ref p0), .val (.int gd), .val (.int 0), .val (.int 1)] [(.int 0)]))) st10 ?_
        refine own_go (S' := (T10.setTop (mkF m 37 #[.val (.ref p0), .val (.int gd), .val (.int 0), .val (.int ((1 : Int32) + (1 : Int32)))] []))) (fun _ kont => XS.ifYes X10.here hx rfl (pc0 := 22) (pc' := 34) rfl (hb hby d20_22) rfl ((if0 _ _).trans (teq (by decide)).1) (by decide) (by decide) (XS.iinc X10.here hx rfl (hb hby d20_34) rfl (l' := #[.val (.ref p0), .val (.int gd), .val (.int 0), .val (.int ((1 : Int32) + (1 : Int32)))]) rfl kont)) ?_
        rw [show ((1 : Int32) + (1 : Int32)) = (2 : Int32) from by decide]
        refine own_go (S' := (T10.setTop (mkF m 6 #[.val (.ref p0), .val (.int gd), .val (.int 0), .val (.int 2)] [(.ref p0), (.int 2)]))) (fun _ kont => XS.goto X10.here hx rfl (pc0 := 37) (pc' := 4) rfl (hb hby d20_37) (by decide) (by decide) (XS.iloadN X10.here hx rfl (hb hby d20_4) rfl (XS.aloadN X10.here hx rfl (hb hby d20_5) rfl rfl kont))) ?_
        obtain ⟨T11, X11, e11, st11⟩ := getF X10 hx hZ hown (host := "") (Or.inl (oH hw 74 rfl)) Via.refl eh10 F_p0_foundCount (g := (mkF m 6 #[.val (.ref p0), .val (.int gd), .val (.int 0), .val (.int 2)] [(.ref p0), (.int 2)])) rfl rfl (hb hby d20_6)
        refine own_go (S' := (T11.setTop (mkF m 9 #[.val (.ref p0), .val (.int gd), .val (.int 0), .val (.int 2)] [(.int 2), (.int 2)]))) st11 ?_
        refine own_go (S' := (T11.setTop (mkF m 42 #[.val (.ref p0), .val (.int gd), .val (.int 0), .val (.int 2)] [(.int 0), (.ref p0)]))) (fun _ kont => XS.icmpYes X11.here hx rfl (pc0 := 9) (pc' := 40) rfl (hb hby d20_9) rfl (flt (by decide)).2.1 (by decide) (by decide) (XS.aloadN X11.here hx rfl (hb hby d20_40) rfl rfl (XS.iloadN X11.here hx rfl (hb hby d20_41) rfl kont))) ?_
        obtain ⟨T12, h12, X12, e12, W12, st12⟩ := putF X11 hx hZ hown (host := "") (Or.inl (oH hw 74 rfl)) Via.refl e11 F_p0_foundCount E_p0 (Or.inl (oH hw 75 rfl)) (oH hw 55 rfl) (ty := .int) (by decide) rfl rfl (g := (mkF m 42 #[.val (.ref p0), .val (.int gd), .val (.int 0), .val (.int 2)] [(.int 0), (.ref p0)])) rfl rfl (hb hby d20_42)
        have c12_Ep0 := E_p0.wr W12
        have c12_Fp0_found := F_p0_found.other W12 (Or.inr (slot_ne (Or.inl (oH hw 64 rfl)) (Or.inl (oH hw 75 rfl)) (by decide) (by decide : parseFieldDescriptor "[Lcom/example/otaniemi/otaniemi/State;" = some (.array (.object "com/example/otaniemi/otaniemi/State"))) (by decide : parseFieldDescriptor "I" = some .int)))
        have c12_Fp0_foundCount := F_p0_foundCount.same W12
        have c12_Fp0_passed := F_p0_passed.other W12 (Or.inr (slot_ne (Or.inl (oH hw 125 rfl)) (Or.inl (oH hw 75 rfl)) (by decide) (by decide : parseFieldDescriptor "Lcom/example/otaniemi/otaniemi/Pending$Passed;" = some (.object "com/example/otaniemi/otaniemi/Pending$Passed")) (by decide : parseFieldDescriptor "I" = some .int)))
        have c12_Fp0_values := F_p0_values.other W12 (Or.inr (slot_ne (Or.inl (oH hw 123 rfl)) (Or.inl (oH hw 75 rfl)) (by decide) (by decide : parseFieldDescriptor "[J" = some (.array .long)) (by decide : parseFieldDescriptor "I" = some .int)))
        have c12_Vfa := V_fa.other W12 (Ne.symm npf)
        have c12_Ux0 := U_x0.kp (own_Kp.wr W12 g_p0)
        have c12_Uy0 := U_y0.kp (own_Kp.wr W12 g_p0)
        have K12 := K0.wr W12 (Or.inl (List.mem_of_getElem? (i := 0) rfl))
        have N12 := Fr.snoc X12 N10 g_p0
        have Z12 : n0 ≤ h12.size := Nat.le_trans Z0 (Nat.le_of_eq W12.size.symm)
        refine own_go (S' := (T12.setTop (mkF m 45 #[.val (.ref p0), .val (.int gd), .val (.int 0), .val (.int 2)] []))) st12 ?_
        refine own_ret0 X12 hx hlk Bd.returns (hb hby d20_45) (by decide) (by decide) ?_
        rw [e12]
        exact ⟨rfl, N12, own_Kp.keep K12 (own_gS g_p0 (own_gS g_fa own_g0)), Or.inl ⟨_, c12_Ep0, c12_Fp0_foundCount, by decide, own_r2_00 _ _ _ _⟩⟩
      · refine own_go (S' := (s₁.setTop (mkF m 6 #[.val (.ref p0), .val (.int gd), .val (.int 0), .val (.int 0)] [(.ref p0), (.int 0)]))) (fun _ kont => XS.iconst X0.here hx rfl (hb hby d20_0) (XS.istoreN X0.here hx rfl (hb hby d20_1) rfl (l' := #[.val (.ref p0), .val (.int gd), .val (.int 0), .unset]) rfl (XS.iconst X0.here hx rfl (hb hby d20_2) (XS.istoreN X0.here hx rfl (hb hby d20_3) rfl (l' := #[.val (.ref p0), .val (.int gd), .val (.int 0), .val (.int 0)]) rfl (XS.iloadN X0.here hx rfl (hb hby d20_4) rfl (XS.aloadN X0.here hx rfl (hb hby d20_5) rfl rfl kont)))))) ?_
        obtain ⟨T13, X13, e13, st13⟩ := getF X0 hx hZ hown (host := "") (Or.inl (oH hw 74 rfl)) Via.refl e0 F_p0_foundCount (g := (mkF m 6 #[.val (.ref p0), .val (.int gd), .val (.int 0), .val (.int 0)] [(.ref p0), (.int 0)])) rfl rfl (hb hby d20_6)
        refine own_go (S' := (T13.setTop (mkF m 9 #[.val (.ref p0), .val (.int gd), .val (.int 0), .val (.int 0)] [(.int 2), (.int 0)]))) st13 ?_
        refine own_go (S' := (T13.setTop (mkF m 13 #[.val (.ref p0), .val (.int gd), .val (.int 0), .val (.int 0)] [(.ref p0)]))) (fun _ kont => XS.icmpNo X13.here hx rfl (hb hby d20_9) rfl (tlt (by decide)).2.1 (XS.aloadN X13.here hx rfl (hb hby d20_12) rfl rfl kont)) ?_
        obtain ⟨T14, X14, e14, st14⟩ := getF X13 hx hZ hown (host := "") (Or.inl (oH hw 63 rfl)) Via.refl e13 F_p0_found (g := (mkF m 13 #[.val (.ref p0), .val (.int gd), .val (.int 0), .val (.int 0)] [(.ref p0)])) rfl rfl (hb hby d20_13)
        refine own_go (S' := (T14.setTop (mkF m 16 #[.val (.ref p0), .val (.int gd), .val (.int 0), .val (.int 0)] [(.ref fa)]))) st14 ?_
        refine own_go (S' := (T14.setTop (mkF m 17 #[.val (.ref p0), .val (.int gd), .val (.int 0), .val (.int 0)] [(.int 0), (.ref fa)]))) (fun _ kont => XS.iloadN X14.here hx rfl (hb hby d20_16) rfl kont) ?_
        obtain ⟨cl15, Ar15, -, S15, -, H15, -⟩ := id V_fa
        have hin15 := inb_of (j := (0 : Int32)) S15 ⟨by decide, by decide⟩
        have hat15 := Has.at (v := (.ref x0)) H15 hin15 (by first | rfl | decide)
        refine own_go (S' := (T14.setTop (mkF m 18 #[.val (.ref p0), .val (.int gd), .val (.int 0), .val (.int 0)] [(.ref x0)]))) (fun _ kont => X14.aaload hx (j := (0 : Int32)) (v := (.ref x0)) (by rw [e14]; exact Ar15.1) (State.isArrayOf_alike hZ.alike Ar15.2.1) rfl Ar15.2.2 hin15 hat15 (g := (mkF m 17 #[.val (.ref p0), .val (.int gd), .val (.int 0), .val (.int 0)] [(.int 0), (.ref fa)])) rfl rfl (hb hby d20_17) _ kont) ?_
        refine own_go (S' := (T14.setTop (mkF m 19 #[.val (.ref p0), .val (.int gd), .val (.int 0), .val (.int 0)] [(.int gd), (.ref x0)]))) (fun _ kont => XS.iloadN X14.here hx rfl (hb hby d20_18) rfl kont) ?_
        obtain ⟨lx16, Ex16, Fn16, Fd16, Fi16, pp16, lp16, Fp16, Ep16, Fc16⟩ := id U_x0
        obtain ⟨cq17, kq17, q17a, q17b, q17c⟩ := isOf hZ e14 Ex16
        obtain ⟨v17, _, ⟨T17, L17, k17, n17⟩, -, X17, ⟨Lc17, hQ17, l17, y17, z17⟩, st17⟩ := X14.virtualBack hx (y := (⟨"com/example/otaniemi/otaniemi/State", "isEndAbove", "(I)Z"⟩ : MethodName)) (z := (⟨"com/example/otaniemi/otaniemi/State", "isEndAbove", "(I)Z"⟩ : MethodName)) hown (mvT hZ (oH hw 140 rfl)) (mvT hZ (oH hw 141 rfl)) (notFace_of_selects (args := #[]) (mvT hZ (oH hw 143 rfl))) (mvT hZ (oH hw 143 rfl)) (mvT hZ (oH hw 142 rfl)) (by decide) (backOf (W := 0) (rmEa l Z a0 hw [] x0 gd _ _ (0 : Int32) h0 n0 Z0 U_x0 (by decide)) hZ (oH hw 144 rfl) (oH hw 2 rfl) (by decide) (by decide)) q17a q17c (g := (mkF m 19 #[.val (.ref p0), .val (.int gd), .val (.int 0), .val (.int 0)] [(.int gd), (.ref x0)])) rfl (by rw [hml]; rfl) (Steps.refl _) (argsL := [(.int gd)]) (rest := []) (lenOf pd_366 rfl) rfl (by show 2 * 0 + _ ≤ _; exact Nat.le_of_eq rfl) (hb hby d20_19) (fun _ _ => ⟨rfl, e14, (by decide : 0 + 0 ≤ _), (by decide : 0 + 0 ≤ _)⟩)
        dsimp only [Pt.U, Pt.locs, Pt.cells, Pt.slots] at X17 l17 y17 z17 st17 hQ17
        subst l17 y17 z17
        obtain ⟨rfl, eh17, rfl⟩ := hQ17
        have N17 := Fr.app N0 (Fr.nil n0)
        refine own_goT (S' := (T17.setTop (mkF m 22 #[.val (.ref p0), .val (.int gd), .val (.int 0), .val (.int 0)] [(.int 0)]))) st17 ?_
        refine own_go (S' := (T17.setTop (mkF m 37 #[.val (.ref p0), .val (.int gd), .val (.int 0), .val (.int ((0 : Int32) + (1 : Int32)))] []))) (fun _ kont => XS.ifYes X17.here hx rfl (pc0 := 22) (pc' := 34) rfl (hb hby d20_22) rfl ((if0 _ _).trans (teq (by decide)).1) (by decide) (by decide) (XS.iinc X17.here hx rfl (hb hby d20_34) rfl (l' := #[.val (.ref p0), .val (.int gd), .val (.int 0), .val (.int ((0 : Int32) + (1 : Int32)))]) rfl kont)) ?_
        rw [show ((0 : Int32) + (1 : Int32)) = (1 : Int32) from by decide]
        refine own_go (S' := (T17.setTop (mkF m 6 #[.val (.ref p0), .val (.int gd), .val (.int 0), .val (.int 1)] [(.ref p0), (.int 1)]))) (fun _ kont => XS.goto X17.here hx rfl (pc0 := 37) (pc' := 4) rfl (hb hby d20_37) (by decide) (by decide) (XS.iloadN X17.here hx rfl (hb hby d20_4) rfl (XS.aloadN X17.here hx rfl (hb hby d20_5) rfl rfl kont))) ?_
        obtain ⟨T18, X18, e18, st18⟩ := getF X17 hx hZ hown (host := "") (Or.inl (oH hw 74 rfl)) Via.refl eh17 F_p0_foundCount (g := (mkF m 6 #[.val (.ref p0), .val (.int gd), .val (.int 0), .val (.int 1)] [(.ref p0), (.int 1)])) rfl rfl (hb hby d20_6)
        refine own_go (S' := (T18.setTop (mkF m 9 #[.val (.ref p0), .val (.int gd), .val (.int 0), .val (.int 1)] [(.int 2), (.int 1)]))) st18 ?_
        refine own_go (S' := (T18.setTop (mkF m 13 #[.val (.ref p0), .val (.int gd), .val (.int 0), .val (.int 1)] [(.ref p0)]))) (fun _ kont => XS.icmpNo X18.here hx rfl (hb hby d20_9) rfl (tlt (by decide)).2.1 (XS.aloadN X18.here hx rfl (hb hby d20_12) rfl rfl kont)) ?_
        obtain ⟨T19, X19, e19, st19⟩ := getF X18 hx hZ hown (host := "") (Or.inl (oH hw 63 rfl)) Via.refl e18 F_p0_found (g := (mkF m 13 #[.val (.ref p0), .val (.int gd), .val (.int 0), .val (.int 1)] [(.ref p0)])) rfl rfl (hb hby d20_13)
        refine own_go (S' := (T19.setTop (mkF m 16 #[.val (.ref p0), .val (.int gd), .val (.int 0), .val (.int 1)] [(.ref fa)]))) st19 ?_
        refine own_go (S' := (T19.setTop (mkF m 17 #[.val (.ref p0), .val (.int gd), .val (.int 0), .val (.int 1)] [(.int 1), (.ref fa)]))) (fun _ kont => XS.iloadN X19.here hx rfl (hb hby d20_16) rfl kont) ?_
        obtain ⟨cl20, Ar20, -, S20, -, H20, -⟩ := id V_fa
        have hin20 := inb_of (j := (1 : Int32)) S20 ⟨by decide, by decide⟩
        have hat20 := Has.at (v := (.ref y0)) H20 hin20 (by first | rfl | decide)
        refine own_go (S' := (T19.setTop (mkF m 18 #[.val (.ref p0), .val (.int gd), .val (.int 0), .val (.int 1)] [(.ref y0)]))) (fun _ kont => X19.aaload hx (j := (1 : Int32)) (v := (.ref y0)) (by rw [e19]; exact Ar20.1) (State.isArrayOf_alike hZ.alike Ar20.2.1) rfl Ar20.2.2 hin20 hat20 (g := (mkF m 17 #[.val (.ref p0), .val (.int gd), .val (.int 0), .val (.int 1)] [(.int 1), (.ref fa)])) rfl rfl (hb hby d20_17) _ kont) ?_
        refine own_go (S' := (T19.setTop (mkF m 19 #[.val (.ref p0), .val (.int gd), .val (.int 0), .val (.int 1)] [(.int gd), (.ref y0)]))) (fun _ kont => XS.iloadN X19.here hx rfl (hb hby d20_18) rfl kont) ?_
        obtain ⟨lx21, Ex21, Fn21, Fd21, Fi21, pp21, lp21, Fp21, Ep21, Fc21⟩ := id U_y0
        obtain ⟨cq22, kq22, q22a, q22b, q22c⟩ := isOf hZ e19 Ex21
        obtain ⟨v22, _, ⟨T22, L22, k22, n22⟩, -, X22, ⟨Lc22, hQ22, l22, y22, z22⟩, st22⟩ := X19.virtualBack hx (y := (⟨"com/example/otaniemi/otaniemi/State", "isEndAbove", "(I)Z"⟩ : MethodName)) (z := (⟨"com/example/otaniemi/otaniemi/State", "isEndAbove", "(I)Z"⟩ : MethodName)) hown (mvT hZ (oH hw 140 rfl)) (mvT hZ (oH hw 141 rfl)) (notFace_of_selects (args := #[]) (mvT hZ (oH hw 143 rfl))) (mvT hZ (oH hw 143 rfl)) (mvT hZ (oH hw 142 rfl)) (by decide) (backOf (W := 0) (rmEa l Z a0 hw [] y0 gd _ _ (1 : Int32) h0 n0 Z0 U_y0 (by decide)) hZ (oH hw 144 rfl) (oH hw 2 rfl) (by decide) (by decide)) q22a q22c (g := (mkF m 19 #[.val (.ref p0), .val (.int gd), .val (.int 0), .val (.int 1)] [(.int gd), (.ref y0)])) rfl (by rw [hml]; rfl) (Steps.refl _) (argsL := [(.int gd)]) (rest := []) (lenOf pd_366 rfl) rfl (by show 2 * 0 + _ ≤ _; exact Nat.le_of_eq rfl) (hb hby d20_19) (fun _ _ => ⟨rfl, e19, (by decide : 0 + 0 ≤ _), (by decide : 0 + 0 ≤ _)⟩)
        dsimp only [Pt.U, Pt.locs, Pt.cells, Pt.slots] at X22 l22 y22 z22 st22 hQ22
        subst l22 y22 z22
        obtain ⟨rfl, eh22, rfl⟩ := hQ22
        have N22 := Fr.app N17 (Fr.nil n0)
        refine own_goT (S' := (T22.setTop (mkF m 22 #[.val (.ref p0), .val (.int gd), .val (.int 0), .val (.int 1)] [(.int 1)]))) st22 ?_
        refine own_go (S' := (T22.setTop (mkF m 28 #[.val (.ref p0), .val (.int gd), .val (.int 0), .val (.int 1)] [(.int 0), (.int 1), (.ref p0)]))) (fun _ kont => XS.ifNo X22.here hx rfl (hb hby d20_22) rfl ((if0 _ _).trans (feq (by decide)).1) (XS.aloadN X22.here hx rfl (hb hby d20_25) rfl rfl (XS.iloadN X22.here hx rfl (hb hby d20_26) rfl (XS.iloadN X22.here hx rfl (hb hby d20_27) rfl kont)))) ?_
        obtain ⟨cq23, qp23, qp23'⟩ := E_p0.cell
        obtain ⟨v23, _, ⟨T23, L23, k23, n23⟩, -, X23, ⟨Lc23, hQ23, l23, y23, z23⟩, st23⟩ := X22.privateBack hx (y := (⟨"com/example/otaniemi/otaniemi/Pending", "move", "(II)V"⟩ : MethodName)) hown (mvT hZ (oH hw 150 rfl)) (mvT hZ (oH hw 151 rfl)) (own_selP (args := #[]) (mvT hZ (oH hw 55 rfl)) (mvP hZ (oH hw 152 rfl)) (mvT hZ (oH hw 151 rfl)) (by decide)) (Cond.privateMethod_at (mvP hZ (oH hw 152 rfl) (args := #[]))) (mvT hZ (oH hw 153 rfl)) (by decide) (backOf (W := 0) (rmMv10N l Z a0 hw [] p0 fa kf (2 : Int32) (.ref x0) y0 h0 n0 Z0 E_p0 F_p0_found F_p0_foundCount F_p0_passed F_p0_values g_p0 g_fa V_fa O_fa U_y0.2.1) hZ (oH hw 153 rfl) (oH hw 56 rfl) (by decide) (by decide)) (g := (mkF m 28 #[.val (.ref p0), .val (.int gd), .val (.int 0), .val (.int 1)] [(.int 0), (.int 1), (.ref p0)])) rfl (by rw [hml]; rfl) (Steps.refl _) (a := p0) (by rw [eh22]; exact qp23) qp23' (argsL := [(.int 1), (.int 0)]) (rest := []) (lenOf pd_318 rfl) rfl (by show 2 * 0 + _ ≤ _; exact Nat.le_of_eq rfl) (hb hby d20_28) (fun _ _ => ⟨rfl, eh22, (by decide : 0 + 0 ≤ _), (by decide : 0 + 0 ≤ _)⟩)
        dsimp only [Pt.U, Pt.locs, Pt.cells, Pt.slots] at X23 l23 y23 z23 st23 hQ23
        subst l23 y23 z23
        obtain ⟨rfl, Nq23, Kc23, Vf23⟩ := hQ23
        have Kt23 := K0.trans Kc23 (fun x hx => by simp only [List.mem_cons, List.mem_singleton, List.not_mem_nil, or_false] at hx; rcases hx with rfl <;> first | (left; simp; done) | (right; assumption))
        have N23 := Fr.app N22 Nq23
        have Z23 : n0 ≤ T23.heap.size := Nat.le_trans Z0 Kc23.1
        have c23_Ep0 := E_p0.keep Kc23
        have c23_Fp0_found := F_p0_found.keep Kc23 (ninS npf nin0)
        have c23_Fp0_foundCount := F_p0_foundCount.keep Kc23 (ninS npf nin0)
        have c23_Fp0_passed := F_p0_passed.keep Kc23 (ninS npf nin0)
        have c23_Fp0_values := F_p0_values.keep Kc23 (ninS npf nin0)
        have c23_Ux0 := U_x0.kp (own_Kp.keep Kc23 (own_gS g_fa own_g0))
        have c23_Uy0 := U_y0.kp (own_Kp.keep Kc23 (own_gS g_fa own_g0))
        refine own_goT (S' := (T23.setTop (mkF m 31 #[.val (.ref p0), .val (.int gd), .val (.int 0), .val (.int 1)] []))) st23 ?_
        refine own_go (S' := (T23.setTop (mkF m 34 #[.val (.ref p0), .val (.int gd), .val (.int ((0 : Int32) + (1 : Int32))), .val (.int 1)] []))) (fun _ kont => XS.iinc X23.here hx rfl (hb hby d20_31) rfl (l' := #[.val (.ref p0), .val (.int gd), .val (.int ((0 : Int32) + (1 : Int32))), .val (.int 1)]) rfl kont) ?_
        rw [show ((0 : Int32) + (1 : Int32)) = (1 : Int32) from by decide]
        refine own_go (S' := (T23.setTop (mkF m 37 #[.val (.ref p0), .val (.int gd), .val (.int 1), .val (.int ((1 : Int32) + (1 : Int32)))] []))) (fun _ kont => XS.iinc X23.here hx rfl (hb hby d20_34) rfl (l' := #[.val (.ref p0), .val (.int gd), .val (.int 1), .val (.int ((1 : Int32) + (1 : Int32)))]) rfl kont) ?_
        rw [show ((1 : Int32) + (1 : Int32)) = (2 : Int32) from by decide]
        refine own_go (S' := (T23.setTop (mkF m 6 #[.val (.ref p0), .val (.int gd), .val (.int 1), .val (.int 2)] [(.ref p0), (.int 2)]))) (fun _ kont => XS.goto X23.here hx rfl (pc0 := 37) (pc' := 4) rfl (hb hby d20_37) (by decide) (by decide) (XS.iloadN X23.here hx rfl (hb hby d20_4) rfl (XS.aloadN X23.here hx rfl (hb hby d20_5) rfl rfl kont))) ?_
        obtain ⟨T24, X24, e24, st24⟩ := getF X23 hx hZ hown (host := "") (Or.inl (oH hw 74 rfl)) Via.refl rfl c23_Fp0_foundCount (g := (mkF m 6 #[.val (.ref p0), .val (.int gd), .val (.int 1), .val (.int 2)] [(.ref p0), (.int 2)])) rfl rfl (hb hby d20_6)
        refine own_go (S' := (T24.setTop (mkF m 9 #[.val (.ref p0), .val (.int gd), .val (.int 1), .val (.int 2)] [(.int 2), (.int 2)]))) st24 ?_
        refine own_go (S' := (T24.setTop (mkF m 42 #[.val (.ref p0), .val (.int gd), .val (.int 1), .val (.int 2)] [(.int 1), (.ref p0)]))) (fun _ kont => XS.icmpYes X24.here hx rfl (pc0 := 9) (pc' := 40) rfl (hb hby d20_9) rfl (flt (by decide)).2.1 (by decide) (by decide) (XS.aloadN X24.here hx rfl (hb hby d20_40) rfl rfl (XS.iloadN X24.here hx rfl (hb hby d20_41) rfl kont))) ?_
        obtain ⟨T25, h25, X25, e25, W25, st25⟩ := putF X24 hx hZ hown (host := "") (Or.inl (oH hw 74 rfl)) Via.refl e24 c23_Fp0_foundCount c23_Ep0 (Or.inl (oH hw 75 rfl)) (oH hw 55 rfl) (ty := .int) (by decide) rfl rfl (g := (mkF m 42 #[.val (.ref p0), .val (.int gd), .val (.int 1), .val (.int 2)] [(.int 1), (.ref p0)])) rfl rfl (hb hby d20_42)
        have c25_Ep0 := c23_Ep0.wr W25
        have c25_Fp0_found := c23_Fp0_found.other W25 (Or.inr (slot_ne (Or.inl (oH hw 64 rfl)) (Or.inl (oH hw 75 rfl)) (by decide) (by decide : parseFieldDescriptor "[Lcom/example/otaniemi/otaniemi/State;" = some (.array (.object "com/example/otaniemi/otaniemi/State"))) (by decide : parseFieldDescriptor "I" = some .int)))
        have c25_Fp0_foundCount := c23_Fp0_foundCount.same W25
        have c25_Fp0_passed := c23_Fp0_passed.other W25 (Or.inr (slot_ne (Or.inl (oH hw 125 rfl)) (Or.inl (oH hw 75 rfl)) (by decide) (by decide : parseFieldDescriptor "Lcom/example/otaniemi/otaniemi/Pending$Passed;" = some (.object "com/example/otaniemi/otaniemi/Pending$Passed")) (by decide : parseFieldDescriptor "I" = some .int)))
        have c25_Fp0_values := c23_Fp0_values.other W25 (Or.inr (slot_ne (Or.inl (oH hw 123 rfl)) (Or.inl (oH hw 75 rfl)) (by decide) (by decide : parseFieldDescriptor "[J" = some (.array .long)) (by decide : parseFieldDescriptor "I" = some .int)))
        have c25_Ux0 := c23_Ux0.kp (own_Kp.wr W25 g_p0)
        have c25_Uy0 := c23_Uy0.kp (own_Kp.wr W25 g_p0)
        have c25_Vfa := Vf23.other W25 (Ne.symm npf)
        have K25 := Kt23.wr W25 (Or.inl (List.mem_of_getElem? (i := 0) rfl))
        have N25 := Fr.snoc X25 N23 g_p0
        have Z25 : n0 ≤ h25.size := Nat.le_trans Z23 (Nat.le_of_eq W25.size.symm)
        refine own_go (S' := (T25.setTop (mkF m 45 #[.val (.ref p0), .val (.int gd), .val (.int 1), .val (.int 2)] []))) st25 ?_
        refine own_ret0 X25 hx hlk Bd.returns (hb hby d20_45) (by decide) (by decide) ?_
        rw [e25]
        exact ⟨rfl, N25, own_Kp.keep K25 (own_gS g_p0 (own_gS g_fa own_g0)), Or.inr ⟨fa, kf, _, y0, ⟨g_p0, g_fa, c25_Ep0, c25_Fp0_found, c25_Fp0_foundCount, c25_Fp0_passed, c25_Vfa, O_fa⟩, Or.inl ⟨c25_Fp0_values, (own_r2_01 _ _ _ _).trans (own_r1_10 _)⟩⟩⟩
    · rcases hd_y0 with rfl | rfl
      · refine own_go (S' := (s₁.setTop (mkF m 6 #[.val (.ref p0), .val (.int gd), .val (.int 0), .val (.int 0)] [(.ref p0), (.int 0)]))) (fun _ kont => XS.iconst X0.here hx rfl (hb hby d20_0) (XS.istoreN X0.here hx rfl (hb hby d20_1) rfl (l' := #[.val (.ref p0), .val (.int gd), .val (.int 0), .unset]) rfl (XS.iconst X0.here hx rfl (hb hby d20_2) (XS.istoreN X0.here hx rfl (hb hby d20_3) rfl (l' := #[.val (.ref p0), .val (.int gd), .val (.int 0), .val (.int 0)]) rfl (XS.iloadN X0.here hx rfl (hb hby d20_4) rfl (XS.aloadN X0.here hx rfl (hb hby d20_5) rfl rfl kont)))))) ?_
        obtain ⟨T26, X26, e26, st26⟩ := getF X0 hx hZ hown (host := "") (Or.inl (oH hw 74 rfl)) Via.refl e0 F_p0_foundCount (g := (mkF m 6 #[.val (.ref p0), .val (.int gd), .val (.int 0), .val (.int 0)] [(.ref p0), (.int 0)])) rfl rfl (hb hby d20_6)
        refine own_go (S' := (T26.setTop (mkF m 9 #[.val (.ref p0), .val (.int gd), .val (.int 0), .val (.int 0)] [(.int 2), (.int 0)]))) st26 ?_
        refine own_go (S' := (T26.setTop (mkF m 13 #[.val (.ref p0), .val (.int gd), .val (.int 0), .val (.int 0)] [(.ref p0)]))) (fun _ kont => XS.icmpNo X26.here hx rfl (hb hby d20_9) rfl (tlt (by decide)).2.1 (XS.aloadN X26.here hx rfl (hb hby d20_12) rfl rfl kont)) ?_
        obtain ⟨T27, X27, e27, st27⟩ := getF X26 hx hZ hown (host := "") (Or.inl (oH hw 63 rfl)) Via.refl e26 F_p0_found (g := (mkF m 13 #[.val (.ref p0), .val (.int gd), .val (.int 0), .val (.int 0)] [(.ref p0)])) rfl rfl (hb hby d20_13)
        refine own_go (S' := (T27.setTop (mkF m 16 #[.val (.ref p0), .val (.int gd), .val (.int 0), .val (.int 0)] [(.ref fa)]))) st27 ?_
        refine own_go (S' := (T27.setTop (mkF m 17 #[.val (.ref p0), .val (.int gd), .val (.int 0), .val (.int 0)] [(.int 0), (.ref fa)]))) (fun _ kont => XS.iloadN X27.here hx rfl (hb hby d20_16) rfl kont) ?_
        obtain ⟨cl28, Ar28, -, S28, -, H28, -⟩ := id V_fa
        have hin28 := inb_of (j := (0 : Int32)) S28 ⟨by decide, by decide⟩
        have hat28 := Has.at (v := (.ref x0)) H28 hin28 (by first | rfl | decide)
        refine own_go (S' := (T27.setTop (mkF m 18 #[.val (.ref p0), .val (.int gd), .val (.int 0), .val (.int 0)] [(.ref x0)]))) (fun _ kont => X27.aaload hx (j := (0 : Int32)) (v := (.ref x0)) (by rw [e27]; exact Ar28.1) (State.isArrayOf_alike hZ.alike Ar28.2.1) rfl Ar28.2.2 hin28 hat28 (g := (mkF m 17 #[.val (.ref p0), .val (.int gd), .val (.int 0), .val (.int 0)] [(.int 0), (.ref fa)])) rfl rfl (hb hby d20_17) _ kont) ?_
        refine own_go (S' := (T27.setTop (mkF m 19 #[.val (.ref p0), .val (.int gd), .val (.int 0), .val (.int 0)] [(.int gd), (.ref x0)]))) (fun _ kont => XS.iloadN X27.here hx rfl (hb hby d20_18) rfl kont) ?_
        obtain ⟨lx29, Ex29, Fn29, Fd29, Fi29, pp29, lp29, Fp29, Ep29, Fc29⟩ := id U_x0
        obtain ⟨cq30, kq30, q30a, q30b, q30c⟩ := isOf hZ e27 Ex29
        obtain ⟨v30, _, ⟨T30, L30, k30, n30⟩, -, X30, ⟨Lc30, hQ30, l30, y30, z30⟩, st30⟩ := X27.virtualBack hx (y := (⟨"com/example/otaniemi/otaniemi/State", "isEndAbove", "(I)Z"⟩ : MethodName)) (z := (⟨"com/example/otaniemi/otaniemi/State", "isEndAbove", "(I)Z"⟩ : MethodName)) hown (mvT hZ (oH hw 140 rfl)) (mvT hZ (oH hw 141 rfl)) (notFace_of_selects (args := #[]) (mvT hZ (oH hw 143 rfl))) (mvT hZ (oH hw 143 rfl)) (mvT hZ (oH hw 142 rfl)) (by decide) (backOf (W := 0) (rmEa l Z a0 hw [] x0 gd _ _ (1 : Int32) h0 n0 Z0 U_x0 (by decide)) hZ (oH hw 144 rfl) (oH hw 2 rfl) (by decide) (by decide)) q30a q30c (g := (mkF m 19 #[.val (.ref p0), .val (.int gd), .val (.int 0), .val (.int 0)] [(.int gd), (.ref x0)])) rfl (by rw [hml]; rfl) (Steps.refl _) (argsL := [(.int gd)]) (rest := []) (lenOf pd_366 rfl) rfl (by show 2 * 0 + _ ≤ _; exact Nat.le_of_eq rfl) (hb hby d20_19) (fun _ _ => ⟨rfl, e27, (by decide : 0 + 0 ≤ _), (by decide : 0 + 0 ≤ _)⟩)
        dsimp only [Pt.U, Pt.locs, Pt.cells, Pt.slots] at X30 l30 y30 z30 st30 hQ30
        subst l30 y30 z30
        obtain ⟨rfl, eh30, rfl⟩ := hQ30
        have N30 := Fr.app N0 (Fr.nil n0)
        refine own_goT (S' := (T30.setTop (mkF m 22 #[.val (.ref p0), .val (.int gd), .val (.int 0), .val (.int 0)] [(.int 1)]))) st30 ?_
        refine own_go (S' := (T30.setTop (mkF m 28 #[.val (.ref p0), .val (.int gd), .val (.int 0), .val (.int 0)] [(.int 0), (.int 0), (.ref p0)]))) (fun _ kont => XS.ifNo X30.here hx rfl (hb hby d20_22) rfl ((if0 _ _).trans (feq (by decide)).1) (XS.aloadN X30.here hx rfl (hb hby d20_25) rfl rfl (XS.iloadN X30.here hx rfl (hb hby d20_26) rfl (XS.iloadN X30.here hx rfl (hb hby d20_27) rfl kont)))) ?_
        obtain ⟨cq31, qp31, qp31'⟩ := E_p0.cell
        obtain ⟨v31, _, ⟨T31, L31, k31, n31⟩, -, X31, ⟨Lc31, hQ31, l31, y31, z31⟩, st31⟩ := X30.privateBack hx (y := (⟨"com/example/otaniemi/otaniemi/Pending", "move", "(II)V"⟩ : MethodName)) hown (mvT hZ (oH hw 150 rfl)) (mvT hZ (oH hw 151 rfl)) (own_selP (args := #[]) (mvT hZ (oH hw 55 rfl)) (mvP hZ (oH hw 152 rfl)) (mvT hZ (oH hw 151 rfl)) (by decide)) (Cond.privateMethod_at (mvP hZ (oH hw 152 rfl) (args := #[]))) (mvT hZ (oH hw 153 rfl)) (by decide) (backOf (W := 0) (rmMv00N l Z a0 hw [] p0 fa kf (2 : Int32) (.ref y0) x0 h0 n0 Z0 E_p0 F_p0_found F_p0_foundCount F_p0_passed F_p0_values g_p0 g_fa V_fa O_fa U_x0.2.1) hZ (oH hw 153 rfl) (oH hw 56 rfl) (by decide) (by decide)) (g := (mkF m 28 #[.val (.ref p0), .val (.int gd), .val (.int 0), .val (.int 0)] [(.int 0), (.int 0), (.ref p0)])) rfl (by rw [hml]; rfl) (Steps.refl _) (a := p0) (by rw [eh30]; exact qp31) qp31' (argsL := [(.int 0), (.int 0)]) (rest := []) (lenOf pd_318 rfl) rfl (by show 2 * 0 + _ ≤ _; exact Nat.le_of_eq rfl) (hb hby d20_28) (fun _ _ => ⟨rfl, eh30, (by decide : 0 + 0 ≤ _), (by decide : 0 + 0 ≤ _)⟩)
        dsimp only [Pt.U, Pt.locs, Pt.cells, Pt.slots] at X31 l31 y31 z31 st31 hQ31
        subst l31 y31 z31
        obtain ⟨rfl, Nq31, Kc31, Vf31⟩ := hQ31
        have Kt31 := K0.trans Kc31 (fun x hx => by simp only [List.mem_cons, List.mem_singleton, List.not_mem_nil, or_false] at hx; rcases hx with rfl <;> first | (left; simp; done) | (right; assumption))
        have N31 := Fr.app N30 Nq31
        have Z31 : n0 ≤ T31.heap.size := Nat.le_trans Z0 Kc31.1
        have c31_Ep0 := E_p0.keep Kc31
        have c31_Fp0_found := F_p0_found.keep Kc31 (ninS npf nin0)
        have c31_Fp0_foundCount := F_p0_foundCount.keep Kc31 (ninS npf nin0)
        have c31_Fp0_passed := F_p0_passed.keep Kc31 (ninS npf nin0)
        have c31_Fp0_values := F_p0_values.keep Kc31 (ninS npf nin0)
        have c31_Ux0 := U_x0.kp (own_Kp.keep Kc31 (own_gS g_fa own_g0))
        have c31_Uy0 := U_y0.kp (own_Kp.keep Kc31 (own_gS g_fa own_g0))
        refine own_goT (S' := (T31.setTop (mkF m 31 #[.val (.ref p0), .val (.int gd), .val (.int 0), .val (.int 0)] []))) st31 ?_
        refine own_go (S' := (T31.setTop (mkF m 34 #[.val (.ref p0), .val (.int gd), .val (.int ((0 : Int32) + (1 : Int32))), .val (.int 0)] []))) (fun _ kont => XS.iinc X31.here hx rfl (hb hby d20_31) rfl (l' := #[.val (.ref p0), .val (.int gd), .val (.int ((0 : Int32) + (1 : Int32))), .val (.int 0)]) rfl kont) ?_
        rw [show ((0 : Int32) + (1 : Int32)) = (1 : Int32) from by decide]
        refine own_go (S' := (T31.setTop (mkF m 37 #[.val (.ref p0), .val (.int gd), .val (.int 1), .val (.int ((0 : Int32) + (1 : Int32)))] []))) (fun _ kont => XS.iinc X31.here hx rfl (hb hby d20_34) rfl (l' := #[.val (.ref p0), .val (.int gd), .val (.int 1), .val (.int ((0 : Int32) + (1 : Int32)))]) rfl kont) ?_
        rw [show ((0 : Int32) + (1 : Int32)) = (1 : Int32) from by decide]
        refine own_go (S' := (T31.setTop (mkF m 6 #[.val (.ref p0), .val (.int gd), .val (.int 1), .val (.int 1)] [(.ref p0), (.int 1)]))) (fun _ kont => XS.goto X31.here hx rfl (pc0 := 37) (pc' := 4) rfl (hb hby d20_37) (by decide) (by decide) (XS.iloadN X31.here hx rfl (hb hby d20_4) rfl (XS.aloadN X31.here hx rfl (hb hby d20_5) rfl rfl kont))) ?_
        obtain ⟨T32, X32, e32, st32⟩ := getF X31 hx hZ hown (host := "") (Or.inl (oH hw 74 rfl)) Via.refl rfl c31_Fp0_foundCount (g := (mkF m 6 #[.val (.ref p0), .val (.int gd), .val (.int 1), .val (.int 1)] [(.ref p0), (.int 1)])) rfl rfl (hb hby d20_6)
        refine own_go (S' := (T32.setTop (mkF m 9 #[.val (.ref p0), .val (.int gd), .val (.int 1), .val (.int 1)] [(.int 2), (.int 1)]))) st32 ?_
        refine own_go (S' := (T32.setTop (mkF m 13 #[.val (.ref p0), .val (.int gd), .val (.int 1), .val (.int 1)] [(.ref p0)]))) (fun _ kont => XS.icmpNo X32.here hx rfl (hb hby d20_9) rfl (tlt (by decide)).2.1 (XS.aloadN X32.here hx rfl (hb hby d20_12) rfl rfl kont)) ?_
        obtain ⟨T33, X33, e33, st33⟩ := getF X32 hx hZ hown (host := "") (Or.inl (oH hw 63 rfl)) Via.refl e32 c31_Fp0_found (g := (mkF m 13 #[.val (.ref p0), .val (.int gd), .val (.int 1), .val (.int 1)] [(.ref p0)])) rfl rfl (hb hby d20_13)
        refine own_go (S' := (T33.setTop (mkF m 16 #[.val (.ref p0), .val (.int gd), .val (.int 1), .val (.int 1)] [(.ref fa)]))) st33 ?_
        refine own_go (S' := (T33.setTop (mkF m 17 #[.val (.ref p0), .val (.int gd), .val (.int 1), .val (.int 1)] [(.int 1), (.ref fa)]))) (fun _ kont => XS.iloadN X33.here hx rfl (hb hby d20_16) rfl kont) ?_
        obtain ⟨cl34, Ar34, -, S34, -, H34, -⟩ := id Vf31
        have hin34 := inb_of (j := (1 : Int32)) S34 ⟨by decide, by decide⟩
        have hat34 := Has.at (v := (.ref y0)) H34 hin34 (by first | rfl | decide)
        refine own_go (S' := (T33.setTop (mkF m 18 #[.val (.ref p0), .val (.int gd), .val (.int 1), .val (.int 1)] [(.ref y0)]))) (fun _ kont => X33.aaload hx (j := (1 : Int32)) (v := (.ref y0)) (by rw [e33]; exact Ar34.1) (State.isArrayOf_alike hZ.alike Ar34.2.1) rfl Ar34.2.2 hin34 hat34 (g := (mkF m 17 #[.val (.ref p0), .val (.int gd), .val (.int 1), .val (.int 1)] [(.int 1), (.ref fa)])) rfl rfl (hb hby d20_17) _ kont) ?_
        refine own_go (S' := (T33.setTop (mkF m 19 #[.val (.ref p0), .val (.int gd), .val (.int 1), .val (.int 1)] [(.int gd), (.ref y0)]))) (fun _ kont => XS.iloadN X33.here hx rfl (hb hby d20_18) rfl kont) ?_
        obtain ⟨lx35, Ex35, Fn35, Fd35, Fi35, pp35, lp35, Fp35, Ep35, Fc35⟩ := id c31_Uy0
        obtain ⟨cq36, kq36, q36a, q36b, q36c⟩ := isOf hZ e33 Ex35
        obtain ⟨v36, _, ⟨T36, L36, k36, n36⟩, -, X36, ⟨Lc36, hQ36, l36, y36, z36⟩, st36⟩ := X33.virtualBack hx (y := (⟨"com/example/otaniemi/otaniemi/State", "isEndAbove", "(I)Z"⟩ : MethodName)) (z := (⟨"com/example/otaniemi/otaniemi/State", "isEndAbove", "(I)Z"⟩ : MethodName)) hown (mvT hZ (oH hw 140 rfl)) (mvT hZ (oH hw 141 rfl)) (notFace_of_selects (args := #[]) (mvT hZ (oH hw 143 rfl))) (mvT hZ (oH hw 143 rfl)) (mvT hZ (oH hw 142 rfl)) (by decide) (backOf (W := 0) (rmEa l Z a0 hw [] y0 gd _ _ (0 : Int32) T31.heap n0 Z31 c31_Uy0 (by decide)) hZ (oH hw 144 rfl) (oH hw 2 rfl) (by decide) (by decide)) q36a q36c (g := (mkF m 19 #[.val (.ref p0), .val (.int gd), .val (.int 1), .val (.int 1)] [(.int gd), (.ref y0)])) rfl (by rw [hml]; rfl) (Steps.refl _) (argsL := [(.int gd)]) (rest := []) (lenOf pd_366 rfl) rfl (by show 2 * 0 + _ ≤ _; exact Nat.le_of_eq rfl) (hb hby d20_19) (fun _ _ => ⟨rfl, e33, (by decide : 0 + 0 ≤ _), (by decide : 0 + 0 ≤ _)⟩)
        dsimp only [Pt.U, Pt.locs, Pt.cells, Pt.slots] at X36 l36 y36 z36 st36 hQ36
        subst l36 y36 z36
        obtain ⟨rfl, eh36, rfl⟩ := hQ36
        have N36 := Fr.app N31 (Fr.nil n0)
        refine own_goT (S' := (T36.setTop (mkF m 22 #[.val (.ref p0), .val (.int gd), .val (.int 1), .val (.int 1)] [(.int 0)]))) st36 ?_
        refine own_go (S' := (T36.setTop (mkF m 37 #[.val (.ref p0), .val (.int gd), .val (.int 1), .val (.int ((1 : Int32) + (1 : Int32)))] []))) (fun _ kont => XS.ifYes X36.here hx rfl (pc0 := 22) (pc' := 34) rfl (hb hby d20_22) rfl ((if0 _ _).trans (teq (by decide)).1) (by decide) (by decide) (XS.iinc X36.here hx rfl (hb hby d20_34) rfl (l' := #[.val (.ref p0), .val (.int gd), .val (.int 1), .val (.int ((1 : Int32) + (1 : Int32)))]) rfl kont)) ?_
        rw [show ((1 : Int32) + (1 : Int32)) = (2 : Int32) from by decide]
        refine own_go (S' := (T36.setTop (mkF m 6 #[.val (.ref p0), .val (.int gd), .val (.int 1), .val (.int 2)] [(.ref p0), (.int 2)]))) (fun _ kont => XS.goto X36.here hx rfl (pc0 := 37) (pc' := 4) rfl (hb hby d20_37) (by decide) (by decide) (XS.iloadN X36.here hx rfl (hb hby d20_4) rfl (XS.aloadN X36.here hx rfl (hb hby d20_5) rfl rfl kont))) ?_
        obtain ⟨T37, X37, e37, st37⟩ := getF X36 hx hZ hown (host := "") (Or.inl (oH hw 74 rfl)) Via.refl eh36 c31_Fp0_foundCount (g := (mkF m 6 #[.val (.ref p0), .val (.int gd), .val (.int 1), .val (.int 2)] [(.ref p0), (.int 2)])) rfl rfl (hb hby d20_6)
        refine own_go (S' := (T37.setTop (mkF m 9 #[.val (.ref p0), .val (.int gd), .val (.int 1), .val (.int 2)] [(.int 2), (.int 2)]))) st37 ?_
        refine own_go (S' := (T37.setTop (mkF m 42 #[.val (.ref p0), .val (.int gd), .val (.int 1), .val (.int 2)] [(.int 1), (.ref p0)]))) (fun _ kont => XS.icmpYes X37.here hx rfl (pc0 := 9) (pc' := 40) rfl (hb hby d20_9) rfl (flt (by decide)).2.1 (by decide) (by decide) (XS.aloadN X37.here hx rfl (hb hby d20_40) rfl rfl (XS.iloadN X37.here hx rfl (hb hby d20_41) rfl kont))) ?_
        obtain ⟨T38, h38, X38, e38, W38, st38⟩ := putF X37 hx hZ hown (host := "") (Or.inl (oH hw 74 rfl)) Via.refl e37 c31_Fp0_foundCount c31_Ep0 (Or.inl (oH hw 75 rfl)) (oH hw 55 rfl) (ty := .int) (by decide) rfl rfl (g := (mkF m 42 #[.val (.ref p0), .val (.int gd), .val (.int 1), .val (.int 2)] [(.int 1), (.ref p0)])) rfl rfl (hb hby d20_42)
        have c38_Ep0 := c31_Ep0.wr W38
        have c38_Fp0_found := c31_Fp0_found.other W38 (Or.inr (slot_ne (Or.inl (oH hw 64 rfl)) (Or.inl (oH hw 75 rfl)) (by decide) (by decide : parseFieldDescriptor "[Lcom/example/otaniemi/otaniemi/State;" = some (.array (.object "com/example/otaniemi/otaniemi/State"))) (by decide : parseFieldDescriptor "I" = some .int)))
        have c38_Fp0_foundCount := c31_Fp0_foundCount.same W38
        have c38_Fp0_passed := c31_Fp0_passed.other W38 (Or.inr (slot_ne (Or.inl (oH hw 125 rfl)) (Or.inl (oH hw 75 rfl)) (by decide) (by decide : parseFieldDescriptor "Lcom/example/otaniemi/otaniemi/Pending$Passed;" = some (.object "com/example/otaniemi/otaniemi/Pending$Passed")) (by decide : parseFieldDescriptor "I" = some .int)))
        have c38_Fp0_values := c31_Fp0_values.other W38 (Or.inr (slot_ne (Or.inl (oH hw 123 rfl)) (Or.inl (oH hw 75 rfl)) (by decide) (by decide : parseFieldDescriptor "[J" = some (.array .long)) (by decide : parseFieldDescriptor "I" = some .int)))
        have c38_Ux0 := c31_Ux0.kp (own_Kp.wr W38 g_p0)
        have c38_Uy0 := c31_Uy0.kp (own_Kp.wr W38 g_p0)
        have c38_Vfa := Vf31.other W38 (Ne.symm npf)
        have K38 := Kt31.wr W38 (Or.inl (List.mem_of_getElem? (i := 0) rfl))
        have N38 := Fr.snoc X38 N36 g_p0
        have Z38 : n0 ≤ h38.size := Nat.le_trans Z31 (Nat.le_of_eq W38.size.symm)
        refine own_go (S' := (T38.setTop (mkF m 45 #[.val (.ref p0), .val (.int gd), .val (.int 1), .val (.int 2)] []))) st38 ?_
        refine own_ret0 X38 hx hlk Bd.returns (hb hby d20_45) (by decide) (by decide) ?_
        rw [e38]
        exact ⟨rfl, N38, own_Kp.keep K38 (own_gS g_p0 (own_gS g_fa own_g0)), Or.inr ⟨fa, kf, _, x0, ⟨g_p0, g_fa, c38_Ep0, c38_Fp0_found, c38_Fp0_foundCount, c38_Fp0_passed, c38_Vfa, O_fa⟩, Or.inl ⟨c38_Fp0_values, (own_r2_10 _ _ _ _).trans (own_r1_10 _)⟩⟩⟩
      · refine own_go (S' := (s₁.setTop (mkF m 6 #[.val (.ref p0), .val (.int gd), .val (.int 0), .val (.int 0)] [(.ref p0), (.int 0)]))) (fun _ kont => XS.iconst X0.here hx rfl (hb hby d20_0) (XS.istoreN X0.here hx rfl (hb hby d20_1) rfl (l' := #[.val (.ref p0), .val (.int gd), .val (.int 0), .unset]) rfl (XS.iconst X0.here hx rfl (hb hby d20_2) (XS.istoreN X0.here hx rfl (hb hby d20_3) rfl (l' := #[.val (.ref p0), .val (.int gd), .val (.int 0), .val (.int 0)]) rfl (XS.iloadN X0.here hx rfl (hb hby d20_4) rfl (XS.aloadN X0.here hx rfl (hb hby d20_5) rfl rfl kont)))))) ?_
        obtain ⟨T39, X39, e39, st39⟩ := getF X0 hx hZ hown (host := "") (Or.inl (oH hw 74 rfl)) Via.refl e0 F_p0_foundCount (g := (mkF m 6 #[.val (.ref p0), .val (.int gd), .val (.int 0), .val (.int 0)] [(.ref p0), (.int 0)])) rfl rfl (hb hby d20_6)
        refine own_go (S' := (T39.setTop (mkF m 9 #[.val (.ref p0), .val (.int gd), .val (.int 0), .val (.int 0)] [(.int 2), (.int 0)]))) st39 ?_
        refine own_go (S' := (T39.setTop (mkF m 13 #[.val (.ref p0), .val (.int gd), .val (.int 0), .val (.int 0)] [(.ref p0)]))) (fun _ kont => XS.icmpNo X39.here hx rfl (hb hby d20_9) rfl (tlt (by decide)).2.1 (XS.aloadN X39.here hx rfl (hb hby d20_12) rfl rfl kont)) ?_
        obtain ⟨T40, X40, e40, st40⟩ := getF X39 hx hZ hown (host := "") (Or.inl (oH hw 63 rfl)) Via.refl e39 F_p0_found (g := (mkF m 13 #[.val (.ref p0), .val (.int gd), .val (.int 0), .val (.int 0)] [(.ref p0)])) rfl rfl (hb hby d20_13)
        refine own_go (S' := (T40.setTop (mkF m 16 #[.val (.ref p0), .val (.int gd), .val (.int 0), .val (.int 0)] [(.ref fa)]))) st40 ?_
        refine own_go (S' := (T40.setTop (mkF m 17 #[.val (.ref p0), .val (.int gd), .val (.int 0), .val (.int 0)] [(.int 0), (.ref fa)]))) (fun _ kont => XS.iloadN X40.here hx rfl (hb hby d20_16) rfl kont) ?_
        obtain ⟨cl41, Ar41, -, S41, -, H41, -⟩ := id V_fa
        have hin41 := inb_of (j := (0 : Int32)) S41 ⟨by decide, by decide⟩
        have hat41 := Has.at (v := (.ref x0)) H41 hin41 (by first | rfl | decide)
        refine own_go (S' := (T40.setTop (mkF m 18 #[.val (.ref p0), .val (.int gd), .val (.int 0), .val (.int 0)] [(.ref x0)]))) (fun _ kont => X40.aaload hx (j := (0 : Int32)) (v := (.ref x0)) (by rw [e40]; exact Ar41.1) (State.isArrayOf_alike hZ.alike Ar41.2.1) rfl Ar41.2.2 hin41 hat41 (g := (mkF m 17 #[.val (.ref p0), .val (.int gd), .val (.int 0), .val (.int 0)] [(.int 0), (.ref fa)])) rfl rfl (hb hby d20_17) _ kont) ?_
        refine own_go (S' := (T40.setTop (mkF m 19 #[.val (.ref p0), .val (.int gd), .val (.int 0), .val (.int 0)] [(.int gd), (.ref x0)]))) (fun _ kont => XS.iloadN X40.here hx rfl (hb hby d20_18) rfl kont) ?_
        obtain ⟨lx42, Ex42, Fn42, Fd42, Fi42, pp42, lp42, Fp42, Ep42, Fc42⟩ := id U_x0
        obtain ⟨cq43, kq43, q43a, q43b, q43c⟩ := isOf hZ e40 Ex42
        obtain ⟨v43, _, ⟨T43, L43, k43, n43⟩, -, X43, ⟨Lc43, hQ43, l43, y43, z43⟩, st43⟩ := X40.virtualBack hx (y := (⟨"com/example/otaniemi/otaniemi/State", "isEndAbove", "(I)Z"⟩ : MethodName)) (z := (⟨"com/example/otaniemi/otaniemi/State", "isEndAbove", "(I)Z"⟩ : MethodName)) hown (mvT hZ (oH hw 140 rfl)) (mvT hZ (oH hw 141 rfl)) (notFace_of_selects (args := #[]) (mvT hZ (oH hw 143 rfl))) (mvT hZ (oH hw 143 rfl)) (mvT hZ (oH hw 142 rfl)) (by decide) (backOf (W := 0) (rmEa l Z a0 hw [] x0 gd _ _ (1 : Int32) h0 n0 Z0 U_x0 (by decide)) hZ (oH hw 144 rfl) (oH hw 2 rfl) (by decide) (by decide)) q43a q43c (g := (mkF m 19 #[.val (.ref p0), .val (.int gd), .val (.int 0), .val (.int 0)] [(.int gd), (.ref x0)])) rfl (by rw [hml]; rfl) (Steps.refl _) (argsL := [(.int gd)]) (rest := []) (lenOf pd_366 rfl) rfl (by show 2 * 0 + _ ≤ _; exact Nat.le_of_eq rfl) (hb hby d20_19) (fun _ _ => ⟨rfl, e40, (by decide : 0 + 0 ≤ _), (by decide : 0 + 0 ≤ _)⟩)
        dsimp only [Pt.U, Pt.locs, Pt.cells, Pt.slots] at X43 l43 y43 z43 st43 hQ43
        subst l43 y43 z43
        obtain ⟨rfl, eh43, rfl⟩ := hQ43
        have N43 := Fr.app N0 (Fr.nil n0)
        refine own_goT (S' := (T43.setTop (mkF m 22 #[.val (.ref p0), .val (.int gd), .val (.int 0), .val (.int 0)] [(.int 1)]))) st43 ?_
        refine own_go (S' := (T43.setTop (mkF m 28 #[.val (.ref p0), .val (.int gd), .val (.int 0), .val (.int 0)] [(.int 0), (.int 0), (.ref p0)]))) (fun _ kont => XS.ifNo X43.here hx rfl (hb hby d20_22) rfl ((if0 _ _).trans (feq (by decide)).1) (XS.aloadN X43.here hx rfl (hb hby d20_25) rfl rfl (XS.iloadN X43.here hx rfl (hb hby d20_26) rfl (XS.iloadN X43.here hx rfl (hb hby d20_27) rfl kont)))) ?_
        obtain ⟨cq44, qp44, qp44'⟩ := E_p0.cell
        obtain ⟨v44, _, ⟨T44, L44, k44, n44⟩, -, X44, ⟨Lc44, hQ44, l44, y44, z44⟩, st44⟩ := X43.privateBack hx (y := (⟨"com/example/otaniemi/otaniemi/Pending", "move", "(II)V"⟩ : MethodName)) hown (mvT hZ (oH hw 150 rfl)) (mvT hZ (oH hw 151 rfl)) (own_selP (args := #[]) (mvT hZ (oH hw 55 rfl)) (mvP hZ (oH hw 152 rfl)) (mvT hZ (oH hw 151 rfl)) (by decide)) (Cond.privateMethod_at (mvP hZ (oH hw 152 rfl) (args := #[]))) (mvT hZ (oH hw 153 rfl)) (by decide) (backOf (W := 0) (rmMv00N l Z a0 hw [] p0 fa kf (2 : Int32) (.ref y0) x0 h0 n0 Z0 E_p0 F_p0_found F_p0_foundCount F_p0_passed F_p0_values g_p0 g_fa V_fa O_fa U_x0.2.1) hZ (oH hw 153 rfl) (oH hw 56 rfl) (by decide) (by decide)) (g := (mkF m 28 #[.val (.ref p0), .val (.int gd), .val (.int 0), .val (.int 0)] [(.int 0), (.int 0), (.ref p0)])) rfl (by rw [hml]; rfl) (Steps.refl _) (a := p0) (by rw [eh43]; exact qp44) qp44' (argsL := [(.int 0), (.int 0)]) (rest := []) (lenOf pd_318 rfl) rfl (by show 2 * 0 + _ ≤ _; exact Nat.le_of_eq rfl) (hb hby d20_28) (fun _ _ => ⟨rfl, eh43, (by decide : 0 + 0 ≤ _), (by decide : 0 + 0 ≤ _)⟩)
        dsimp only [Pt.U, Pt.locs, Pt.cells, Pt.slots] at X44 l44 y44 z44 st44 hQ44
        subst l44 y44 z44
        obtain ⟨rfl, Nq44, Kc44, Vf44⟩ := hQ44
        have Kt44 := K0.trans Kc44 (fun x hx => by simp only [List.mem_cons, List.mem_singleton, List.not_mem_nil, or_false] at hx; rcases hx with rfl <;> first | (left; simp; done) | (right; assumption))
        have N44 := Fr.app N43 Nq44
        have Z44 : n0 ≤ T44.heap.size := Nat.le_trans Z0 Kc44.1
        have c44_Ep0 := E_p0.keep Kc44
        have c44_Fp0_found := F_p0_found.keep Kc44 (ninS npf nin0)
        have c44_Fp0_foundCount := F_p0_foundCount.keep Kc44 (ninS npf nin0)
        have c44_Fp0_passed := F_p0_passed.keep Kc44 (ninS npf nin0)
        have c44_Fp0_values := F_p0_values.keep Kc44 (ninS npf nin0)
        have c44_Ux0 := U_x0.kp (own_Kp.keep Kc44 (own_gS g_fa own_g0))
        have c44_Uy0 := U_y0.kp (own_Kp.keep Kc44 (own_gS g_fa own_g0))
        refine own_goT (S' := (T44.setTop (mkF m 31 #[.val (.ref p0), .val (.int gd), .val (.int 0), .val (.int 0)] []))) st44 ?_
        refine own_go (S' := (T44.setTop (mkF m 34 #[.val (.ref p0), .val (.int gd), .val (.int ((0 : Int32) + (1 : Int32))), .val (.int 0)] []))) (fun _ kont => XS.iinc X44.here hx rfl (hb hby d20_31) rfl (l' := #[.val (.ref p0), .val (.int gd), .val (.int ((0 : Int32) + (1 : Int32))), .val (.int 0)]) rfl kont) ?_
        rw [show ((0 : Int32) + (1 : Int32)) = (1 : Int32) from by decide]
        refine own_go (S' := (T44.setTop (mkF m 37 #[.val (.ref p0), .val (.int gd), .val (.int 1), .val (.int ((0 : Int32) + (1 : Int32)))] []))) (fun _ kont => XS.iinc X44.here hx rfl (hb hby d20_34) rfl (l' := #[.val (.ref p0), .val (.int gd), .val (.int 1), .val (.int ((0 : Int32) + (1 : Int32)))]) rfl kont) ?_
        rw [show ((0 : Int32) + (1 : Int32)) = (1 : Int32) from by decide]
        refine own_go (S' := (T44.setTop (mkF m 6 #[.val (.ref p0), .val (.int gd), .val (.int 1), .val (.int 1)] [(.ref p0), (.int 1)]))) (fun _ kont => XS.goto X44.here hx rfl (pc0 := 37) (pc' := 4) rfl (hb hby d20_37) (by decide) (by decide) (XS.iloadN X44.here hx rfl (hb hby d20_4) rfl (XS.aloadN X44.here hx rfl (hb hby d20_5) rfl rfl kont))) ?_
        obtain ⟨T45, X45, e45, st45⟩ := getF X44 hx hZ hown (host := "") (Or.inl (oH hw 74 rfl)) Via.refl rfl c44_Fp0_foundCount (g := (mkF m 6 #[.val (.ref p0), .val (.int gd), .val (.int 1), .val (.int 1)] [(.ref p0), (.int 1)])) rfl rfl (hb hby d20_6)
        refine own_go (S' := (T45.setTop (mkF m 9 #[.val (.ref p0), .val (.int gd), .val (.int 1), .val (.int 1)] [(.int 2), (.int 1)]))) st45 ?_
        refine own_go (S' := (T45.setTop (mkF m 13 #[.val (.ref p0), .val (.int gd), .val (.int 1), .val (.int 1)] [(.ref p0)]))) (fun _ kont => XS.icmpNo X45.here hx rfl (hb hby d20_9) rfl (tlt (by decide)).2.1 (XS.aloadN X45.here hx rfl (hb hby d20_12) rfl rfl kont)) ?_
        obtain ⟨T46, X46, e46, st46⟩ := getF X45 hx hZ hown (host := "") (Or.inl (oH hw 63 rfl)) Via.refl e45 c44_Fp0_found (g := (mkF m 13 #[.val (.ref p0), .val (.int gd), .val (.int 1), .val (.int 1)] [(.ref p0)])) rfl rfl (hb hby d20_13)
        refine own_go (S' := (T46.setTop (mkF m 16 #[.val (.ref p0), .val (.int gd), .val (.int 1), .val (.int 1)] [(.ref fa)]))) st46 ?_
        refine own_go (S' := (T46.setTop (mkF m 17 #[.val (.ref p0), .val (.int gd), .val (.int 1), .val (.int 1)] [(.int 1), (.ref fa)]))) (fun _ kont => XS.iloadN X46.here hx rfl (hb hby d20_16) rfl kont) ?_
        obtain ⟨cl47, Ar47, -, S47, -, H47, -⟩ := id Vf44
        have hin47 := inb_of (j := (1 : Int32)) S47 ⟨by decide, by decide⟩
        have hat47 := Has.at (v := (.ref y0)) H47 hin47 (by first | rfl | decide)
        refine own_go (S' := (T46.setTop (mkF m 18 #[.val (.ref p0), .val (.int gd), .val (.int 1), .val (.int 1)] [(.ref y0)]))) (fun _ kont => X46.aaload hx (j := (1 : Int32)) (v := (.ref y0)) (by rw [e46]; exact Ar47.1) (State.isArrayOf_alike hZ.alike Ar47.2.1) rfl Ar47.2.2 hin47 hat47 (g := (mkF m 17 #[.val (.ref p0), .val (.int gd), .val (.int 1), .val (.int 1)] [(.int 1), (.ref fa)])) rfl rfl (hb hby d20_17) _ kont) ?_
        refine own_go (S' := (T46.setTop (mkF m 19 #[.val (.ref p0), .val (.int gd), .val (.int 1), .val (.int 1)] [(.int gd), (.ref y0)]))) (fun _ kont => XS.iloadN X46.here hx rfl (hb hby d20_18) rfl kont) ?_
        obtain ⟨lx48, Ex48, Fn48, Fd48, Fi48, pp48, lp48, Fp48, Ep48, Fc48⟩ := id c44_Uy0
        obtain ⟨cq49, kq49, q49a, q49b, q49c⟩ := isOf hZ e46 Ex48
        obtain ⟨v49, _, ⟨T49, L49, k49, n49⟩, -, X49, ⟨Lc49, hQ49, l49, y49, z49⟩, st49⟩ := X46.virtualBack hx (y := (⟨"com/example/otaniemi/otaniemi/State", "isEndAbove", "(I)Z"⟩ : MethodName)) (z := (⟨"com/example/otaniemi/otaniemi/State", "isEndAbove", "(I)Z"⟩ : MethodName)) hown (mvT hZ (oH hw 140 rfl)) (mvT hZ (oH hw 141 rfl)) (notFace_of_selects (args := #[]) (mvT hZ (oH hw 143 rfl))) (mvT hZ (oH hw 143 rfl)) (mvT hZ (oH hw 142 rfl)) (by decide) (backOf (W := 0) (rmEa l Z a0 hw [] y0 gd _ _ (1 : Int32) T44.heap n0 Z44 c44_Uy0 (by decide)) hZ (oH hw 144 rfl) (oH hw 2 rfl) (by decide) (by decide)) q49a q49c (g := (mkF m 19 #[.val (.ref p0), .val (.int gd), .val (.int 1), .val (.int 1)] [(.int gd), (.ref y0)])) rfl (by rw [hml]; rfl) (Steps.refl _) (argsL := [(.int gd)]) (rest := []) (lenOf pd_366 rfl) rfl (by show 2 * 0 + _ ≤ _; exact Nat.le_of_eq rfl) (hb hby d20_19) (fun _ _ => ⟨rfl, e46, (by decide : 0 + 0 ≤ _), (by decide : 0 + 0 ≤ _)⟩)
        dsimp only [Pt.U, Pt.locs, Pt.cells, Pt.slots] at X49 l49 y49 z49 st49 hQ49
        subst l49 y49 z49
        obtain ⟨rfl, eh49, rfl⟩ := hQ49
        have N49 := Fr.app N44 (Fr.nil n0)
        refine own_goT (S' := (T49.setTop (mkF m 22 #[.val (.ref p0), .val (.int gd), .val (.int 1), .val (.int 1)] [(.int 1)]))) st49 ?_
        refine own_go (S' := (T49.setTop (mkF m 28 #[.val (.ref p0), .val (.int gd), .val (.int 1), .val (.int 1)] [(.int 1), (.int 1), (.ref p0)]))) (fun _ kont => XS.ifNo X49.here hx rfl (hb hby d20_22) rfl ((if0 _ _).trans (feq (by decide)).1) (XS.aloadN X49.here hx rfl (hb hby d20_25) rfl rfl (XS.iloadN X49.here hx rfl (hb hby d20_26) rfl (XS.iloadN X49.here hx rfl (hb hby d20_27) rfl kont)))) ?_
        obtain ⟨cq50, qp50, qp50'⟩ := c44_Ep0.cell
        obtain ⟨v50, _, ⟨T50, L50, k50, n50⟩, -, X50, ⟨Lc50, hQ50, l50, y50, z50⟩, st50⟩ := X49.privateBack hx (y := (⟨"com/example/otaniemi/otaniemi/Pending", "move", "(II)V"⟩ : MethodName)) hown (mvT hZ (oH hw 150 rfl)) (mvT hZ (oH hw 151 rfl)) (own_selP (args := #[]) (mvT hZ (oH hw 55 rfl)) (mvP hZ (oH hw 152 rfl)) (mvT hZ (oH hw 151 rfl)) (by decide)) (Cond.privateMethod_at (mvP hZ (oH hw 152 rfl) (args := #[]))) (mvT hZ (oH hw 153 rfl)) (by decide) (backOf (W := 0) (rmMv11N l Z a0 hw [] p0 fa kf (2 : Int32) (.ref x0) y0 T44.heap n0 Z44 c44_Ep0 c44_Fp0_found c44_Fp0_foundCount c44_Fp0_passed c44_Fp0_values g_p0 g_fa Vf44 O_fa c44_Uy0.2.1) hZ (oH hw 153 rfl) (oH hw 56 rfl) (by decide) (by decide)) (g := (mkF m 28 #[.val (.ref p0), .val (.int gd), .val (.int 1), .val (.int 1)] [(.int 1), (.int 1), (.ref p0)])) rfl (by rw [hml]; rfl) (Steps.refl _) (a := p0) (by rw [eh49]; exact qp50) qp50' (argsL := [(.int 1), (.int 1)]) (rest := []) (lenOf pd_318 rfl) rfl (by show 2 * 0 + _ ≤ _; exact Nat.le_of_eq rfl) (hb hby d20_28) (fun _ _ => ⟨rfl, eh49, (by decide : 0 + 0 ≤ _), (by decide : 0 + 0 ≤ _)⟩)
        dsimp only [Pt.U, Pt.locs, Pt.cells, Pt.slots] at X50 l50 y50 z50 st50 hQ50
        subst l50 y50 z50
        obtain ⟨rfl, Nq50, Kc50, Vf50⟩ := hQ50
        have Kt50 := Kt44.trans Kc50 (fun x hx => by simp only [List.mem_cons, List.mem_singleton, List.not_mem_nil, or_false] at hx; rcases hx with rfl <;> first | (left; simp; done) | (right; assumption))
        have N50 := Fr.app N49 Nq50
        have Z50 : n0 ≤ T50.heap.size := Nat.le_trans Z44 Kc50.1
        have c50_Ep0 := c44_Ep0.keep Kc50
        have c50_Fp0_found := c44_Fp0_found.keep Kc50 (ninS npf nin0)
        have c50_Fp0_foundCount := c44_Fp0_foundCount.keep Kc50 (ninS npf nin0)
        have c50_Fp0_passed := c44_Fp0_passed.keep Kc50 (ninS npf nin0)
        have c50_Fp0_values := c44_Fp0_values.keep Kc50 (ninS npf nin0)
        have c50_Ux0 := c44_Ux0.kp (own_Kp.keep Kc50 (own_gS g_fa own_g0))
        have c50_Uy0 := c44_Uy0.kp (own_Kp.keep Kc50 (own_gS g_fa own_g0))
        refine own_goT (S' := (T50.setTop (mkF m 31 #[.val (.ref p0), .val (.int gd), .val (.int 1), .val (.int 1)] []))) st50 ?_
        refine own_go (S' := (T50.setTop (mkF m 34 #[.val (.ref p0), .val (.int gd), .val (.int ((1 : Int32) + (1 : Int32))), .val (.int 1)] []))) (fun _ kont => XS.iinc X50.here hx rfl (hb hby d20_31) rfl (l' := #[.val (.ref p0), .val (.int gd), .val (.int ((1 : Int32) + (1 : Int32))), .val (.int 1)]) rfl kont) ?_
        rw [show ((1 : Int32) + (1 : Int32)) = (2 : Int32) from by decide]
        refine own_go (S' := (T50.setTop (mkF m 37 #[.val (.ref p0), .val (.int gd), .val (.int 2), .val (.int ((1 : Int32) + (1 : Int32)))] []))) (fun _ kont => XS.iinc X50.here hx rfl (hb hby d20_34) rfl (l' := #[.val (.ref p0), .val (.int gd), .val (.int 2), .val (.int ((1 : Int32) + (1 : Int32)))]) rfl kont) ?_
        rw [show ((1 : Int32) + (1 : Int32)) = (2 : Int32) from by decide]
        refine own_go (S' := (T50.setTop (mkF m 6 #[.val (.ref p0), .val (.int gd), .val (.int 2), .val (.int 2)] [(.ref p0), (.int 2)]))) (fun _ kont => XS.goto X50.here hx rfl (pc0 := 37) (pc' := 4) rfl (hb hby d20_37) (by decide) (by decide) (XS.iloadN X50.here hx rfl (hb hby d20_4) rfl (XS.aloadN X50.here hx rfl (hb hby d20_5) rfl rfl kont))) ?_
        obtain ⟨T51, X51, e51, st51⟩ := getF X50 hx hZ hown (host := "") (Or.inl (oH hw 74 rfl)) Via.refl rfl c50_Fp0_foundCount (g := (mkF m 6 #[.val (.ref p0), .val (.int gd), .val (.int 2), .val (.int 2)] [(.ref p0), (.int 2)])) rfl rfl (hb hby d20_6)
        refine own_go (S' := (T51.setTop (mkF m 9 #[.val (.ref p0), .val (.int gd), .val (.int 2), .val (.int 2)] [(.int 2), (.int 2)]))) st51 ?_
        refine own_go (S' := (T51.setTop (mkF m 42 #[.val (.ref p0), .val (.int gd), .val (.int 2), .val (.int 2)] [(.int 2), (.ref p0)]))) (fun _ kont => XS.icmpYes X51.here hx rfl (pc0 := 9) (pc' := 40) rfl (hb hby d20_9) rfl (flt (by decide)).2.1 (by decide) (by decide) (XS.aloadN X51.here hx rfl (hb hby d20_40) rfl rfl (XS.iloadN X51.here hx rfl (hb hby d20_41) rfl kont))) ?_
        obtain ⟨T52, h52, X52, e52, W52, st52⟩ := putF X51 hx hZ hown (host := "") (Or.inl (oH hw 74 rfl)) Via.refl e51 c50_Fp0_foundCount c50_Ep0 (Or.inl (oH hw 75 rfl)) (oH hw 55 rfl) (ty := .int) (by decide) rfl rfl (g := (mkF m 42 #[.val (.ref p0), .val (.int gd), .val (.int 2), .val (.int 2)] [(.int 2), (.ref p0)])) rfl rfl (hb hby d20_42)
        have c52_Ep0 := c50_Ep0.wr W52
        have c52_Fp0_found := c50_Fp0_found.other W52 (Or.inr (slot_ne (Or.inl (oH hw 64 rfl)) (Or.inl (oH hw 75 rfl)) (by decide) (by decide : parseFieldDescriptor "[Lcom/example/otaniemi/otaniemi/State;" = some (.array (.object "com/example/otaniemi/otaniemi/State"))) (by decide : parseFieldDescriptor "I" = some .int)))
        have c52_Fp0_foundCount := c50_Fp0_foundCount.same W52
        have c52_Fp0_passed := c50_Fp0_passed.other W52 (Or.inr (slot_ne (Or.inl (oH hw 125 rfl)) (Or.inl (oH hw 75 rfl)) (by decide) (by decide : parseFieldDescriptor "Lcom/example/otaniemi/otaniemi/Pending$Passed;" = some (.object "com/example/otaniemi/otaniemi/Pending$Passed")) (by decide : parseFieldDescriptor "I" = some .int)))
        have c52_Fp0_values := c50_Fp0_values.other W52 (Or.inr (slot_ne (Or.inl (oH hw 123 rfl)) (Or.inl (oH hw 75 rfl)) (by decide) (by decide : parseFieldDescriptor "[J" = some (.array .long)) (by decide : parseFieldDescriptor "I" = some .int)))
        have c52_Ux0 := c50_Ux0.kp (own_Kp.wr W52 g_p0)
        have c52_Uy0 := c50_Uy0.kp (own_Kp.wr W52 g_p0)
        have c52_Vfa := Vf50.other W52 (Ne.symm npf)
        have K52 := Kt50.wr W52 (Or.inl (List.mem_of_getElem? (i := 0) rfl))
        have N52 := Fr.snoc X52 N50 g_p0
        have Z52 : n0 ≤ h52.size := Nat.le_trans Z50 (Nat.le_of_eq W52.size.symm)
        refine own_go (S' := (T52.setTop (mkF m 45 #[.val (.ref p0), .val (.int gd), .val (.int 2), .val (.int 2)] []))) st52 ?_
        refine own_ret0 X52 hx hlk Bd.returns (hb hby d20_45) (by decide) (by decide) ?_
        rw [e52]
        exact ⟨rfl, N52, own_Kp.keep K52 (own_gS g_p0 (own_gS g_fa own_g0)), Or.inl ⟨_, c52_Ep0, c52_Fp0_foundCount, by decide, own_r2_11 _ _ _ _⟩⟩
  · obtain ⟨g_p0, g_fa, E_p0, F_p0_found, F_p0_foundCount, F_p0_passed, V_fa, O_fa⟩ := HC
    obtain ⟨g_va, nfv, F_p0_values, V_va⟩ := HV
    have npf := E_p0.neArv V_fa (oH hw 55 rfl)
    have npv := E_p0.neArv V_va (oH hw 55 rfl)
    have K0 := Keep.refl h0 [p0, fa, va]
    rcases hd_x0 with rfl | rfl
    · rcases hd_y0 with rfl | rfl
      · refine own_go (S' := (s₁.setTop (mkF m 6 #[.val (.ref p0), .val (.int gd), .val (.int 0), .val (.int 0)] [(.ref p0), (.int 0)]))) (fun _ kont => XS.iconst X0.here hx rfl (hb hby d20_0) (XS.istoreN X0.here hx rfl (hb hby d20_1) rfl (l' := #[.val (.ref p0), .val (.int gd), .val (.int 0), .unset]) rfl (XS.iconst X0.here hx rfl (hb hby d20_2) (XS.istoreN X0.here hx rfl (hb hby d20_3) rfl (l' := #[.val (.ref p0), .val (.int gd), .val (.int 0), .val (.int 0)]) rfl (XS.iloadN X0.here hx rfl (hb hby d20_4) rfl (XS.aloadN X0.here hx rfl (hb hby d20_5) rfl rfl kont)))))) ?_
        obtain ⟨T53, X53, e53, st53⟩ := getF X0 hx hZ hown (host := "") (Or.inl (oH hw 74 rfl)) Via.refl e0 F_p0_foundCount (g := (mkF m 6 #[.val (.ref p0), .val (.int gd), .val (.int 0), .val (.int 0)] [(.ref p0), (.int 0)])) rfl rfl (hb hby d20_6)
        refine own_go (S' := (T53.setTop (mkF m 9 #[.val (.ref p0), .val (.int gd), .val (.int 0), .val (.int 0)] [(.int 2), (.int 0)]))) st53 ?_
        refine own_go (S' := (T53.setTop (mkF m 13 #[.val (.ref p0), .val (.int gd), .val (.int 0), .val (.int 0)] [(.ref p0)]))) (fun _ kont => XS.icmpNo X53.here hx rfl (hb hby d20_9) rfl (tlt (by decide)).2.1 (XS.aloadN X53.here hx rfl (hb hby d20_12) rfl rfl kont)) ?_
        obtain ⟨T54, X54, e54, st54⟩ := getF X53 hx hZ hown (host := "") (Or.inl (oH hw 63 rfl)) Via.refl e53 F_p0_found (g := (mkF m 13 #[.val (.ref p0), .val (.int gd), .val (.int 0), .val (.int 0)] [(.ref p0)])) rfl rfl (hb hby d20_13)
        refine own_go (S' := (T54.setTop (mkF m 16 #[.val (.ref p0), .val (.int gd), .val (.int 0), .val (.int 0)] [(.ref fa)]))) st54 ?_
        refine own_go (S' := (T54.setTop (mkF m 17 #[.val (.ref p0), .val (.int gd), .val (.int 0), .val (.int 0)] [(.int 0), (.ref fa)]))) (fun _ kont => XS.iloadN X54.here hx rfl (hb hby d20_16) rfl kont) ?_
        obtain ⟨cl55, Ar55, -, S55, -, H55, -⟩ := id V_fa
        have hin55 := inb_of (j := (0 : Int32)) S55 ⟨by decide, by decide⟩
        have hat55 := Has.at (v := (.ref x0)) H55 hin55 (by first | rfl | decide)
        refine own_go (S' := (T54.setTop (mkF m 18 #[.val (.ref p0), .val (.int gd), .val (.int 0), .val (.int 0)] [(.ref x0)]))) (fun _ kont => X54.aaload hx (j := (0 : Int32)) (v := (.ref x0)) (by rw [e54]; exact Ar55.1) (State.isArrayOf_alike hZ.alike Ar55.2.1) rfl Ar55.2.2 hin55 hat55 (g := (mkF m 17 #[.val (.ref p0), .val (.int gd), .val (.int 0), .val (.int 0)] [(.int 0), (.ref fa)])) rfl rfl (hb hby d20_17) _ kont) ?_
        refine own_go (S' := (T54.setTop (mkF m 19 #[.val (.ref p0), .val (.int gd), .val (.int 0), .val (.int 0)] [(.int gd), (.ref x0)]))) (fun _ kont => XS.iloadN X54.here hx rfl (hb hby d20_18) rfl kont) ?_
        obtain ⟨lx56, Ex56, Fn56, Fd56, Fi56, pp56, lp56, Fp56, Ep56, Fc56⟩ := id U_x0
        obtain ⟨cq57, kq57, q57a, q57b, q57c⟩ := isOf hZ e54 Ex56
        obtain ⟨v57, _, ⟨T57, L57, k57, n57⟩, -, X57, ⟨Lc57, hQ57, l57, y57, z57⟩, st57⟩ := X54.virtualBack hx (y := (⟨"com/example/otaniemi/otaniemi/State", "isEndAbove", "(I)Z"⟩ : MethodName)) (z := (⟨"com/example/otaniemi/otaniemi/State", "isEndAbove", "(I)Z"⟩ : MethodName)) hown (mvT hZ (oH hw 140 rfl)) (mvT hZ (oH hw 141 rfl)) (notFace_of_selects (args := #[]) (mvT hZ (oH hw 143 rfl))) (mvT hZ (oH hw 143 rfl)) (mvT hZ (oH hw 142 rfl)) (by decide) (backOf (W := 0) (rmEa l Z a0 hw [] x0 gd _ _ (0 : Int32) h0 n0 Z0 U_x0 (by decide)) hZ (oH hw 144 rfl) (oH hw 2 rfl) (by decide) (by decide)) q57a q57c (g := (mkF m 19 #[.val (.ref p0), .val (.int gd), .val (.int 0), .val (.int 0)] [(.int gd), (.ref x0)])) rfl (by rw [hml]; rfl) (Steps.refl _) (argsL := [(.int gd)]) (rest := []) (lenOf pd_366 rfl) rfl (by show 2 * 0 + _ ≤ _; exact Nat.le_of_eq rfl) (hb hby d20_19) (fun _ _ => ⟨rfl, e54, (by decide : 0 + 0 ≤ _), (by decide : 0 + 0 ≤ _)⟩)
        dsimp only [Pt.U, Pt.locs, Pt.cells, Pt.slots] at X57 l57 y57 z57 st57 hQ57
        subst l57 y57 z57
        obtain ⟨rfl, eh57, rfl⟩ := hQ57
        have N57 := Fr.app N0 (Fr.nil n0)
        refine own_goT (S' := (T57.setTop (mkF m 22 #[.val (.ref p0), .val (.int gd), .val (.int 0), .val (.int 0)] [(.int 0)]))) st57 ?_
        refine own_go (S' := (T57.setTop (mkF m 37 #[.val (.ref p0), .val (.int gd), .val (.int 0), .val (.int ((0 : Int32) + (1 : Int32)))] []))) (fun _ kont => XS.ifYes X57.here hx rfl (pc0 := 22) (pc' := 34) rfl (hb hby d20_22) rfl ((if0 _ _).trans (teq (by decide)).1) (by decide) (by decide) (XS.iinc X57.here hx rfl (hb hby d20_34) rfl (l' := #[.val (.ref p0), .val (.int gd), .val (.int 0), .val (.int ((0 : Int32) + (1 : Int32)))]) rfl kont)) ?_
        rw [show ((0 : Int32) + (1 : Int32)) = (1 : Int32) from by decide]
        refine own_go (S' := (T57.setTop (mkF m 6 #[.val (.ref p0), .val (.int gd), .val (.int 0), .val (.int 1)] [(.ref p0), (.int 1)]))) (fun _ kont => XS.goto X57.here hx rfl (pc0 := 37) (pc' := 4) rfl (hb hby d20_37) (by decide) (by decide) (XS.iloadN X57.here hx rfl (hb hby d20_4) rfl (XS.aloadN X57.here hx rfl (hb hby d20_5) rfl rfl kont))) ?_
        obtain ⟨T58, X58, e58, st58⟩ := getF X57 hx hZ hown (host := "") (Or.inl (oH hw 74 rfl)) Via.refl eh57 F_p0_foundCount (g := (mkF m 6 #[.val (.ref p0), .val (.int gd), .val (.int 0), .val (.int 1)] [(.ref p0), (.int 1)])) rfl rfl (hb hby d20_6)
        refine own_go (S' := (T58.setTop (mkF m 9 #[.val (.ref p0), .val (.int gd), .val (.int 0), .val (.int 1)] [(.int 2), (.int 1)]))) st58 ?_
        refine own_go (S' := (T58.setTop (mkF m 13 #[.val (.ref p0), .val (.int gd), .val (.int 0), .val (.int 1)] [(.ref p0)]))) (fun _ kont => XS.icmpNo X58.here hx rfl (hb hby d20_9) rfl (tlt (by decide)).2.1 (XS.aloadN X58.here hx rfl (hb hby d20_12) rfl rfl kont)) ?_
        obtain ⟨T59, X59, e59, st59⟩ := getF X58 hx hZ hown (host := "") (Or.inl (oH hw 63 rfl)) Via.refl e58 F_p0_found (g := (mkF m 13 #[.val (.ref p0), .val (.int gd), .val (.int 0), .val (.int 1)] [(.ref p0)])) rfl rfl (hb hby d20_13)
        refine own_go (S' := (T59.setTop (mkF m 16 #[.val (.ref p0), .val (.int gd), .val (.int 0), .val (.int 1)] [(.ref fa)]))) st59 ?_
        refine own_go (S' := (T59.setTop (mkF m 17 #[.val (.ref p0), .val (.int gd), .val (.int 0), .val (.int 1)] [(.int 1), (.ref fa)]))) (fun _ kont => XS.iloadN X59.here hx rfl (hb hby d20_16) rfl kont) ?_
        obtain ⟨cl60, Ar60, -, S60, -, H60, -⟩ := id V_fa
        have hin60 := inb_of (j := (1 : Int32)) S60 ⟨by decide, by decide⟩
        have hat60 := Has.at (v := (.ref y0)) H60 hin60 (by first | rfl | decide)
        refine own_go (S' := (T59.setTop (mkF m 18 #[.val (.ref p0), .val (.int gd), .val (.int 0), .val (.int 1)] [(.ref y0)]))) (fun _ kont => X59.aaload hx (j := (1 : Int32)) (v := (.ref y0)) (by rw [e59]; exact Ar60.1) (State.isArrayOf_alike hZ.alike Ar60.2.1) rfl Ar60.2.2 hin60 hat60 (g := (mkF m 17 #[.val (.ref p0), .val (.int gd), .val (.int 0), .val (.int 1)] [(.int 1), (.ref fa)])) rfl rfl (hb hby d20_17) _ kont) ?_
        refine own_go (S' := (T59.setTop (mkF m 19 #[.val (.ref p0), .val (.int gd), .val (.int 0), .val (.int 1)] [(.int gd), (.ref y0)]))) (fun _ kont => XS.iloadN X59.here hx rfl (hb hby d20_18) rfl kont) ?_
        obtain ⟨lx61, Ex61, Fn61, Fd61, Fi61, pp61, lp61, Fp61, Ep61, Fc61⟩ := id U_y0
        obtain ⟨cq62, kq62, q62a, q62b, q62c⟩ := isOf hZ e59 Ex61
        obtain ⟨v62, _, ⟨T62, L62, k62, n62⟩, -, X62, ⟨Lc62, hQ62, l62, y62, z62⟩, st62⟩ := X59.virtualBack hx (y := (⟨"com/example/otaniemi/otaniemi/State", "isEndAbove", "(I)Z"⟩ : MethodName)) (z := (⟨"com/example/otaniemi/otaniemi/State", "isEndAbove", "(I)Z"⟩ : MethodName)) hown (mvT hZ (oH hw 140 rfl)) (mvT hZ (oH hw 141 rfl)) (notFace_of_selects (args := #[]) (mvT hZ (oH hw 143 rfl))) (mvT hZ (oH hw 143 rfl)) (mvT hZ (oH hw 142 rfl)) (by decide) (backOf (W := 0) (rmEa l Z a0 hw [] y0 gd _ _ (0 : Int32) h0 n0 Z0 U_y0 (by decide)) hZ (oH hw 144 rfl) (oH hw 2 rfl) (by decide) (by decide)) q62a q62c (g := (mkF m 19 #[.val (.ref p0), .val (.int gd), .val (.int 0), .val (.int 1)] [(.int gd), (.ref y0)])) rfl (by rw [hml]; rfl) (Steps.refl _) (argsL := [(.int gd)]) (rest := []) (lenOf pd_366 rfl) rfl (by show 2 * 0 + _ ≤ _; exact Nat.le_of_eq rfl) (hb hby d20_19) (fun _ _ => ⟨rfl, e59, (by decide : 0 + 0 ≤ _), (by decide : 0 + 0 ≤ _)⟩)
        dsimp only [Pt.U, Pt.locs, Pt.cells, Pt.slots] at X62 l62 y62 z62 st62 hQ62
        subst l62 y62 z62
        obtain ⟨rfl, eh62, rfl⟩ := hQ62
        have N62 := Fr.app N57 (Fr.nil n0)
        refine own_goT (S' := (T62.setTop (mkF m 22 #[.val (.ref p0), .val (.int gd), .val (.int 0), .val (.int 1)] [(.int 0)]))) st62 ?_
        refine own_go (S' := (T62.setTop (mkF m 37 #[.val (.ref p0), .val (.int gd), .val (.int 0), .val (.int ((1 : Int32) + (1 : Int32)))] []))) (fun _ kont => XS.ifYes X62.here hx rfl (pc0 := 22) (pc' := 34) rfl (hb hby d20_22) rfl ((if0 _ _).trans (teq (by decide)).1) (by decide) (by decide) (XS.iinc X62.here hx rfl (hb hby d20_34) rfl (l' := #[.val (.ref p0), .val (.int gd), .val (.int 0), .val (.int ((1 : Int32) + (1 : Int32)))]) rfl kont)) ?_
        rw [show ((1 : Int32) + (1 : Int32)) = (2 : Int32) from by decide]
        refine own_go (S' := (T62.setTop (mkF m 6 #[.val (.ref p0), .val (.int gd), .val (.int 0), .val (.int 2)] [(.ref p0), (.int 2)]))) (fun _ kont => XS.goto X62.here hx rfl (pc0 := 37) (pc' := 4) rfl (hb hby d20_37) (by decide) (by decide) (XS.iloadN X62.here hx rfl (hb hby d20_4) rfl (XS.aloadN X62.here hx rfl (hb hby d20_5) rfl rfl kont))) ?_
        obtain ⟨T63, X63, e63, st63⟩ := getF X62 hx hZ hown (host := "") (Or.inl (oH hw 74 rfl)) Via.refl eh62 F_p0_foundCount (g := (mkF m 6 #[.val (.ref p0), .val (.int gd), .val (.int 0), .val (.int 2)] [(.ref p0), (.int 2)])) rfl rfl (hb hby d20_6)
        refine own_go (S' := (T63.setTop (mkF m 9 #[.val (.ref p0), .val (.int gd), .val (.int 0), .val (.int 2)] [(.int 2), (.int 2)]))) st63 ?_
        refine own_go (S' := (T63.setTop (mkF m 42 #[.val (.ref p0), .val (.int gd), .val (.int 0), .val (.int 2)] [(.int 0), (.ref p0)]))) (fun _ kont => XS.icmpYes X63.here hx rfl (pc0 := 9) (pc' := 40) rfl (hb hby d20_9) rfl (flt (by decide)).2.1 (by decide) (by decide) (XS.aloadN X63.here hx rfl (hb hby d20_40) rfl rfl (XS.iloadN X63.here hx rfl (hb hby d20_41) rfl kont))) ?_
        obtain ⟨T64, h64, X64, e64, W64, st64⟩ := putF X63 hx hZ hown (host := "") (Or.inl (oH hw 74 rfl)) Via.refl e63 F_p0_foundCount E_p0 (Or.inl (oH hw 75 rfl)) (oH hw 55 rfl) (ty := .int) (by decide) rfl rfl (g := (mkF m 42 #[.val (.ref p0), .val (.int gd), .val (.int 0), .val (.int 2)] [(.int 0), (.ref p0)])) rfl rfl (hb hby d20_42)
        have c64_Ep0 := E_p0.wr W64
        have c64_Fp0_found := F_p0_found.other W64 (Or.inr (slot_ne (Or.inl (oH hw 64 rfl)) (Or.inl (oH hw 75 rfl)) (by decide) (by decide : parseFieldDescriptor "[Lcom/example/otaniemi/otaniemi/State;" = some (.array (.object "com/example/otaniemi/otaniemi/State"))) (by decide : parseFieldDescriptor "I" = some .int)))
        have c64_Fp0_foundCount := F_p0_foundCount.same W64
        have c64_Fp0_passed := F_p0_passed.other W64 (Or.inr (slot_ne (Or.inl (oH hw 125 rfl)) (Or.inl (oH hw 75 rfl)) (by decide) (by decide : parseFieldDescriptor "Lcom/example/otaniemi/otaniemi/Pending$Passed;" = some (.object "com/example/otaniemi/otaniemi/Pending$Passed")) (by decide : parseFieldDescriptor "I" = some .int)))
        have c64_Fp0_values := F_p0_values.other W64 (Or.inr (slot_ne (Or.inl (oH hw 123 rfl)) (Or.inl (oH hw 75 rfl)) (by decide) (by decide : parseFieldDescriptor "[J" = some (.array .long)) (by decide : parseFieldDescriptor "I" = some .int)))
        have c64_Vfa := V_fa.other W64 (Ne.symm npf)
        have c64_Vva := V_va.other W64 (Ne.symm npv)
        have c64_Ux0 := U_x0.kp (own_Kp.wr W64 g_p0)
        have c64_Uy0 := U_y0.kp (own_Kp.wr W64 g_p0)
        have K64 := K0.wr W64 (Or.inl (List.mem_of_getElem? (i := 0) rfl))
        have N64 := Fr.snoc X64 N62 g_p0
        have Z64 : n0 ≤ h64.size := Nat.le_trans Z0 (Nat.le_of_eq W64.size.symm)
        refine own_go (S' := (T64.setTop (mkF m 45 #[.val (.ref p0), .val (.int gd), .val (.int 0), .val (.int 2)] []))) st64 ?_
        refine own_ret0 X64 hx hlk Bd.returns (hb hby d20_45) (by decide) (by decide) ?_
        rw [e64]
        exact ⟨rfl, N64, own_Kp.keep K64 (own_gS g_p0 (own_gS g_fa (own_gS g_va own_g0))), Or.inl ⟨_, c64_Ep0, c64_Fp0_foundCount, by decide, own_r2_00 _ _ _ _⟩⟩
      · refine own_go (S' := (s₁.setTop (mkF m 6 #[.val (.ref p0), .val (.int gd), .val (.int 0), .val (.int 0)] [(.ref p0), (.int 0)]))) (fun _ kont => XS.iconst X0.here hx rfl (hb hby d20_0) (XS.istoreN X0.here hx rfl (hb hby d20_1) rfl (l' := #[.val (.ref p0), .val (.int gd), .val (.int 0), .unset]) rfl (XS.iconst X0.here hx rfl (hb hby d20_2) (XS.istoreN X0.here hx rfl (hb hby d20_3) rfl (l' := #[.val (.ref p0), .val (.int gd), .val (.int 0), .val (.int 0)]) rfl (XS.iloadN X0.here hx rfl (hb hby d20_4) rfl (XS.aloadN X0.here hx rfl (hb hby d20_5) rfl rfl kont)))))) ?_
        obtain ⟨T65, X65, e65, st65⟩ := getF X0 hx hZ hown (host := "") (Or.inl (oH hw 74 rfl)) Via.refl e0 F_p0_foundCount (g := (mkF m 6 #[.val (.ref p0), .val (.int gd), .val (.int 0), .val (.int 0)] [(.ref p0), (.int 0)])) rfl rfl (hb hby d20_6)
        refine own_go (S' := (T65.setTop (mkF m 9 #[.val (.ref p0), .val (.int gd), .val (.int 0), .val (.int 0)] [(.int 2), (.int 0)]))) st65 ?_
        refine own_go (S' := (T65.setTop (mkF m 13 #[.val (.ref p0), .val (.int gd), .val (.int 0), .val (.int 0)] [(.ref p0)]))) (fun _ kont => XS.icmpNo X65.here hx rfl (hb hby d20_9) rfl (tlt (by decide)).2.1 (XS.aloadN X65.here hx rfl (hb hby d20_12) rfl rfl kont)) ?_
        obtain ⟨T66, X66, e66, st66⟩ := getF X65 hx hZ hown (host := "") (Or.inl (oH hw 63 rfl)) Via.refl e65 F_p0_found (g := (mkF m 13 #[.val (.ref p0), .val (.int gd), .val (.int 0), .val (.int 0)] [(.ref p0)])) rfl rfl (hb hby d20_13)
        refine own_go (S' := (T66.setTop (mkF m 16 #[.val (.ref p0), .val (.int gd), .val (.int 0), .val (.int 0)] [(.ref fa)]))) st66 ?_
        refine own_go (S' := (T66.setTop (mkF m 17 #[.val (.ref p0), .val (.int gd), .val (.int 0), .val (.int 0)] [(.int 0), (.ref fa)]))) (fun _ kont => XS.iloadN X66.here hx rfl (hb hby d20_16) rfl kont) ?_
        obtain ⟨cl67, Ar67, -, S67, -, H67, -⟩ := id V_fa
        have hin67 := inb_of (j := (0 : Int32)) S67 ⟨by decide, by decide⟩
        have hat67 := Has.at (v := (.ref x0)) H67 hin67 (by first | rfl | decide)
        refine own_go (S' := (T66.setTop (mkF m 18 #[.val (.ref p0), .val (.int gd), .val (.int 0), .val (.int 0)] [(.ref x0)]))) (fun _ kont => X66.aaload hx (j := (0 : Int32)) (v := (.ref x0)) (by rw [e66]; exact Ar67.1) (State.isArrayOf_alike hZ.alike Ar67.2.1) rfl Ar67.2.2 hin67 hat67 (g := (mkF m 17 #[.val (.ref p0), .val (.int gd), .val (.int 0), .val (.int 0)] [(.int 0), (.ref fa)])) rfl rfl (hb hby d20_17) _ kont) ?_
        refine own_go (S' := (T66.setTop (mkF m 19 #[.val (.ref p0), .val (.int gd), .val (.int 0), .val (.int 0)] [(.int gd), (.ref x0)]))) (fun _ kont => XS.iloadN X66.here hx rfl (hb hby d20_18) rfl kont) ?_
        obtain ⟨lx68, Ex68, Fn68, Fd68, Fi68, pp68, lp68, Fp68, Ep68, Fc68⟩ := id U_x0
        obtain ⟨cq69, kq69, q69a, q69b, q69c⟩ := isOf hZ e66 Ex68
        obtain ⟨v69, _, ⟨T69, L69, k69, n69⟩, -, X69, ⟨Lc69, hQ69, l69, y69, z69⟩, st69⟩ := X66.virtualBack hx (y := (⟨"com/example/otaniemi/otaniemi/State", "isEndAbove", "(I)Z"⟩ : MethodName)) (z := (⟨"com/example/otaniemi/otaniemi/State", "isEndAbove", "(I)Z"⟩ : MethodName)) hown (mvT hZ (oH hw 140 rfl)) (mvT hZ (oH hw 141 rfl)) (notFace_of_selects (args := #[]) (mvT hZ (oH hw 143 rfl))) (mvT hZ (oH hw 143 rfl)) (mvT hZ (oH hw 142 rfl)) (by decide) (backOf (W := 0) (rmEa l Z a0 hw [] x0 gd _ _ (0 : Int32) h0 n0 Z0 U_x0 (by decide)) hZ (oH hw 144 rfl) (oH hw 2 rfl) (by decide) (by decide)) q69a q69c (g := (mkF m 19 #[.val (.ref p0), .val (.int gd), .val (.int 0), .val (.int 0)] [(.int gd), (.ref x0)])) rfl (by rw [hml]; rfl) (Steps.refl _) (argsL := [(.int gd)]) (rest := []) (lenOf pd_366 rfl) rfl (by show 2 * 0 + _ ≤ _; exact Nat.le_of_eq rfl) (hb hby d20_19) (fun _ _ => ⟨rfl, e66, (by decide : 0 + 0 ≤ _), (by decide : 0 + 0 ≤ _)⟩)
        dsimp only [Pt.U, Pt.locs, Pt.cells, Pt.slots] at X69 l69 y69 z69 st69 hQ69
        subst l69 y69 z69
        obtain ⟨rfl, eh69, rfl⟩ := hQ69
        have N69 := Fr.app N0 (Fr.nil n0)
        refine own_goT (S' := (T69.setTop (mkF m 22 #[.val (.ref p0), .val (.int gd), .val (.int 0), .val (.int 0)] [(.int 0)]))) st69 ?_
        refine own_go (S' := (T69.setTop (mkF m 37 #[.val (.ref p0), .val (.int gd), .val (.int 0), .val (.int ((0 : Int32) + (1 : Int32)))] []))) (fun _ kont => XS.ifYes X69.here hx rfl (pc0 := 22) (pc' := 34) rfl (hb hby d20_22) rfl ((if0 _ _).trans (teq (by decide)).1) (by decide) (by decide) (XS.iinc X69.here hx rfl (hb hby d20_34) rfl (l' := #[.val (.ref p0), .val (.int gd), .val (.int 0), .val (.int ((0 : Int32) + (1 : Int32)))]) rfl kont)) ?_
        rw [show ((0 : Int32) + (1 : Int32)) = (1 : Int32) from by decide]
        refine own_go (S' := (T69.setTop (mkF m 6 #[.val (.ref p0), .val (.int gd), .val (.int 0), .val (.int 1)] [(.ref p0), (.int 1)]))) (fun _ kont => XS.goto X69.here hx rfl (pc0 := 37) (pc' := 4) rfl (hb hby d20_37) (by decide) (by decide) (XS.iloadN X69.here hx rfl (hb hby d20_4) rfl (XS.aloadN X69.here hx rfl (hb hby d20_5) rfl rfl kont))) ?_
        obtain ⟨T70, X70, e70, st70⟩ := getF X69 hx hZ hown (host := "") (Or.inl (oH hw 74 rfl)) Via.refl eh69 F_p0_foundCount (g := (mkF m 6 #[.val (.ref p0), .val (.int gd), .val (.int 0), .val (.int 1)] [(.ref p0), (.int 1)])) rfl rfl (hb hby d20_6)
        refine own_go (S' := (T70.setTop (mkF m 9 #[.val (.ref p0), .val (.int gd), .val (.int 0), .val (.int 1)] [(.int 2), (.int 1)]))) st70 ?_
        refine own_go (S' := (T70.setTop (mkF m 13 #[.val (.ref p0), .val (.int gd), .val (.int 0), .val (.int 1)] [(.ref p0)]))) (fun _ kont => XS.icmpNo X70.here hx rfl (hb hby d20_9) rfl (tlt (by decide)).2.1 (XS.aloadN X70.here hx rfl (hb hby d20_12) rfl rfl kont)) ?_
        obtain ⟨T71, X71, e71, st71⟩ := getF X70 hx hZ hown (host := "") (Or.inl (oH hw 63 rfl)) Via.refl e70 F_p0_found (g := (mkF m 13 #[.val (.ref p0), .val (.int gd), .val (.int 0), .val (.int 1)] [(.ref p0)])) rfl rfl (hb hby d20_13)
        refine own_go (S' := (T71.setTop (mkF m 16 #[.val (.ref p0), .val (.int gd), .val (.int 0), .val (.int 1)] [(.ref fa)]))) st71 ?_
        refine own_go (S' := (T71.setTop (mkF m 17 #[.val (.ref p0), .val (.int gd), .val (.int 0), .val (.int 1)] [(.int 1), (.ref fa)]))) (fun _ kont => XS.iloadN X71.here hx rfl (hb hby d20_16) rfl kont) ?_
        obtain ⟨cl72, Ar72, -, S72, -, H72, -⟩ := id V_fa
        have hin72 := inb_of (j := (1 : Int32)) S72 ⟨by decide, by decide⟩
        have hat72 := Has.at (v := (.ref y0)) H72 hin72 (by first | rfl | decide)
        refine own_go (S' := (T71.setTop (mkF m 18 #[.val (.ref p0), .val (.int gd), .val (.int 0), .val (.int 1)] [(.ref y0)]))) (fun _ kont => X71.aaload hx (j := (1 : Int32)) (v := (.ref y0)) (by rw [e71]; exact Ar72.1) (State.isArrayOf_alike hZ.alike Ar72.2.1) rfl Ar72.2.2 hin72 hat72 (g := (mkF m 17 #[.val (.ref p0), .val (.int gd), .val (.int 0), .val (.int 1)] [(.int 1), (.ref fa)])) rfl rfl (hb hby d20_17) _ kont) ?_
        refine own_go (S' := (T71.setTop (mkF m 19 #[.val (.ref p0), .val (.int gd), .val (.int 0), .val (.int 1)] [(.int gd), (.ref y0)]))) (fun _ kont => XS.iloadN X71.here hx rfl (hb hby d20_18) rfl kont) ?_
        obtain ⟨lx73, Ex73, Fn73, Fd73, Fi73, pp73, lp73, Fp73, Ep73, Fc73⟩ := id U_y0
        obtain ⟨cq74, kq74, q74a, q74b, q74c⟩ := isOf hZ e71 Ex73
        obtain ⟨v74, _, ⟨T74, L74, k74, n74⟩, -, X74, ⟨Lc74, hQ74, l74, y74, z74⟩, st74⟩ := X71.virtualBack hx (y := (⟨"com/example/otaniemi/otaniemi/State", "isEndAbove", "(I)Z"⟩ : MethodName)) (z := (⟨"com/example/otaniemi/otaniemi/State", "isEndAbove", "(I)Z"⟩ : MethodName)) hown (mvT hZ (oH hw 140 rfl)) (mvT hZ (oH hw 141 rfl)) (notFace_of_selects (args := #[]) (mvT hZ (oH hw 143 rfl))) (mvT hZ (oH hw 143 rfl)) (mvT hZ (oH hw 142 rfl)) (by decide) (backOf (W := 0) (rmEa l Z a0 hw [] y0 gd _ _ (1 : Int32) h0 n0 Z0 U_y0 (by decide)) hZ (oH hw 144 rfl) (oH hw 2 rfl) (by decide) (by decide)) q74a q74c (g := (mkF m 19 #[.val (.ref p0), .val (.int gd), .val (.int 0), .val (.int 1)] [(.int gd), (.ref y0)])) rfl (by rw [hml]; rfl) (Steps.refl _) (argsL := [(.int gd)]) (rest := []) (lenOf pd_366 rfl) rfl (by show 2 * 0 + _ ≤ _; exact Nat.le_of_eq rfl) (hb hby d20_19) (fun _ _ => ⟨rfl, e71, (by decide : 0 + 0 ≤ _), (by decide : 0 + 0 ≤ _)⟩)
        dsimp only [Pt.U, Pt.locs, Pt.cells, Pt.slots] at X74 l74 y74 z74 st74 hQ74
        subst l74 y74 z74
        obtain ⟨rfl, eh74, rfl⟩ := hQ74
        have N74 := Fr.app N69 (Fr.nil n0)
        refine own_goT (S' := (T74.setTop (mkF m 22 #[.val (.ref p0), .val (.int gd), .val (.int 0), .val (.int 1)] [(.int 1)]))) st74 ?_
        refine own_go (S' := (T74.setTop (mkF m 28 #[.val (.ref p0), .val (.int gd), .val (.int 0), .val (.int 1)] [(.int 0), (.int 1), (.ref p0)]))) (fun _ kont => XS.ifNo X74.here hx rfl (hb hby d20_22) rfl ((if0 _ _).trans (feq (by decide)).1) (XS.aloadN X74.here hx rfl (hb hby d20_25) rfl rfl (XS.iloadN X74.here hx rfl (hb hby d20_26) rfl (XS.iloadN X74.here hx rfl (hb hby d20_27) rfl kont)))) ?_
        obtain ⟨cq75, qp75, qp75'⟩ := E_p0.cell
        obtain ⟨v75, _, ⟨T75, L75, k75, n75⟩, -, X75, ⟨Lc75, hQ75, l75, y75, z75⟩, st75⟩ := X74.privateBack hx (y := (⟨"com/example/otaniemi/otaniemi/Pending", "move", "(II)V"⟩ : MethodName)) hown (mvT hZ (oH hw 150 rfl)) (mvT hZ (oH hw 151 rfl)) (own_selP (args := #[]) (mvT hZ (oH hw 55 rfl)) (mvP hZ (oH hw 152 rfl)) (mvT hZ (oH hw 151 rfl)) (by decide)) (Cond.privateMethod_at (mvP hZ (oH hw 152 rfl) (args := #[]))) (mvT hZ (oH hw 153 rfl)) (by decide) (backOf (W := 0) (rmMv10A l Z a0 hw [] p0 fa kf (2 : Int32) (.ref x0) va kv v0 v1 y0 h0 n0 Z0 E_p0 F_p0_found F_p0_foundCount F_p0_passed F_p0_values g_p0 g_fa V_fa O_fa g_va nfv V_va U_y0.2.1) hZ (oH hw 153 rfl) (oH hw 56 rfl) (by decide) (by decide)) (g := (mkF m 28 #[.val (.ref p0), .val (.int gd), .val (.int 0), .val (.int 1)] [(.int 0), (.int 1), (.ref p0)])) rfl (by rw [hml]; rfl) (Steps.refl _) (a := p0) (by rw [eh74]; exact qp75) qp75' (argsL := [(.int 1), (.int 0)]) (rest := []) (lenOf pd_318 rfl) rfl (by show 2 * 0 + _ ≤ _; exact Nat.le_of_eq rfl) (hb hby d20_28) (fun _ _ => ⟨rfl, eh74, (by decide : 0 + 0 ≤ _), (by decide : 0 + 0 ≤ _)⟩)
        dsimp only [Pt.U, Pt.locs, Pt.cells, Pt.slots] at X75 l75 y75 z75 st75 hQ75
        subst l75 y75 z75
        obtain ⟨rfl, Nq75, Kc75, Vf75, Vv75⟩ := hQ75
        have Kt75 := K0.trans Kc75 (fun x hx => by simp only [List.mem_cons, List.mem_singleton, List.not_mem_nil, or_false] at hx; rcases hx with rfl | rfl <;> first | (left; simp; done) | (right; assumption))
        have N75 := Fr.app N74 Nq75
        have Z75 : n0 ≤ T75.heap.size := Nat.le_trans Z0 Kc75.1
        have c75_Ep0 := E_p0.keep Kc75
        have c75_Fp0_found := F_p0_found.keep Kc75 (ninS npf (ninS npv nin0))
        have c75_Fp0_foundCount := F_p0_foundCount.keep Kc75 (ninS npf (ninS npv nin0))
        have c75_Fp0_passed := F_p0_passed.keep Kc75 (ninS npf (ninS npv nin0))
        have c75_Fp0_values := F_p0_values.keep Kc75 (ninS npf (ninS npv nin0))
        have c75_Ux0 := U_x0.kp (own_Kp.keep Kc75 (own_gS g_fa (own_gS g_va own_g0)))
        have c75_Uy0 := U_y0.kp (own_Kp.keep Kc75 (own_gS g_fa (own_gS g_va own_g0)))
        refine own_goT (S' := (T75.setTop (mkF m 31 #[.val (.ref p0), .val (.int gd), .val (.int 0), .val (.int 1)] []))) st75 ?_
        refine own_go (S' := (T75.setTop (mkF m 34 #[.val (.ref p0), .val (.int gd), .val (.int ((0 : Int32) + (1 : Int32))), .val (.int 1)] []))) (fun _ kont => XS.iinc X75.here hx rfl (hb hby d20_31) rfl (l' := #[.val (.ref p0), .val (.int gd), .val (.int ((0 : Int32) + (1 : Int32))), .val (.int 1)]) rfl kont) ?_
        rw [show ((0 : Int32) + (1 : Int32)) = (1 : Int32) from by decide]
        refine own_go (S' := (T75.setTop (mkF m 37 #[.val (.ref p0), .val (.int gd), .val (.int 1), .val (.int ((1 : Int32) + (1 : Int32)))] []))) (fun _ kont => XS.iinc X75.here hx rfl (hb hby d20_34) rfl (l' := #[.val (.ref p0), .val (.int gd), .val (.int 1), .val (.int ((1 : Int32) + (1 : Int32)))]) rfl kont) ?_
        rw [show ((1 : Int32) + (1 : Int32)) = (2 : Int32) from by decide]
        refine own_go (S' := (T75.setTop (mkF m 6 #[.val (.ref p0), .val (.int gd), .val (.int 1), .val (.int 2)] [(.ref p0), (.int 2)]))) (fun _ kont => XS.goto X75.here hx rfl (pc0 := 37) (pc' := 4) rfl (hb hby d20_37) (by decide) (by decide) (XS.iloadN X75.here hx rfl (hb hby d20_4) rfl (XS.aloadN X75.here hx rfl (hb hby d20_5) rfl rfl kont))) ?_
        obtain ⟨T76, X76, e76, st76⟩ := getF X75 hx hZ hown (host := "") (Or.inl (oH hw 74 rfl)) Via.refl rfl c75_Fp0_foundCount (g := (mkF m 6 #[.val (.ref p0), .val (.int gd), .val (.int 1), .val (.int 2)] [(.ref p0), (.int 2)])) rfl rfl (hb hby d20_6)
        refine own_go (S' := (T76.setTop (mkF m 9 #[.val (.ref p0), .val (.int gd), .val (.int 1), .val (.int 2)] [(.int 2), (.int 2)]))) st76 ?_
        refine own_go (S' := (T76.setTop (mkF m 42 #[.val (.ref p0), .val (.int gd), .val (.int 1), .val (.int 2)] [(.int 1), (.ref p0)]))) (fun _ kont => XS.icmpYes X76.here hx rfl (pc0 := 9) (pc' := 40) rfl (hb hby d20_9) rfl (flt (by decide)).2.1 (by decide) (by decide) (XS.aloadN X76.here hx rfl (hb hby d20_40) rfl rfl (XS.iloadN X76.here hx rfl (hb hby d20_41) rfl kont))) ?_
        obtain ⟨T77, h77, X77, e77, W77, st77⟩ := putF X76 hx hZ hown (host := "") (Or.inl (oH hw 74 rfl)) Via.refl e76 c75_Fp0_foundCount c75_Ep0 (Or.inl (oH hw 75 rfl)) (oH hw 55 rfl) (ty := .int) (by decide) rfl rfl (g := (mkF m 42 #[.val (.ref p0), .val (.int gd), .val (.int 1), .val (.int 2)] [(.int 1), (.ref p0)])) rfl rfl (hb hby d20_42)
        have c77_Ep0 := c75_Ep0.wr W77
        have c77_Fp0_found := c75_Fp0_found.other W77 (Or.inr (slot_ne (Or.inl (oH hw 64 rfl)) (Or.inl (oH hw 75 rfl)) (by decide) (by decide : parseFieldDescriptor "[Lcom/example/otaniemi/otaniemi/State;" = some (.array (.object "com/example/otaniemi/otaniemi/State"))) (by decide : parseFieldDescriptor "I" = some .int)))
        have c77_Fp0_foundCount := c75_Fp0_foundCount.same W77
        have c77_Fp0_passed := c75_Fp0_passed.other W77 (Or.inr (slot_ne (Or.inl (oH hw 125 rfl)) (Or.inl (oH hw 75 rfl)) (by decide) (by decide : parseFieldDescriptor "Lcom/example/otaniemi/otaniemi/Pending$Passed;" = some (.object "com/example/otaniemi/otaniemi/Pending$Passed")) (by decide : parseFieldDescriptor "I" = some .int)))
        have c77_Fp0_values := c75_Fp0_values.other W77 (Or.inr (slot_ne (Or.inl (oH hw 123 rfl)) (Or.inl (oH hw 75 rfl)) (by decide) (by decide : parseFieldDescriptor "[J" = some (.array .long)) (by decide : parseFieldDescriptor "I" = some .int)))
        have c77_Ux0 := c75_Ux0.kp (own_Kp.wr W77 g_p0)
        have c77_Uy0 := c75_Uy0.kp (own_Kp.wr W77 g_p0)
        have c77_Vfa := Vf75.other W77 (Ne.symm npf)
        have c77_Vva := Vv75.other W77 (Ne.symm npv)
        have K77 := Kt75.wr W77 (Or.inl (List.mem_of_getElem? (i := 0) rfl))
        have N77 := Fr.snoc X77 N75 g_p0
        have Z77 : n0 ≤ h77.size := Nat.le_trans Z75 (Nat.le_of_eq W77.size.symm)
        refine own_go (S' := (T77.setTop (mkF m 45 #[.val (.ref p0), .val (.int gd), .val (.int 1), .val (.int 2)] []))) st77 ?_
        refine own_ret0 X77 hx hlk Bd.returns (hb hby d20_45) (by decide) (by decide) ?_
        rw [e77]
        exact ⟨rfl, N77, own_Kp.keep K77 (own_gS g_p0 (own_gS g_fa (own_gS g_va own_g0))), Or.inr ⟨fa, kf, _, y0, ⟨g_p0, g_fa, c77_Ep0, c77_Fp0_found, c77_Fp0_foundCount, c77_Fp0_passed, c77_Vfa, O_fa⟩, Or.inr ⟨va, kv, _, _, ⟨g_va, nfv, c77_Fp0_values, c77_Vva⟩, (by rw [own_r2_01]; exact own_okR q1 y0)⟩⟩⟩
    · rcases hd_y0 with rfl | rfl
      · refine own_go (S' := (s₁.setTop (mkF m 6 #[.val (.ref p0), .val (.int gd), .val (.int 0), .val (.int 0)] [(.ref p0), (.int 0)]))) (fun _ kont => XS.iconst X0.here hx rfl (hb hby d20_0) (XS.istoreN X0.here hx rfl (hb hby d20_1) rfl (l' := #[.val (.ref p0), .val (.int gd), .val (.int 0), .unset]) rfl (XS.iconst X0.here hx rfl (hb hby d20_2) (XS.istoreN X0.here hx rfl (hb hby d20_3) rfl (l' := #[.val (.ref p0), .val (.int gd), .val (.int 0), .val (.int 0)]) rfl (XS.iloadN X0.here hx rfl (hb hby d20_4) rfl (XS.aloadN X0.here hx rfl (hb hby d20_5) rfl rfl kont)))))) ?_
        obtain ⟨T78, X78, e78, st78⟩ := getF X0 hx hZ hown (host := "") (Or.inl (oH hw 74 rfl)) Via.refl e0 F_p0_foundCount (g := (mkF m 6 #[.val (.ref p0), .val (.int gd), .val (.int 0), .val (.int 0)] [(.ref p0), (.int 0)])) rfl rfl (hb hby d20_6)
        refine own_go (S' := (T78.setTop (mkF m 9 #[.val (.ref p0), .val (.int gd), .val (.int 0), .val (.int 0)] [(.int 2), (.int 0)]))) st78 ?_
        refine own_go (S' := (T78.setTop (mkF m 13 #[.val (.ref p0), .val (.int gd), .val (.int 0), .val (.int 0)] [(.ref p0)]))) (fun _ kont => XS.icmpNo X78.here hx rfl (hb hby d20_9) rfl (tlt (by decide)).2.1 (XS.aloadN X78.here hx rfl (hb hby d20_12) rfl rfl kont)) ?_
        obtain ⟨T79, X79, e79, st79⟩ := getF X78 hx hZ hown (host := "") (Or.inl (oH hw 63 rfl)) Via.refl e78 F_p0_found (g := (mkF m 13 #[.val (.ref p0), .val (.int gd), .val (.int 0), .val (.int 0)] [(.ref p0)])) rfl rfl (hb hby d20_13)
        refine own_go (S' := (T79.setTop (mkF m 16 #[.val (.ref p0), .val (.int gd), .val (.int 0), .val (.int 0)] [(.ref fa)]))) st79 ?_
        refine own_go (S' := (T79.setTop (mkF m 17 #[.val (.ref p0), .val (.int gd), .val (.int 0), .val (.int 0)] [(.int 0), (.ref fa)]))) (fun _ kont => XS.iloadN X79.here hx rfl (hb hby d20_16) rfl kont) ?_
        obtain ⟨cl80, Ar80, -, S80, -, H80, -⟩ := id V_fa
        have hin80 := inb_of (j := (0 : Int32)) S80 ⟨by decide, by decide⟩
        have hat80 := Has.at (v := (.ref x0)) H80 hin80 (by first | rfl | decide)
        refine own_go (S' := (T79.setTop (mkF m 18 #[.val (.ref p0), .val (.int gd), .val (.int 0), .val (.int 0)] [(.ref x0)]))) (fun _ kont => X79.aaload hx (j := (0 : Int32)) (v := (.ref x0)) (by rw [e79]; exact Ar80.1) (State.isArrayOf_alike hZ.alike Ar80.2.1) rfl Ar80.2.2 hin80 hat80 (g := (mkF m 17 #[.val (.ref p0), .val (.int gd), .val (.int 0), .val (.int 0)] [(.int 0), (.ref fa)])) rfl rfl (hb hby d20_17) _ kont) ?_
        refine own_go (S' := (T79.setTop (mkF m 19 #[.val (.ref p0), .val (.int gd), .val (.int 0), .val (.int 0)] [(.int gd), (.ref x0)]))) (fun _ kont => XS.iloadN X79.here hx rfl (hb hby d20_18) rfl kont) ?_
        obtain ⟨lx81, Ex81, Fn81, Fd81, Fi81, pp81, lp81, Fp81, Ep81, Fc81⟩ := id U_x0
        obtain ⟨cq82, kq82, q82a, q82b, q82c⟩ := isOf hZ e79 Ex81
        obtain ⟨v82, _, ⟨T82, L82, k82, n82⟩, -, X82, ⟨Lc82, hQ82, l82, y82, z82⟩, st82⟩ := X79.virtualBack hx (y := (⟨"com/example/otaniemi/otaniemi/State", "isEndAbove", "(I)Z"⟩ : MethodName)) (z := (⟨"com/example/otaniemi/otaniemi/State", "isEndAbove", "(I)Z"⟩ : MethodName)) hown (mvT hZ (oH hw 140 rfl)) (mvT hZ (oH hw 141 rfl)) (notFace_of_selects (args := #[]) (mvT hZ (oH hw 143 rfl))) (mvT hZ (oH hw 143 rfl)) (mvT hZ (oH hw 142 rfl)) (by decide) (backOf (W := 0) (rmEa l Z a0 hw [] x0 gd _ _ (1 : Int32) h0 n0 Z0 U_x0 (by decide)) hZ (oH hw 144 rfl) (oH hw 2 rfl) (by decide) (by decide)) q82a q82c (g := (mkF m 19 #[.val (.ref p0), .val (.int gd), .val (.int 0), .val (.int 0)] [(.int gd), (.ref x0)])) rfl (by rw [hml]; rfl) (Steps.refl _) (argsL := [(.int gd)]) (rest := []) (lenOf pd_366 rfl) rfl (by show 2 * 0 + _ ≤ _; exact Nat.le_of_eq rfl) (hb hby d20_19) (fun _ _ => ⟨rfl, e79, (by decide : 0 + 0 ≤ _), (by decide : 0 + 0 ≤ _)⟩)
        dsimp only [Pt.U, Pt.locs, Pt.cells, Pt.slots] at X82 l82 y82 z82 st82 hQ82
        subst l82 y82 z82
        obtain ⟨rfl, eh82, rfl⟩ := hQ82
        have N82 := Fr.app N0 (Fr.nil n0)
        refine own_goT (S' := (T82.setTop (mkF m 22 #[.val (.ref p0), .val (.int gd), .val (.int 0), .val (.int 0)] [(.int 1)]))) st82 ?_
        refine own_go (S' := (T82.setTop (mkF m 28 #[.val (.ref p0), .val (.int gd), .val (.int 0), .val (.int 0)] [(.int 0), (.int 0), (.ref p0)]))) (fun _ kont => XS.ifNo X82.here hx rfl (hb hby d20_22) rfl ((if0 _ _).trans (feq (by decide)).1) (XS.aloadN X82.here hx rfl (hb hby d20_25) rfl rfl (XS.iloadN X82.here hx rfl (hb hby d20_26) rfl (XS.iloadN X82.here hx rfl (hb hby d20_27) rfl kont)))) ?_
        obtain ⟨cq83, qp83, qp83'⟩ := E_p0.cell
        obtain ⟨v83, _, ⟨T83, L83, k83, n83⟩, -, X83, ⟨Lc83, hQ83, l83, y83, z83⟩, st83⟩ := X82.privateBack hx (y := (⟨"com/example/otaniemi/otaniemi/Pending", "move", "(II)V"⟩ : MethodName)) hown (mvT hZ (oH hw 150 rfl)) (mvT hZ (oH hw 151 rfl)) (own_selP (args := #[]) (mvT hZ (oH hw 55 rfl)) (mvP hZ (oH hw 152 rfl)) (mvT hZ (oH hw 151 rfl)) (by decide)) (Cond.privateMethod_at (mvP hZ (oH hw 152 rfl) (args := #[]))) (mvT hZ (oH hw 153 rfl)) (by decide) (backOf (W := 0) (rmMv00A l Z a0 hw [] p0 fa kf (2 : Int32) (.ref y0) va kv v0 v1 x0 h0 n0 Z0 E_p0 F_p0_found F_p0_foundCount F_p0_passed F_p0_values g_p0 g_fa V_fa O_fa g_va nfv V_va U_x0.2.1) hZ (oH hw 153 rfl) (oH hw 56 rfl) (by decide) (by decide)) (g := (mkF m 28 #[.val (.ref p0), .val (.int gd), .val (.int 0), .val (.int 0)] [(.int 0), (.int 0), (.ref p0)])) rfl (by rw [hml]; rfl) (Steps.refl _) (a := p0) (by rw [eh82]; exact qp83) qp83' (argsL := [(.int 0), (.int 0)]) (rest := []) (lenOf pd_318 rfl) rfl (by show 2 * 0 + _ ≤ _; exact Nat.le_of_eq rfl) (hb hby d20_28) (fun _ _ => ⟨rfl, eh82, (by decide : 0 + 0 ≤ _), (by decide : 0 + 0 ≤ _)⟩)
        dsimp only [Pt.U, Pt.locs, Pt.cells, Pt.slots] at X83 l83 y83 z83 st83 hQ83
        subst l83 y83 z83
        obtain ⟨rfl, Nq83, Kc83, Vf83, Vv83⟩ := hQ83
        have Kt83 := K0.trans Kc83 (fun x hx => by simp only [List.mem_cons, List.mem_singleton, List.not_mem_nil, or_false] at hx; rcases hx with rfl | rfl <;> first | (left; simp; done) | (right; assumption))
        have N83 := Fr.app N82 Nq83
        have Z83 : n0 ≤ T83.heap.size := Nat.le_trans Z0 Kc83.1
        have c83_Ep0 := E_p0.keep Kc83
        have c83_Fp0_found := F_p0_found.keep Kc83 (ninS npf (ninS npv nin0))
        have c83_Fp0_foundCount := F_p0_foundCount.keep Kc83 (ninS npf (ninS npv nin0))
        have c83_Fp0_passed := F_p0_passed.keep Kc83 (ninS npf (ninS npv nin0))
        have c83_Fp0_values := F_p0_values.keep Kc83 (ninS npf (ninS npv nin0))
        have c83_Ux0 := U_x0.kp (own_Kp.keep Kc83 (own_gS g_fa (own_gS g_va own_g0)))
        have c83_Uy0 := U_y0.kp (own_Kp.keep Kc83 (own_gS g_fa (own_gS g_va own_g0)))
        refine own_goT (S' := (T83.setTop (mkF m 31 #[.val (.ref p0), .val (.int gd), .val (.int 0), .val (.int 0)] []))) st83 ?_
        refine own_go (S' := (T83.setTop (mkF m 34 #[.val (.ref p0), .val (.int gd), .val (.int ((0 : Int32) + (1 : Int32))), .val (.int 0)] []))) (fun _ kont => XS.iinc X83.here hx rfl (hb hby d20_31) rfl (l' := #[.val (.ref p0), .val (.int gd), .val (.int ((0 : Int32) + (1 : Int32))), .val (.int 0)]) rfl kont) ?_
        rw [show ((0 : Int32) + (1 : Int32)) = (1 : Int32) from by decide]
        refine own_go (S' := (T83.setTop (mkF m 37 #[.val (.ref p0), .val (.int gd), .val (.int 1), .val (.int ((0 : Int32) + (1 : Int32)))] []))) (fun _ kont => XS.iinc X83.here hx rfl (hb hby d20_34) rfl (l' := #[.val (.ref p0), .val (.int gd), .val (.int 1), .val (.int ((0 : Int32) + (1 : Int32)))]) rfl kont) ?_
        rw [show ((0 : Int32) + (1 : Int32)) = (1 : Int32) from by decide]
        refine own_go (S' := (T83.setTop (mkF m 6 #[.val (.ref p0), .val (.int gd), .val (.int 1), .val (.int 1)] [(.ref p0), (.int 1)]))) (fun _ kont => XS.goto X83.here hx rfl (pc0 := 37) (pc' := 4) rfl (hb hby d20_37) (by decide) (by decide) (XS.iloadN X83.here hx rfl (hb hby d20_4) rfl (XS.aloadN X83.here hx rfl (hb hby d20_5) rfl rfl kont))) ?_
        obtain ⟨T84, X84, e84, st84⟩ := getF X83 hx hZ hown (host := "") (Or.inl (oH hw 74 rfl)) Via.refl rfl c83_Fp0_foundCount (g := (mkF m 6 #[.val (.ref p0), .val (.int gd), .val (.int 1), .val (.int 1)] [(.ref p0), (.int 1)])) rfl rfl (hb hby d20_6)
        refine own_go (S' := (T84.setTop (mkF m 9 #[.val (.ref p0), .val (.int gd), .val (.int 1), .val (.int 1)] [(.int 2), (.int 1)]))) st84 ?_
        refine own_go (S' := (T84.setTop (mkF m 13 #[.val (.ref p0), .val (.int gd), .val (.int 1), .val (.int 1)] [(.ref p0)]))) (fun _ kont => XS.icmpNo X84.here hx rfl (hb hby d20_9) rfl (tlt (by decide)).2.1 (XS.aloadN X84.here hx rfl (hb hby d20_12) rfl rfl kont)) ?_
        obtain ⟨T85, X85, e85, st85⟩ := getF X84 hx hZ hown (host := "") (Or.inl (oH hw 63 rfl)) Via.refl e84 c83_Fp0_found (g := (mkF m 13 #[.val (.ref p0), .val (.int gd), .val (.int 1), .val (.int 1)] [(.ref p0)])) rfl rfl (hb hby d20_13)
        refine own_go (S' := (T85.setTop (mkF m 16 #[.val (.ref p0), .val (.int gd), .val (.int 1), .val (.int 1)] [(.ref fa)]))) st85 ?_
        refine own_go (S' := (T85.setTop (mkF m 17 #[.val (.ref p0), .val (.int gd), .val (.int 1), .val (.int 1)] [(.int 1), (.ref fa)]))) (fun _ kont => XS.iloadN X85.here hx rfl (hb hby d20_16) rfl kont) ?_
        obtain ⟨cl86, Ar86, -, S86, -, H86, -⟩ := id Vf83
        have hin86 := inb_of (j := (1 : Int32)) S86 ⟨by decide, by decide⟩
        have hat86 := Has.at (v := (.ref y0)) H86 hin86 (by first | rfl | decide)
        refine own_go (S' := (T85.setTop (mkF m 18 #[.val (.ref p0), .val (.int gd), .val (.int 1), .val (.int 1)] [(.ref y0)]))) (fun _ kont => X85.aaload hx (j := (1 : Int32)) (v := (.ref y0)) (by rw [e85]; exact Ar86.1) (State.isArrayOf_alike hZ.alike Ar86.2.1) rfl Ar86.2.2 hin86 hat86 (g := (mkF m 17 #[.val (.ref p0), .val (.int gd), .val (.int 1), .val (.int 1)] [(.int 1), (.ref fa)])) rfl rfl (hb hby d20_17) _ kont) ?_
        refine own_go (S' := (T85.setTop (mkF m 19 #[.val (.ref p0), .val (.int gd), .val (.int 1), .val (.int 1)] [(.int gd), (.ref y0)]))) (fun _ kont => XS.iloadN X85.here hx rfl (hb hby d20_18) rfl kont) ?_
        obtain ⟨lx87, Ex87, Fn87, Fd87, Fi87, pp87, lp87, Fp87, Ep87, Fc87⟩ := id c83_Uy0
        obtain ⟨cq88, kq88, q88a, q88b, q88c⟩ := isOf hZ e85 Ex87
        obtain ⟨v88, _, ⟨T88, L88, k88, n88⟩, -, X88, ⟨Lc88, hQ88, l88, y88, z88⟩, st88⟩ := X85.virtualBack hx (y := (⟨"com/example/otaniemi/otaniemi/State", "isEndAbove", "(I)Z"⟩ : MethodName)) (z := (⟨"com/example/otaniemi/otaniemi/State", "isEndAbove", "(I)Z"⟩ : MethodName)) hown (mvT hZ (oH hw 140 rfl)) (mvT hZ (oH hw 141 rfl)) (notFace_of_selects (args := #[]) (mvT hZ (oH hw 143 rfl))) (mvT hZ (oH hw 143 rfl)) (mvT hZ (oH hw 142 rfl)) (by decide) (backOf (W := 0) (rmEa l Z a0 hw [] y0 gd _ _ (0 : Int32) T83.heap n0 Z83 c83_Uy0 (by decide)) hZ (oH hw 144 rfl) (oH hw 2 rfl) (by decide) (by decide)) q88a q88c (g := (mkF m 19 #[.val (.ref p0), .val (.int gd), .val (.int 1), .val (.int 1)] [(.int gd), (.ref y0)])) rfl (by rw [hml]; rfl) (Steps.refl _) (argsL := [(.int gd)]) (rest := []) (lenOf pd_366 rfl) rfl (by show 2 * 0 + _ ≤ _; exact Nat.le_of_eq rfl) (hb hby d20_19) (fun _ _ => ⟨rfl, e85, (by decide : 0 + 0 ≤ _), (by decide : 0 + 0 ≤ _)⟩)
        dsimp only [Pt.U, Pt.locs, Pt.cells, Pt.slots] at X88 l88 y88 z88 st88 hQ88
        subst l88 y88 z88
        obtain ⟨rfl, eh88, rfl⟩ := hQ88
        have N88 := Fr.app N83 (Fr.nil n0)
        refine own_goT (S' := (T88.setTop (mkF m 22 #[.val (.ref p0), .val (.int gd), .val (.int 1), .val (.int 1)] [(.int 0)]))) st88 ?_
        refine own_go (S' := (T88.setTop (mkF m 37 #[.val (.ref p0), .val (.int gd), .val (.int 1), .val (.int ((1 : Int32) + (1 : Int32)))] []))) (fun _ kont => XS.ifYes X88.here hx rfl (pc0 := 22) (pc' := 34) rfl (hb hby d20_22) rfl ((if0 _ _).trans (teq (by decide)).1) (by decide) (by decide) (XS.iinc X88.here hx rfl (hb hby d20_34) rfl (l' := #[.val (.ref p0), .val (.int gd), .val (.int 1), .val (.int ((1 : Int32) + (1 : Int32)))]) rfl kont)) ?_
        rw [show ((1 : Int32) + (1 : Int32)) = (2 : Int32) from by decide]
        refine own_go (S' := (T88.setTop (mkF m 6 #[.val (.ref p0), .val (.int gd), .val (.int 1), .val (.int 2)] [(.ref p0), (.int 2)]))) (fun _ kont => XS.goto X88.here hx rfl (pc0 := 37) (pc' := 4) rfl (hb hby d20_37) (by decide) (by decide) (XS.iloadN X88.here hx rfl (hb hby d20_4) rfl (XS.aloadN X88.here hx rfl (hb hby d20_5) rfl rfl kont))) ?_
        obtain ⟨T89, X89, e89, st89⟩ := getF X88 hx hZ hown (host := "") (Or.inl (oH hw 74 rfl)) Via.refl eh88 c83_Fp0_foundCount (g := (mkF m 6 #[.val (.ref p0), .val (.int gd), .val (.int 1), .val (.int 2)] [(.ref p0), (.int 2)])) rfl rfl (hb hby d20_6)
        refine own_go (S' := (T89.setTop (mkF m 9 #[.val (.ref p0), .val (.int gd), .val (.int 1), .val (.int 2)] [(.int 2), (.int 2)]))) st89 ?_
        refine own_go (S' := (T89.setTop (mkF m 42 #[.val (.ref p0), .val (.int gd), .val (.int 1), .val (.int 2)] [(.int 1), (.ref p0)]))) (fun _ kont => XS.icmpYes X89.here hx rfl (pc0 := 9) (pc' := 40) rfl (hb hby d20_9) rfl (flt (by decide)).2.1 (by decide) (by decide) (XS.aloadN X89.here hx rfl (hb hby d20_40) rfl rfl (XS.iloadN X89.here hx rfl (hb hby d20_41) rfl kont))) ?_
        obtain ⟨T90, h90, X90, e90, W90, st90⟩ := putF X89 hx hZ hown (host := "") (Or.inl (oH hw 74 rfl)) Via.refl e89 c83_Fp0_foundCount c83_Ep0 (Or.inl (oH hw 75 rfl)) (oH hw 55 rfl) (ty := .int) (by decide) rfl rfl (g := (mkF m 42 #[.val (.ref p0), .val (.int gd), .val (.int 1), .val (.int 2)] [(.int 1), (.ref p0)])) rfl rfl (hb hby d20_42)
        have c90_Ep0 := c83_Ep0.wr W90
        have c90_Fp0_found := c83_Fp0_found.other W90 (Or.inr (slot_ne (Or.inl (oH hw 64 rfl)) (Or.inl (oH hw 75 rfl)) (by decide) (by decide : parseFieldDescriptor "[Lcom/example/otaniemi/otaniemi/State;" = some (.array (.object "com/example/otaniemi/otaniemi/State"))) (by decide : parseFieldDescriptor "I" = some .int)))
        have c90_Fp0_foundCount := c83_Fp0_foundCount.same W90
        have c90_Fp0_passed := c83_Fp0_passed.other W90 (Or.inr (slot_ne (Or.inl (oH hw 125 rfl)) (Or.inl (oH hw 75 rfl)) (by decide) (by decide : parseFieldDescriptor "Lcom/example/otaniemi/otaniemi/Pending$Passed;" = some (.object "com/example/otaniemi/otaniemi/Pending$Passed")) (by decide : parseFieldDescriptor "I" = some .int)))
        have c90_Fp0_values := c83_Fp0_values.other W90 (Or.inr (slot_ne (Or.inl (oH hw 123 rfl)) (Or.inl (oH hw 75 rfl)) (by decide) (by decide : parseFieldDescriptor "[J" = some (.array .long)) (by decide : parseFieldDescriptor "I" = some .int)))
        have c90_Ux0 := c83_Ux0.kp (own_Kp.wr W90 g_p0)
        have c90_Uy0 := c83_Uy0.kp (own_Kp.wr W90 g_p0)
        have c90_Vfa := Vf83.other W90 (Ne.symm npf)
        have c90_Vva := Vv83.other W90 (Ne.symm npv)
        have K90 := Kt83.wr W90 (Or.inl (List.mem_of_getElem? (i := 0) rfl))
        have N90 := Fr.snoc X90 N88 g_p0
        have Z90 : n0 ≤ h90.size := Nat.le_trans Z83 (Nat.le_of_eq W90.size.symm)
        refine own_go (S' := (T90.setTop (mkF m 45 #[.val (.ref p0), .val (.int gd), .val (.int 1), .val (.int 2)] []))) st90 ?_
        refine own_ret0 X90 hx hlk Bd.returns (hb hby d20_45) (by decide) (by decide) ?_
        rw [e90]
        exact ⟨rfl, N90, own_Kp.keep K90 (own_gS g_p0 (own_gS g_fa (own_gS g_va own_g0))), Or.inr ⟨fa, kf, _, x0, ⟨g_p0, g_fa, c90_Ep0, c90_Fp0_found, c90_Fp0_foundCount, c90_Fp0_passed, c90_Vfa, O_fa⟩, Or.inr ⟨va, kv, _, _, ⟨g_va, nfv, c90_Fp0_values, c90_Vva⟩, (by rw [own_r2_10]; exact own_okR q0 x0)⟩⟩⟩
      · refine own_go (S' := (s₁.setTop (mkF m 6 #[.val (.ref p0), .val (.int gd), .val (.int 0), .val (.int 0)] [(.ref p0), (.int 0)]))) (fun _ kont => XS.iconst X0.here hx rfl (hb hby d20_0) (XS.istoreN X0.here hx rfl (hb hby d20_1) rfl (l' := #[.val (.ref p0), .val (.int gd), .val (.int 0), .unset]) rfl (XS.iconst X0.here hx rfl (hb hby d20_2) (XS.istoreN X0.here hx rfl (hb hby d20_3) rfl (l' := #[.val (.ref p0), .val (.int gd), .val (.int 0), .val (.int 0)]) rfl (XS.iloadN X0.here hx rfl (hb hby d20_4) rfl (XS.aloadN X0.here hx rfl (hb hby d20_5) rfl rfl kont)))))) ?_
        obtain ⟨T91, X91, e91, st91⟩ := getF X0 hx hZ hown (host := "") (Or.inl (oH hw 74 rfl)) Via.refl e0 F_p0_foundCount (g := (mkF m 6 #[.val (.ref p0), .val (.int gd), .val (.int 0), .val (.int 0)] [(.ref p0), (.int 0)])) rfl rfl (hb hby d20_6)
        refine own_go (S' := (T91.setTop (mkF m 9 #[.val (.ref p0), .val (.int gd), .val (.int 0), .val (.int 0)] [(.int 2), (.int 0)]))) st91 ?_
        refine own_go (S' := (T91.setTop (mkF m 13 #[.val (.ref p0), .val (.int gd), .val (.int 0), .val (.int 0)] [(.ref p0)]))) (fun _ kont => XS.icmpNo X91.here hx rfl (hb hby d20_9) rfl (tlt (by decide)).2.1 (XS.aloadN X91.here hx rfl (hb hby d20_12) rfl rfl kont)) ?_
        obtain ⟨T92, X92, e92, st92⟩ := getF X91 hx hZ hown (host := "") (Or.inl (oH hw 63 rfl)) Via.refl e91 F_p0_found (g := (mkF m 13 #[.val (.ref p0), .val (.int gd), .val (.int 0), .val (.int 0)] [(.ref p0)])) rfl rfl (hb hby d20_13)
        refine own_go (S' := (T92.setTop (mkF m 16 #[.val (.ref p0), .val (.int gd), .val (.int 0), .val (.int 0)] [(.ref fa)]))) st92 ?_
        refine own_go (S' := (T92.setTop (mkF m 17 #[.val (.ref p0), .val (.int gd), .val (.int 0), .val (.int 0)] [(.int 0), (.ref fa)]))) (fun _ kont => XS.iloadN X92.here hx rfl (hb hby d20_16) rfl kont) ?_
        obtain ⟨cl93, Ar93, -, S93, -, H93, -⟩ := id V_fa
        have hin93 := inb_of (j := (0 : Int32)) S93 ⟨by decide, by decide⟩
        have hat93 := Has.at (v := (.ref x0)) H93 hin93 (by first | rfl | decide)
        refine own_go (S' := (T92.setTop (mkF m 18 #[.val (.ref p0), .val (.int gd), .val (.int 0), .val (.int 0)] [(.ref x0)]))) (fun _ kont => X92.aaload hx (j := (0 : Int32)) (v := (.ref x0)) (by rw [e92]; exact Ar93.1) (State.isArrayOf_alike hZ.alike Ar93.2.1) rfl Ar93.2.2 hin93 hat93 (g := (mkF m 17 #[.val (.ref p0), .val (.int gd), .val (.int 0), .val (.int 0)] [(.int 0), (.ref fa)])) rfl rfl (hb hby d20_17) _ kont) ?_
        refine own_go (S' := (T92.setTop (mkF m 19 #[.val (.ref p0), .val (.int gd), .val (.int 0), .val (.int 0)] [(.int gd), (.ref x0)]))) (fun _ kont => XS.iloadN X92.here hx rfl (hb hby d20_18) rfl kont) ?_
        obtain ⟨lx94, Ex94, Fn94, Fd94, Fi94, pp94, lp94, Fp94, Ep94, Fc94⟩ := id U_x0
        obtain ⟨cq95, kq95, q95a, q95b, q95c⟩ := isOf hZ e92 Ex94
        obtain ⟨v95, _, ⟨T95, L95, k95, n95⟩, -, X95, ⟨Lc95, hQ95, l95, y95, z95⟩, st95⟩ := X92.virtualBack hx (y := (⟨"com/example/otaniemi/otaniemi/State", "isEndAbove", "(I)Z"⟩ : MethodName)) (z := (⟨"com/example/otaniemi/otaniemi/State", "isEndAbove", "(I)Z"⟩ : MethodName)) hown (mvT hZ (oH hw 140 rfl)) (mvT hZ (oH hw 141 rfl)) (notFace_of_selects (args := #[]) (mvT hZ (oH hw 143 rfl))) (mvT hZ (oH hw 143 rfl)) (mvT hZ (oH hw 142 rfl)) (by decide) (backOf (W := 0) (rmEa l Z a0 hw [] x0 gd _ _ (1 : Int32) h0 n0 Z0 U_x0 (by decide)) hZ (oH hw 144 rfl) (oH hw 2 rfl) (by decide) (by decide)) q95a q95c (g := (mkF m 19 #[.val (.ref p0), .val (.int gd), .val (.int 0), .val (.int 0)] [(.int gd), (.ref x0)])) rfl (by rw [hml]; rfl) (Steps.refl _) (argsL := [(.int gd)]) (rest := []) (lenOf pd_366 rfl) rfl (by show 2 * 0 + _ ≤ _; exact Nat.le_of_eq rfl) (hb hby d20_19) (fun _ _ => ⟨rfl, e92, (by decide : 0 + 0 ≤ _), (by decide : 0 + 0 ≤ _)⟩)
        dsimp only [Pt.U, Pt.locs, Pt.cells, Pt.slots] at X95 l95 y95 z95 st95 hQ95
        subst l95 y95 z95
        obtain ⟨rfl, eh95, rfl⟩ := hQ95
        have N95 := Fr.app N0 (Fr.nil n0)
        refine own_goT (S' := (T95.setTop (mkF m 22 #[.val (.ref p0), .val (.int gd), .val (.int 0), .val (.int 0)] [(.int 1)]))) st95 ?_
        refine own_go (S' := (T95.setTop (mkF m 28 #[.val (.ref p0), .val (.int gd), .val (.int 0), .val (.int 0)] [(.int 0), (.int 0), (.ref p0)]))) (fun _ kont => XS.ifNo X95.here hx rfl (hb hby d20_22) rfl ((if0 _ _).trans (feq (by decide)).1) (XS.aloadN X95.here hx rfl (hb hby d20_25) rfl rfl (XS.iloadN X95.here hx rfl (hb hby d20_26) rfl (XS.iloadN X95.here hx rfl (hb hby d20_27) rfl kont)))) ?_
        obtain ⟨cq96, qp96, qp96'⟩ := E_p0.cell
        obtain ⟨v96, _, ⟨T96, L96, k96, n96⟩, -, X96, ⟨Lc96, hQ96, l96, y96, z96⟩, st96⟩ := X95.privateBack hx (y := (⟨"com/example/otaniemi/otaniemi/Pending", "move", "(II)V"⟩ : MethodName)) hown (mvT hZ (oH hw 150 rfl)) (mvT hZ (oH hw 151 rfl)) (own_selP (args := #[]) (mvT hZ (oH hw 55 rfl)) (mvP hZ (oH hw 152 rfl)) (mvT hZ (oH hw 151 rfl)) (by decide)) (Cond.privateMethod_at (mvP hZ (oH hw 152 rfl) (args := #[]))) (mvT hZ (oH hw 153 rfl)) (by decide) (backOf (W := 0) (rmMv00A l Z a0 hw [] p0 fa kf (2 : Int32) (.ref y0) va kv v0 v1 x0 h0 n0 Z0 E_p0 F_p0_found F_p0_foundCount F_p0_passed F_p0_values g_p0 g_fa V_fa O_fa g_va nfv V_va U_x0.2.1) hZ (oH hw 153 rfl) (oH hw 56 rfl) (by decide) (by decide)) (g := (mkF m 28 #[.val (.ref p0), .val (.int gd), .val (.int 0), .val (.int 0)] [(.int 0), (.int 0), (.ref p0)])) rfl (by rw [hml]; rfl) (Steps.refl _) (a := p0) (by rw [eh95]; exact qp96) qp96' (argsL := [(.int 0), (.int 0)]) (rest := []) (lenOf pd_318 rfl) rfl (by show 2 * 0 + _ ≤ _; exact Nat.le_of_eq rfl) (hb hby d20_28) (fun _ _ => ⟨rfl, eh95, (by decide : 0 + 0 ≤ _), (by decide : 0 + 0 ≤ _)⟩)
        dsimp only [Pt.U, Pt.locs, Pt.cells, Pt.slots] at X96 l96 y96 z96 st96 hQ96
        subst l96 y96 z96
        obtain ⟨rfl, Nq96, Kc96, Vf96, Vv96⟩ := hQ96
        have Kt96 := K0.trans Kc96 (fun x hx => by simp only [List.mem_cons, List.mem_singleton, List.not_mem_nil, or_false] at hx; rcases hx with rfl | rfl <;> first | (left; simp; done) | (right; assumption))
        have N96 := Fr.app N95 Nq96
        have Z96 : n0 ≤ T96.heap.size := Nat.le_trans Z0 Kc96.1
        have c96_Ep0 := E_p0.keep Kc96
        have c96_Fp0_found := F_p0_found.keep Kc96 (ninS npf (ninS npv nin0))
        have c96_Fp0_foundCount := F_p0_foundCount.keep Kc96 (ninS npf (ninS npv nin0))
        have c96_Fp0_passed := F_p0_passed.keep Kc96 (ninS npf (ninS npv nin0))
        have c96_Fp0_values := F_p0_values.keep Kc96 (ninS npf (ninS npv nin0))
        have c96_Ux0 := U_x0.kp (own_Kp.keep Kc96 (own_gS g_fa (own_gS g_va own_g0)))
        have c96_Uy0 := U_y0.kp (own_Kp.keep Kc96 (own_gS g_fa (own_gS g_va own_g0)))
        refine own_goT (S' := (T96.setTop (mkF m 31 #[.val (.ref p0), .val (.int gd), .val (.int 0), .val (.int 0)] []))) st96 ?_
        refine own_go (S' := (T96.setTop (mkF m 34 #[.val (.ref p0), .val (.int gd), .val (.int ((0 : Int32) + (1 : Int32))), .val (.int 0)] []))) (fun _ kont => XS.iinc X96.here hx rfl (hb hby d20_31) rfl (l' := #[.val (.ref p0), .val (.int gd), .val (.int ((0 : Int32) + (1 : Int32))), .val (.int 0)]) rfl kont) ?_
        rw [show ((0 : Int32) + (1 : Int32)) = (1 : Int32) from by decide]
        refine own_go (S' := (T96.setTop (mkF m 37 #[.val (.ref p0), .val (.int gd), .val (.int 1), .val (.int ((0 : Int32) + (1 : Int32)))] []))) (fun _ kont => XS.iinc X96.here hx rfl (hb hby d20_34) rfl (l' := #[.val (.ref p0), .val (.int gd), .val (.int 1), .val (.int ((0 : Int32) + (1 : Int32)))]) rfl kont) ?_
        rw [show ((0 : Int32) + (1 : Int32)) = (1 : Int32) from by decide]
        refine own_go (S' := (T96.setTop (mkF m 6 #[.val (.ref p0), .val (.int gd), .val (.int 1), .val (.int 1)] [(.ref p0), (.int 1)]))) (fun _ kont => XS.goto X96.here hx rfl (pc0 := 37) (pc' := 4) rfl (hb hby d20_37) (by decide) (by decide) (XS.iloadN X96.here hx rfl (hb hby d20_4) rfl (XS.aloadN X96.here hx rfl (hb hby d20_5) rfl rfl kont))) ?_
        obtain ⟨T97, X97, e97, st97⟩ := getF X96 hx hZ hown (host := "") (Or.inl (oH hw 74 rfl)) Via.refl rfl c96_Fp0_foundCount (g := (mkF m 6 #[.val (.ref p0), .val (.int gd), .val (.int 1), .val (.int 1)] [(.ref p0), (.int 1)])) rfl rfl (hb hby d20_6)
        refine own_go (S' := (T97.setTop (mkF m 9 #[.val (.ref p0), .val (.int gd), .val (.int 1), .val (.int 1)] [(.int 2), (.int 1)]))) st97 ?_
        refine own_go (S' := (T97.setTop (mkF m 13 #[.val (.ref p0), .val (.int gd), .val (.int 1), .val (.int 1)] [(.ref p0)]))) (fun _ kont => XS.icmpNo X97.here hx rfl (hb hby d20_9) rfl (tlt (by decide)).2.1 (XS.aloadN X97.here hx rfl (hb hby d20_12) rfl rfl kont)) ?_
        obtain ⟨T98, X98, e98, st98⟩ := getF X97 hx hZ hown (host := "") (Or.inl (oH hw 63 rfl)) Via.refl e97 c96_Fp0_found (g := (mkF m 13 #[.val (.ref p0), .val (.int gd), .val (.int 1), .val (.int 1)] [(.ref p0)])) rfl rfl (hb hby d20_13)
        refine own_go (S' := (T98.setTop (mkF m 16 #[.val (.ref p0), .val (.int gd), .val (.int 1), .val (.int 1)] [(.ref fa)]))) st98 ?_
        refine own_go (S' := (T98.setTop (mkF m 17 #[.val (.ref p0), .val (.int gd), .val (.int 1), .val (.int 1)] [(.int 1), (.ref fa)]))) (fun _ kont => XS.iloadN X98.here hx rfl (hb hby d20_16) rfl kont) ?_
        obtain ⟨cl99, Ar99, -, S99, -, H99, -⟩ := id Vf96
        have hin99 := inb_of (j := (1 : Int32)) S99 ⟨by decide, by decide⟩
        have hat99 := Has.at (v := (.ref y0)) H99 hin99 (by first | rfl | decide)
        refine own_go (S' := (T98.setTop (mkF m 18 #[.val (.ref p0), .val (.int gd), .val (.int 1), .val (.int 1)] [(.ref y0)]))) (fun _ kont => X98.aaload hx (j := (1 : Int32)) (v := (.ref y0)) (by rw [e98]; exact Ar99.1) (State.isArrayOf_alike hZ.alike Ar99.2.1) rfl Ar99.2.2 hin99 hat99 (g := (mkF m 17 #[.val (.ref p0), .val (.int gd), .val (.int 1), .val (.int 1)] [(.int 1), (.ref fa)])) rfl rfl (hb hby d20_17) _ kont) ?_
        refine own_go (S' := (T98.setTop (mkF m 19 #[.val (.ref p0), .val (.int gd), .val (.int 1), .val (.int 1)] [(.int gd), (.ref y0)]))) (fun _ kont => XS.iloadN X98.here hx rfl (hb hby d20_18) rfl kont) ?_
        obtain ⟨lx100, Ex100, Fn100, Fd100, Fi100, pp100, lp100, Fp100, Ep100, Fc100⟩ := id c96_Uy0
        obtain ⟨cq101, kq101, q101a, q101b, q101c⟩ := isOf hZ e98 Ex100
        obtain ⟨v101, _, ⟨T101, L101, k101, n101⟩, -, X101, ⟨Lc101, hQ101, l101, y101, z101⟩, st101⟩ := X98.virtualBack hx (y := (⟨"com/example/otaniemi/otaniemi/State", "isEndAbove", "(I)Z"⟩ : MethodName)) (z := (⟨"com/example/otaniemi/otaniemi/State", "isEndAbove", "(I)Z"⟩ : MethodName)) hown (mvT hZ (oH hw 140 rfl)) (mvT hZ (oH hw 141 rfl)) (notFace_of_selects (args := #[]) (mvT hZ (oH hw 143 rfl))) (mvT hZ (oH hw 143 rfl)) (mvT hZ (oH hw 142 rfl)) (by decide) (backOf (W := 0) (rmEa l Z a0 hw [] y0 gd _ _ (1 : Int32) T96.heap n0 Z96 c96_Uy0 (by decide)) hZ (oH hw 144 rfl) (oH hw 2 rfl) (by decide) (by decide)) q101a q101c (g := (mkF m 19 #[.val (.ref p0), .val (.int gd), .val (.int 1), .val (.int 1)] [(.int gd), (.ref y0)])) rfl (by rw [hml]; rfl) (Steps.refl _) (argsL := [(.int gd)]) (rest := []) (lenOf pd_366 rfl) rfl (by show 2 * 0 + _ ≤ _; exact Nat.le_of_eq rfl) (hb hby d20_19) (fun _ _ => ⟨rfl, e98, (by decide : 0 + 0 ≤ _), (by decide : 0 + 0 ≤ _)⟩)
        dsimp only [Pt.U, Pt.locs, Pt.cells, Pt.slots] at X101 l101 y101 z101 st101 hQ101
        subst l101 y101 z101
        obtain ⟨rfl, eh101, rfl⟩ := hQ101
        have N101 := Fr.app N96 (Fr.nil n0)
        refine own_goT (S' := (T101.setTop (mkF m 22 #[.val (.ref p0), .val (.int gd), .val (.int 1), .val (.int 1)] [(.int 1)]))) st101 ?_
        refine own_go (S' := (T101.setTop (mkF m 28 #[.val (.ref p0), .val (.int gd), .val (.int 1), .val (.int 1)] [(.int 1), (.int 1), (.ref p0)]))) (fun _ kont => XS.ifNo X101.here hx rfl (hb hby d20_22) rfl ((if0 _ _).trans (feq (by decide)).1) (XS.aloadN X101.here hx rfl (hb hby d20_25) rfl rfl (XS.iloadN X101.here hx rfl (hb hby d20_26) rfl (XS.iloadN X101.here hx rfl (hb hby d20_27) rfl kont)))) ?_
        obtain ⟨cq102, qp102, qp102'⟩ := c96_Ep0.cell
        obtain ⟨v102, _, ⟨T102, L102, k102, n102⟩, -, X102, ⟨Lc102, hQ102, l102, y102, z102⟩, st102⟩ := X101.privateBack hx (y := (⟨"com/example/otaniemi/otaniemi/Pending", "move", "(II)V"⟩ : MethodName)) hown (mvT hZ (oH hw 150 rfl)) (mvT hZ (oH hw 151 rfl)) (own_selP (args := #[]) (mvT hZ (oH hw 55 rfl)) (mvP hZ (oH hw 152 rfl)) (mvT hZ (oH hw 151 rfl)) (by decide)) (Cond.privateMethod_at (mvP hZ (oH hw 152 rfl) (args := #[]))) (mvT hZ (oH hw 153 rfl)) (by decide) (backOf (W := 0) (rmMv11A l Z a0 hw [] p0 fa kf (2 : Int32) (.ref x0) va kv v0 v1 y0 T96.heap n0 Z96 c96_Ep0 c96_Fp0_found c96_Fp0_foundCount c96_Fp0_passed c96_Fp0_values g_p0 g_fa Vf96 O_fa g_va nfv Vv96 c96_Uy0.2.1) hZ (oH hw 153 rfl) (oH hw 56 rfl) (by decide) (by decide)) (g := (mkF m 28 #[.val (.ref p0), .val (.int gd), .val (.int 1), .val (.int 1)] [(.int 1), (.int 1), (.ref p0)])) rfl (by rw [hml]; rfl) (Steps.refl _) (a := p0) (by rw [eh101]; exact qp102) qp102' (argsL := [(.int 1), (.int 1)]) (rest := []) (lenOf pd_318 rfl) rfl (by show 2 * 0 + _ ≤ _; exact Nat.le_of_eq rfl) (hb hby d20_28) (fun _ _ => ⟨rfl, eh101, (by decide : 0 + 0 ≤ _), (by decide : 0 + 0 ≤ _)⟩)
        dsimp only [Pt.U, Pt.locs, Pt.cells, Pt.slots] at X102 l102 y102 z102 st102 hQ102
        subst l102 y102 z102
        obtain ⟨rfl, Nq102, Kc102, Vf102, Vv102⟩ := hQ102
        have Kt102 := Kt96.trans Kc102 (fun x hx => by simp only [List.mem_cons, List.mem_singleton, List.not_mem_nil, or_false] at hx; rcases hx with rfl | rfl <;> first | (left; simp; done) | (right; assumption))
        have N102 := Fr.app N101 Nq102
        have Z102 : n0 ≤ T102.heap.size := Nat.le_trans Z96 Kc102.1
        have c102_Ep0 := c96_Ep0.keep Kc102
        have c102_Fp0_found := c96_Fp0_found.keep Kc102 (ninS npf (ninS npv nin0))
        have c102_Fp0_foundCount := c96_Fp0_foundCount.keep Kc102 (ninS npf (ninS npv nin0))
        have c102_Fp0_passed := c96_Fp0_passed.keep Kc102 (ninS npf (ninS npv nin0))
        have c102_Fp0_values := c96_Fp0_values.keep Kc102 (ninS npf (ninS npv nin0))
        have c102_Ux0 := c96_Ux0.kp (own_Kp.keep Kc102 (own_gS g_fa (own_gS g_va own_g0)))
        have c102_Uy0 := c96_Uy0.kp (own_Kp.keep Kc102 (own_gS g_fa (own_gS g_va own_g0)))
        refine own_goT (S' := (T102.setTop (mkF m 31 #[.val (.ref p0), .val (.int gd), .val (.int 1), .val (.int 1)] []))) st102 ?_
        refine own_go (S' := (T102.setTop (mkF m 34 #[.val (.ref p0), .val (.int gd), .val (.int ((1 : Int32) + (1 : Int32))), .val (.int 1)] []))) (fun _ kont => XS.iinc X102.here hx rfl (hb hby d20_31) rfl (l' := #[.val (.ref p0), .val (.int gd), .val (.int ((1 : Int32) + (1 : Int32))), .val (.int 1)]) rfl kont) ?_
        rw [show ((1 : Int32) + (1 : Int32)) = (2 : Int32) from by decide]
        refine own_go (S' := (T102.setTop (mkF m 37 #[.val (.ref p0), .val (.int gd), .val (.int 2), .val (.int ((1 : Int32) + (1 : Int32)))] []))) (fun _ kont => XS.iinc X102.here hx rfl (hb hby d20_34) rfl (l' := #[.val (.ref p0), .val (.int gd), .val (.int 2), .val (.int ((1 : Int32) + (1 : Int32)))]) rfl kont) ?_
        rw [show ((1 : Int32) + (1 : Int32)) = (2 : Int32) from by decide]
        refine own_go (S' := (T102.setTop (mkF m 6 #[.val (.ref p0), .val (.int gd), .val (.int 2), .val (.int 2)] [(.ref p0), (.int 2)]))) (fun _ kont => XS.goto X102.here hx rfl (pc0 := 37) (pc' := 4) rfl (hb hby d20_37) (by decide) (by decide) (XS.iloadN X102.here hx rfl (hb hby d20_4) rfl (XS.aloadN X102.here hx rfl (hb hby d20_5) rfl rfl kont))) ?_
        obtain ⟨T103, X103, e103, st103⟩ := getF X102 hx hZ hown (host := "") (Or.inl (oH hw 74 rfl)) Via.refl rfl c102_Fp0_foundCount (g := (mkF m 6 #[.val (.ref p0), .val (.int gd), .val (.int 2), .val (.int 2)] [(.ref p0), (.int 2)])) rfl rfl (hb hby d20_6)
        refine own_go (S' := (T103.setTop (mkF m 9 #[.val (.ref p0), .val (.int gd), .val (.int 2), .val (.int 2)] [(.int 2), (.int 2)]))) st103 ?_
        refine own_go (S' := (T103.setTop (mkF m 42 #[.val (.ref p0), .val (.int gd), .val (.int 2), .val (.int 2)] [(.int 2), (.ref p0)]))) (fun _ kont => XS.icmpYes X103.here hx rfl (pc0 := 9) (pc' := 40) rfl (hb hby d20_9) rfl (flt (by decide)).2.1 (by decide) (by decide) (XS.aloadN X103.here hx rfl (hb hby d20_40) rfl rfl (XS.iloadN X103.here hx rfl (hb hby d20_41) rfl kont))) ?_
        obtain ⟨T104, h104, X104, e104, W104, st104⟩ := putF X103 hx hZ hown (host := "") (Or.inl (oH hw 74 rfl)) Via.refl e103 c102_Fp0_foundCount c102_Ep0 (Or.inl (oH hw 75 rfl)) (oH hw 55 rfl) (ty := .int) (by decide) rfl rfl (g := (mkF m 42 #[.val (.ref p0), .val (.int gd), .val (.int 2), .val (.int 2)] [(.int 2), (.ref p0)])) rfl rfl (hb hby d20_42)
        have c104_Ep0 := c102_Ep0.wr W104
        have c104_Fp0_found := c102_Fp0_found.other W104 (Or.inr (slot_ne (Or.inl (oH hw 64 rfl)) (Or.inl (oH hw 75 rfl)) (by decide) (by decide : parseFieldDescriptor "[Lcom/example/otaniemi/otaniemi/State;" = some (.array (.object "com/example/otaniemi/otaniemi/State"))) (by decide : parseFieldDescriptor "I" = some .int)))
        have c104_Fp0_foundCount := c102_Fp0_foundCount.same W104
        have c104_Fp0_passed := c102_Fp0_passed.other W104 (Or.inr (slot_ne (Or.inl (oH hw 125 rfl)) (Or.inl (oH hw 75 rfl)) (by decide) (by decide : parseFieldDescriptor "Lcom/example/otaniemi/otaniemi/Pending$Passed;" = some (.object "com/example/otaniemi/otaniemi/Pending$Passed")) (by decide : parseFieldDescriptor "I" = some .int)))
        have c104_Fp0_values := c102_Fp0_values.other W104 (Or.inr (slot_ne (Or.inl (oH hw 123 rfl)) (Or.inl (oH hw 75 rfl)) (by decide) (by decide : parseFieldDescriptor "[J" = some (.array .long)) (by decide : parseFieldDescriptor "I" = some .int)))
        have c104_Ux0 := c102_Ux0.kp (own_Kp.wr W104 g_p0)
        have c104_Uy0 := c102_Uy0.kp (own_Kp.wr W104 g_p0)
        have c104_Vfa := Vf102.other W104 (Ne.symm npf)
        have c104_Vva := Vv102.other W104 (Ne.symm npv)
        have K104 := Kt102.wr W104 (Or.inl (List.mem_of_getElem? (i := 0) rfl))
        have N104 := Fr.snoc X104 N102 g_p0
        have Z104 : n0 ≤ h104.size := Nat.le_trans Z102 (Nat.le_of_eq W104.size.symm)
        refine own_go (S' := (T104.setTop (mkF m 45 #[.val (.ref p0), .val (.int gd), .val (.int 2), .val (.int 2)] []))) st104 ?_
        refine own_ret0 X104 hx hlk Bd.returns (hb hby d20_45) (by decide) (by decide) ?_
        rw [e104]
        exact ⟨rfl, N104, own_Kp.keep K104 (own_gS g_p0 (own_gS g_fa (own_gS g_va own_g0))), Or.inl ⟨_, c104_Ep0, c104_Fp0_foundCount, by decide, own_r2_11 _ _ _ _⟩⟩
theorem d8_0 : decode prog_64_method_4_code 0 = .ok (.aload_n 0, 1) := by decide +kernel
theorem d8_1 : decode prog_64_method_4_code 1 = .ok (.getfield 15, 3) := by decide +kernel
theorem d8_4 : decode prog_64_method_4_code 4 = .ok (.iconst 1, 1) := by decide +kernel
theorem d8_5 : decode prog_64_method_4_code 5 = .ok (.if_icmp .ne 25, 3) := by decide +kernel
theorem d8_30 : decode prog_64_method_4_code 30 = .ok (.iconst 0, 1) := by decide +kernel
theorem d8_31 : decode prog_64_method_4_code 31 = .ok (.istore_n 1, 1) := by decide +kernel
theorem d8_32 : decode prog_64_method_4_code 32 = .ok (.iload_n 1, 1) := by decide +kernel
theorem d8_33 : decode prog_64_method_4_code 33 = .ok (.ifCond .eq 12, 3) := by decide +kernel
theorem d8_45 : decode prog_64_method_4_code 45 = .ok (.aconst_null, 1) := by decide +kernel
theorem d8_46 : decode prog_64_method_4_code 46 = .ok (.areturn, 1) := by decide +kernel
theorem d8_8 : decode prog_64_method_4_code 8 = .ok (.aload_n 0, 1) := by decide +kernel
theorem d8_9 : decode prog_64_method_4_code 9 = .ok (.getfield 19, 3) := by decide +kernel
theorem d8_12 : decode prog_64_method_4_code 12 = .ok (.ifnull 14, 3) := by decide +kernel
theorem d8_26 : decode prog_64_method_4_code 26 = .ok (.iconst 1, 1) := by decide +kernel
theorem d8_27 : decode prog_64_method_4_code 27 = .ok (.goto 4, 3) := by decide +kernel
theorem d8_36 : decode prog_64_method_4_code 36 = .ok (.aload_n 0, 1) := by decide +kernel
theorem d8_37 : decode prog_64_method_4_code 37 = .ok (.getfield 9, 3) := by decide +kernel
theorem d8_40 : decode prog_64_method_4_code 40 = .ok (.iconst 0, 1) := by decide +kernel
theorem d8_41 : decode prog_64_method_4_code 41 = .ok (.aaload, 1) := by decide +kernel
theorem d8_42 : decode prog_64_method_4_code 42 = .ok (.goto 4, 3) := by decide +kernel
theorem d8_15 : decode prog_64_method_4_code 15 = .ok (.aload_n 0, 1) := by decide +kernel
theorem d8_16 : decode prog_64_method_4_code 16 = .ok (.getfield 19, 3) := by decide +kernel
theorem d8_19 : decode prog_64_method_4_code 19 = .ok (.iconst 0, 1) := by decide +kernel
theorem d8_20 : decode prog_64_method_4_code 20 = .ok (.laload, 1) := by decide +kernel
theorem d8_21 : decode prog_64_method_4_code 21 = .ok (.lconst 0, 1) := by decide +kernel
theorem d8_22 : decode prog_64_method_4_code 22 = .ok (.lcmp, 1) := by decide +kernel
theorem d8_23 : decode prog_64_method_4_code 23 = .ok (.ifCond .ne 7, 3) := by decide +kernel
theorem ef_rmGe (m : MethodId) (x0 : Addr) : entryFrame m #[(.ref x0)] 2 = mkF m 0 #[.val (.ref x0), .unset] [] := by first | (simp [entryFrame, mkF, argsToLocals, Value.category]; done) | rfl
def Q_rmGe (Z : State) (p0 : Addr) (rr : Value) (h0 : Heap) (n0 : Nat) (v : Option Value) (h : Heap) (L : List Loc) : Prop := v = some rr ∧ h = h0 ∧ L = []
set_option maxRecDepth 65536 in
set_option maxHeartbeats 40000000 in
theorem rmGe (l : Launch) (Z : State) (a0 : Array Value) (hw : ∀ d ∈ tables_1, d.before a0 Z = true) (ws : List Jvm.Cond) (p0 : Addr) (rr : Value) (h0 : Heap) (n0 : Nat) (Z0 : n0 ≤ h0.size) (P : own_R Z h0 n0 p0 rr) :
    MetFree l (⟨"com/example/otaniemi/otaniemi/Pending", "getSoleEnd", "()Lcom/example/otaniemi/otaniemi/State;"⟩ : MethodName) (head1 (Jvm.Cond.code (⟨"com/example/otaniemi/otaniemi/Pending", "getSoleEnd", "()Lcom/example/otaniemi/otaniemi/State;"⟩ : MethodName) prog_64_method_4_code 2 (some (.object "com/example/otaniemi/otaniemi/State")) :: ws) ({ frames := 0, cells := 0, slots := 0, locals := 0 } : Room)) (fun a U => a = #[(.ref p0)] ∧ Z.Warmed39 U.vm ∧ U.heap = h0) (fun _ _ _ _ _ => True) (fun _ U o U' => ∃ v L, o = .returned v ∧ Q_rmGe Z p0 rr h0 n0 v U'.heap L ∧ FrameEnd U o U' L ({ frames := 0, cells := 0, slots := 0, locals := 0 } : Room).cells ({ frames := 0, cells := 0, slots := 0, locals := 0 } : Room).slots) := by
  refine MetFree.of_bodySF (plainFor_of_name pn_151) hisR ?_
  intro p e s m args below meth c s₁ Bd hml0 hP hK
  obtain ⟨rfl, hZ, hh⟩ := hP
  have hx := Bd.exec
  have hby := Bd.bytes
  have hlk := Bd.notSynchronized
  have hml : c.maxLocals = 2 := hml0
  have hown : s.vm.findClass "com/example/otaniemi/otaniemi/Pending" = some m.cls := findClass_of_methodNamed Bd.named
  have hnm := (name_of_methodNamed Bd.named Bd.method).1
  have X0 : Stand p l e ({ frames := 0, cells := 0, slots := 0, locals := 0 } : Room) s m #[(.ref p0)] below meth c s₁ [] 0 0 := Stand.of_body Bd
  have e0 : s₁.heap = h0 := by rw [← hh, Bd.state]; rfl
  have N0 := Fr.nil n0
  change own_Go p e below s (Q_rmGe Z p0 rr h0 n0) ({ frames := 0, cells := 0, slots := 0, locals := 0 } : Room).cells ({ frames := 0, cells := 0, slots := 0, locals := 0 } : Room).slots _
  refine own_go (S' := (s₁.setTop (mkF m 0 #[.val (.ref p0), .unset] []))) (fun _ kont => castTop (ef_rmGe m p0) kont) ?_
  rcases P with ⟨kc, E_p0, F_p0_foundCount, hk, rfl⟩ | ⟨fa, kf, f1, x0, HC, hm⟩
  · refine own_go (S' := (s₁.setTop (mkF m 1 #[.val (.ref p0), .unset] [(.ref p0)]))) (fun _ kont => XS.aloadN X0.here hx rfl (hb hby d8_0) rfl rfl kont) ?_
    obtain ⟨T1, X1, e1, st1⟩ := getF X0 hx hZ hown (host := "") (Or.inl (oH hw 74 rfl)) Via.refl e0 F_p0_foundCount (g := (mkF m 1 #[.val (.ref p0), .unset] [(.ref p0)])) rfl rfl (hb hby d8_1)
    refine own_go (S' := (T1.setTop (mkF m 4 #[.val (.ref p0), .unset] [(.int kc)]))) st1 ?_
    refine own_go (S' := (T1.setTop (mkF m 46 #[.val (.ref p0), .val (.int 0)] [.null]))) (fun _ kont => XS.iconst X1.here hx rfl (hb hby d8_4) (XS.icmpYes X1.here hx rfl (pc0 := 5) (pc' := 30) rfl (hb hby d8_5) rfl (feq hk).2 (by decide) (by decide) (XS.iconst X1.here hx rfl (hb hby d8_30) (XS.istoreN X1.here hx rfl (hb hby d8_31) rfl (l' := #[.val (.ref p0), .val (.int 0)]) rfl (XS.iloadN X1.here hx rfl (hb hby d8_32) rfl (XS.ifYes X1.here hx rfl (pc0 := 33) (pc' := 45) rfl (hb hby d8_33) rfl ((if0 _ _).trans (teq (by decide)).1) (by decide) (by decide) (XS.aconstNull X1.here hx rfl (hb hby d8_45) kont))))))) ?_
    refine own_retA X1 hx hlk (rfl) rfl Bd.returns (hb hby d8_46) (by decide) (by decide) ?_
    exact ⟨rfl, e1, rfl⟩
  · rcases hm with ⟨HN, rfl⟩ | ⟨va, kv, v0, v1, HV, hv⟩
    · obtain ⟨g_p0, g_fa, E_p0, F_p0_found, F_p0_foundCount, F_p0_passed, V_fa, O_fa⟩ := HC
      have F_p0_values := HN
      unfold own_Vn at F_p0_values
      have npf := E_p0.neArv V_fa (oH hw 55 rfl)
      refine own_go (S' := (s₁.setTop (mkF m 1 #[.val (.ref p0), .unset] [(.ref p0)]))) (fun _ kont => XS.aloadN X0.here hx rfl (hb hby d8_0) rfl rfl kont) ?_
      obtain ⟨T2, X2, e2, st2⟩ := getF X0 hx hZ hown (host := "") (Or.inl (oH hw 74 rfl)) Via.refl e0 F_p0_foundCount (g := (mkF m 1 #[.val (.ref p0), .unset] [(.ref p0)])) rfl rfl (hb hby d8_1)
      refine own_go (S' := (T2.setTop (mkF m 4 #[.val (.ref p0), .unset] [(.int 1)]))) st2 ?_
      refine own_go (S' := (T2.setTop (mkF m 9 #[.val (.ref p0), .unset] [(.ref p0)]))) (fun _ kont => XS.iconst X2.here hx rfl (hb hby d8_4) (XS.icmpNo X2.here hx rfl (hb hby d8_5) rfl (teq (by decide)).2 (XS.aloadN X2.here hx rfl (hb hby d8_8) rfl rfl kont))) ?_
      obtain ⟨T3, X3, e3, st3⟩ := getF X2 hx hZ hown (host := "") (Or.inl (oH hw 122 rfl)) Via.refl e2 F_p0_values (g := (mkF m 9 #[.val (.ref p0), .unset] [(.ref p0)])) rfl rfl (hb hby d8_9)
      refine own_go (S' := (T3.setTop (mkF m 12 #[.val (.ref p0), .unset] [.null]))) st3 ?_
      refine own_go (S' := (T3.setTop (mkF m 37 #[.val (.ref p0), .val (.int 1)] [(.ref p0)]))) (fun _ kont => XS.ifnullYes X3.here hx rfl (pc0 := 12) (pc' := 26) rfl (hb hby d8_12) rfl (by decide) (by decide) (XS.iconst X3.here hx rfl (hb hby d8_26) (XS.goto X3.here hx rfl (pc0 := 27) (pc' := 31) rfl (hb hby d8_27) (by decide) (by decide) (XS.istoreN X3.here hx rfl (hb hby d8_31) rfl (l' := #[.val (.ref p0), .val (.int 1)]) rfl (XS.iloadN X3.here hx rfl (hb hby d8_32) rfl (XS.ifNo X3.here hx rfl (hb hby d8_33) rfl ((if0 _ _).trans (feq (by decide)).1) (XS.aloadN X3.here hx rfl (hb hby d8_36) rfl rfl kont))))))) ?_
      obtain ⟨T4, X4, e4, st4⟩ := getF X3 hx hZ hown (host := "") (Or.inl (oH hw 63 rfl)) Via.refl e3 F_p0_found (g := (mkF m 37 #[.val (.ref p0), .val (.int 1)] [(.ref p0)])) rfl rfl (hb hby d8_37)
      refine own_go (S' := (T4.setTop (mkF m 40 #[.val (.ref p0), .val (.int 1)] [(.ref fa)]))) st4 ?_
      refine own_go (S' := (T4.setTop (mkF m 41 #[.val (.ref p0), .val (.int 1)] [(.int 0), (.ref fa)]))) (fun _ kont => XS.iconst X4.here hx rfl (hb hby d8_40) kont) ?_
      obtain ⟨cl5, Ar5, -, S5, -, H5, -⟩ := id V_fa
      have hin5 := inb_of (j := (0 : Int32)) S5 ⟨by decide, by decide⟩
      have hat5 := Has.at (v := (.ref x0)) H5 hin5 (by first | rfl | decide)
      refine own_go (S' := (T4.setTop (mkF m 42 #[.val (.ref p0), .val (.int 1)] [(.ref x0)]))) (fun _ kont => X4.aaload hx (j := (0 : Int32)) (v := (.ref x0)) (by rw [e4]; exact Ar5.1) (State.isArrayOf_alike hZ.alike Ar5.2.1) rfl Ar5.2.2 hin5 hat5 (g := (mkF m 41 #[.val (.ref p0), .val (.int 1)] [(.int 0), (.ref fa)])) rfl rfl (hb hby d8_41) _ kont) ?_
      refine own_go (S' := (T4.setTop (mkF m 46 #[.val (.ref p0), .val (.int 1)] [(.ref x0)]))) (fun _ kont => XS.goto X4.here hx rfl (pc0 := 42) (pc' := 46) rfl (hb hby d8_42) (by decide) (by decide) kont) ?_
      refine own_retA X4 hx hlk (rfl) rfl Bd.returns (hb hby d8_46) (by decide) (by decide) ?_
      exact ⟨rfl, e4, rfl⟩
    · obtain ⟨g_p0, g_fa, E_p0, F_p0_found, F_p0_foundCount, F_p0_passed, V_fa, O_fa⟩ := HC
      obtain ⟨g_va, nfv, F_p0_values, V_va⟩ := HV
      have npf := E_p0.neArv V_fa (oH hw 55 rfl)
      have npv := E_p0.neArv V_va (oH hw 55 rfl)
      rcases hv with ⟨hv, rfl⟩ | ⟨hv, rfl⟩
      · refine own_go (S' := (s₁.setTop (mkF m 1 #[.val (.ref p0), .unset] [(.ref p0)]))) (fun _ kont => XS.aloadN X0.here hx rfl (hb hby d8_0) rfl rfl kont) ?_
        obtain ⟨T6, X6, e6, st6⟩ := getF X0 hx hZ hown (host := "") (Or.inl (oH hw 74 rfl)) Via.refl e0 F_p0_foundCount (g := (mkF m 1 #[.val (.ref p0), .unset] [(.ref p0)])) rfl rfl (hb hby d8_1)
        refine own_go (S' := (T6.setTop (mkF m 4 #[.val (.ref p0), .unset] [(.int 1)]))) st6 ?_
        refine own_go (S' := (T6.setTop (mkF m 9 #[.val (.ref p0), .unset] [(.ref p0)]))) (fun _ kont => XS.iconst X6.here hx rfl (hb hby d8_4) (XS.icmpNo X6.here hx rfl (hb hby d8_5) rfl (teq (by decide)).2 (XS.aloadN X6.here hx rfl (hb hby d8_8) rfl rfl kont))) ?_
        obtain ⟨T7, X7, e7, st7⟩ := getF X6 hx hZ hown (host := "") (Or.inl (oH hw 122 rfl)) Via.refl e6 F_p0_values (g := (mkF m 9 #[.val (.ref p0), .unset] [(.ref p0)])) rfl rfl (hb hby d8_9)
        refine own_go (S' := (T7.setTop (mkF m 12 #[.val (.ref p0), .unset] [(.ref va)]))) st7 ?_
        refine own_go (S' := (T7.setTop (mkF m 16 #[.val (.ref p0), .unset] [(.ref p0)]))) (fun _ kont => XS.ifnullNo X7.here hx rfl (hb hby d8_12) rfl (XS.aloadN X7.here hx rfl (hb hby d8_15) rfl rfl kont)) ?_
        obtain ⟨T8, X8, e8, st8⟩ := getF X7 hx hZ hown (host := "") (Or.inl (oH hw 122 rfl)) Via.refl e7 F_p0_values (g := (mkF m 16 #[.val (.ref p0), .unset] [(.ref p0)])) rfl rfl (hb hby d8_16)
        refine own_go (S' := (T8.setTop (mkF m 19 #[.val (.ref p0), .unset] [(.ref va)]))) st8 ?_
        refine own_go (S' := (T8.setTop (mkF m 20 #[.val (.ref p0), .unset] [(.int 0), (.ref va)]))) (fun _ kont => XS.iconst X8.here hx rfl (hb hby d8_19) kont) ?_
        obtain ⟨cl9, Ar9, -, S9, -, H9, -⟩ := id V_va
        have hin9 := inb_of (j := (0 : Int32)) S9 ⟨by decide, by decide⟩
        have hat9 := Has.at (v := (.long v0)) H9 hin9 (by first | rfl | decide)
        refine own_go (S' := (T8.setTop (mkF m 21 #[.val (.ref p0), .unset] [(.long v0)]))) (fun _ kont => X8.laload hx (j := (0 : Int32)) (v := (.long v0)) (by rw [e8]; exact Ar9.1) (State.isArrayOf_alike hZ.alike Ar9.2.1) Ar9.2.2 hin9 hat9 (g := (mkF m 20 #[.val (.ref p0), .unset] [(.int 0), (.ref va)])) rfl rfl (hb hby d8_20) _ kont) ?_
        refine own_go (S' := (T8.setTop (mkF m 36 #[.val (.ref p0), .val (.int 1)] []))) (fun _ kont => XS.lconst X8.here hx rfl (hb hby d8_21) (XS.lcmp X8.here hx rfl (hb hby d8_22) rfl (XS.ifNo X8.here hx rfl (hb hby d8_23) rfl ((if0 _ _).trans (teq (own_leq hv)).2) (XS.iconst X8.here hx rfl (hb hby d8_26) (XS.goto X8.here hx rfl (pc0 := 27) (pc' := 31) rfl (hb hby d8_27) (by decide) (by decide) (XS.istoreN X8.here hx rfl (hb hby d8_31) rfl (l' := #[.val (.ref p0), .val (.int 1)]) rfl (XS.iloadN X8.here hx rfl (hb hby d8_32) rfl (XS.ifNo X8.here hx rfl (hb hby d8_33) rfl ((if0 _ _).trans (feq (by decide)).1) kont)))))))) ?_
        refine own_go (S' := (T8.setTop (mkF m 37 #[.val (.ref p0), .val (.int 1)] [(.ref p0)]))) (fun _ kont => XS.aloadN X8.here hx rfl (hb hby d8_36) rfl rfl kont) ?_
        obtain ⟨T10, X10, e10, st10⟩ := getF X8 hx hZ hown (host := "") (Or.inl (oH hw 63 rfl)) Via.refl e8 F_p0_found (g := (mkF m 37 #[.val (.ref p0), .val (.int 1)] [(.ref p0)])) rfl rfl (hb hby d8_37)
        refine own_go (S' := (T10.setTop (mkF m 40 #[.val (.ref p0), .val (.int 1)] [(.ref fa)]))) st10 ?_
        refine own_go (S' := (T10.setTop (mkF m 41 #[.val (.ref p0), .val (.int 1)] [(.int 0), (.ref fa)]))) (fun _ kont => XS.iconst X10.here hx rfl (hb hby d8_40) kont) ?_
        obtain ⟨cl11, Ar11, -, S11, -, H11, -⟩ := id V_fa
        have hin11 := inb_of (j := (0 : Int32)) S11 ⟨by decide, by decide⟩
        have hat11 := Has.at (v := (.ref x0)) H11 hin11 (by first | rfl | decide)
        refine own_go (S' := (T10.setTop (mkF m 42 #[.val (.ref p0), .val (.int 1)] [(.ref x0)]))) (fun _ kont => X10.aaload hx (j := (0 : Int32)) (v := (.ref x0)) (by rw [e10]; exact Ar11.1) (State.isArrayOf_alike hZ.alike Ar11.2.1) rfl Ar11.2.2 hin11 hat11 (g := (mkF m 41 #[.val (.ref p0), .val (.int 1)] [(.int 0), (.ref fa)])) rfl rfl (hb hby d8_41) _ kont) ?_
        refine own_go (S' := (T10.setTop (mkF m 46 #[.val (.ref p0), .val (.int 1)] [(.ref x0)]))) (fun _ kont => XS.goto X10.here hx rfl (pc0 := 42) (pc' := 46) rfl (hb hby d8_42) (by decide) (by decide) kont) ?_
        refine own_retA X10 hx hlk (rfl) rfl Bd.returns (hb hby d8_46) (by decide) (by decide) ?_
        exact ⟨rfl, e10, rfl⟩
      · refine own_go (S' := (s₁.setTop (mkF m 1 #[.val (.ref p0), .unset] [(.ref p0)]))) (fun _ kont => XS.aloadN X0.here hx rfl (hb hby d8_0) rfl rfl kont) ?_
        obtain ⟨T12, X12, e12, st12⟩ := getF X0 hx hZ hown (host := "") (Or.inl (oH hw 74 rfl)) Via.refl e0 F_p0_foundCount (g := (mkF m 1 #[.val (.ref p0), .unset] [(.ref p0)])) rfl rfl (hb hby d8_1)
        refine own_go (S' := (T12.setTop (mkF m 4 #[.val (.ref p0), .unset] [(.int 1)]))) st12 ?_
        refine own_go (S' := (T12.setTop (mkF m 9 #[.val (.ref p0), .unset] [(.ref p0)]))) (fun _ kont => XS.iconst X12.here hx rfl (hb hby d8_4) (XS.icmpNo X12.here hx rfl (hb hby d8_5) rfl (teq (by decide)).2 (XS.aloadN X12.here hx rfl (hb hby d8_8) rfl rfl kont))) ?_
        obtain ⟨T13, X13, e13, st13⟩ := getF X12 hx hZ hown (host := "") (Or.inl (oH hw 122 rfl)) Via.refl e12 F_p0_values (g := (mkF m 9 #[.val (.ref p0), .unset] [(.ref p0)])) rfl rfl (hb hby d8_9)
        refine own_go (S' := (T13.setTop (mkF m 12 #[.val (.ref p0), .unset] [(.ref va)]))) st13 ?_
        refine own_go (S' := (T13.setTop (mkF m 16 #[.val (.ref p0), .unset] [(.ref p0)]))) (fun _ kont => XS.ifnullNo X13.here hx rfl (hb hby d8_12) rfl (XS.aloadN X13.here hx rfl (hb hby d8_15) rfl rfl kont)) ?_
        obtain ⟨T14, X14, e14, st14⟩ := getF X13 hx hZ hown (host := "") (Or.inl (oH hw 122 rfl)) Via.refl e13 F_p0_values (g := (mkF m 16 #[.val (.ref p0), .unset] [(.ref p0)])) rfl rfl (hb hby d8_16)
        refine own_go (S' := (T14.setTop (mkF m 19 #[.val (.ref p0), .unset] [(.ref va)]))) st14 ?_
        refine own_go (S' := (T14.setTop (mkF m 20 #[.val (.ref p0), .unset] [(.int 0), (.ref va)]))) (fun _ kont => XS.iconst X14.here hx rfl (hb hby d8_19) kont) ?_
        obtain ⟨cl15, Ar15, -, S15, -, H15, -⟩ := id V_va
        have hin15 := inb_of (j := (0 : Int32)) S15 ⟨by decide, by decide⟩
        have hat15 := Has.at (v := (.long v0)) H15 hin15 (by first | rfl | decide)
        refine own_go (S' := (T14.setTop (mkF m 21 #[.val (.ref p0), .unset] [(.long v0)]))) (fun _ kont => X14.laload hx (j := (0 : Int32)) (v := (.long v0)) (by rw [e14]; exact Ar15.1) (State.isArrayOf_alike hZ.alike Ar15.2.1) Ar15.2.2 hin15 hat15 (g := (mkF m 20 #[.val (.ref p0), .unset] [(.int 0), (.ref va)])) rfl rfl (hb hby d8_20) _ kont) ?_
        refine own_go (S' := (T14.setTop (mkF m 46 #[.val (.ref p0), .val (.int 0)] [.null]))) (fun _ kont => XS.lconst X14.here hx rfl (hb hby d8_21) (XS.lcmp X14.here hx rfl (hb hby d8_22) rfl (XS.ifYes X14.here hx rfl (pc0 := 23) (pc' := 30) rfl (hb hby d8_23) rfl ((if0 _ _).trans (feq (own_lne hv)).2) (by decide) (by decide) (XS.iconst X14.here hx rfl (hb hby d8_30) (XS.istoreN X14.here hx rfl (hb hby d8_31) rfl (l' := #[.val (.ref p0), .val (.int 0)]) rfl (XS.iloadN X14.here hx rfl (hb hby d8_32) rfl (XS.ifYes X14.here hx rfl (pc0 := 33) (pc' := 45) rfl (hb hby d8_33) rfl ((if0 _ _).trans (teq (by decide)).1) (by decide) (by decide) (XS.aconstNull X14.here hx rfl (hb hby d8_45) kont)))))))) ?_
        refine own_retA X14 hx hlk (rfl) rfl Bd.returns (hb hby d8_46) (by decide) (by decide) ?_
        exact ⟨rfl, e14, rfl⟩
theorem pd_402 : parseMethodDescriptor "()Lcom/example/otaniemi/otaniemi/State;" = some ⟨[], some (.object "com/example/otaniemi/otaniemi/State")⟩ := by decide +kernel
theorem pd_403 : parseMethodDescriptor "(I)V" = some ⟨[.int], none⟩ := by decide +kernel
theorem pd_404 : parseMethodDescriptor "(Lcom/example/otaniemi/otaniemi/Pending;ILcom/example/otaniemi/otaniemi/State;Lcom/example/otaniemi/otaniemi/State;)V" = some ⟨[(.object "com/example/otaniemi/otaniemi/Pending"), .int, (.object "com/example/otaniemi/otaniemi/State"), (.object "com/example/otaniemi/otaniemi/State")], none⟩ := by decide +kernel
theorem pd_405 : parseMethodDescriptor "(ILcom/example/otaniemi/otaniemi/State;Lcom/example/otaniemi/otaniemi/State$Edge;Ljava/lang/String;)V" = some ⟨[.int, (.object "com/example/otaniemi/otaniemi/State"), (.object "com/example/otaniemi/otaniemi/State$Edge"), (.object "java/lang/String")], none⟩ := by decide +kernel
theorem ef_rm0 (m : MethodId) (x0 : Int32) (x1 : Int32) (x2 : Int32) (x3 : Int32) : entryFrame m #[(.int x0), (.int x1), (.int x2), (.int x3)] maxLocals = mkF m 0 #[.val (.int x0), .val (.int x1), .val (.int x2), .val (.int x3), .unset, .unset, .unset, .unset, .unset, .unset, .unset, .unset, .unset, .unset, .unset, .unset, .unset, .unset] [] := by first | (simp [entryFrame, mkF, argsToLocals, Value.category, maxLocals]; done) | rfl
def Q_rm0 (Z : State) (i0 i1 i2 i3 : Int32) (aN aI aD aG : Addr) (kI : ClassId) (h0 : Heap) (n0 : Nat) (v : Option Value) (h : Heap) (L : List Loc) : Prop := v = some (.int 1) ∧ Fr n0 L
set_option maxRecDepth 65536 in
set_option maxHeartbeats 40000000 in
theorem rm0 (l : Launch) (Z : State) (a0 : Array Value) (hw : ∀ d ∈ tables_1, d.before a0 Z = true) (ws : List Jvm.Cond) (i0 i1 i2 i3 : Int32) (aN aI aD aG : Addr) (kI : ClassId) (h0 : Heap) (n0 : Nat) (Z0 : n0 ≤ h0.size) (S_NONE : Sta Z h0 "com/example/otaniemi/otaniemi/State$PredicateParts" "NONE" "Lcom/example/otaniemi/otaniemi/State$PredicateParts;" (.ref aN)) (S_NO_IDS : Sta Z h0 "com/example/otaniemi/otaniemi/State" "NO_IDS" "[I" (.ref aI)) (S_DESCENDANTS : Sta Z h0 "com/example/otaniemi/otaniemi/State$Edge" "DESCENDANTS" "Lcom/example/otaniemi/otaniemi/State$Edge;" (.ref aD)) (S_GUARD : Sta Z h0 "com/example/otaniemi/otaniemi/State$Edge" "GUARD" "Lcom/example/otaniemi/otaniemi/State$Edge;" (.ref aG)) (E_N : Exa Z h0 aN "com/example/otaniemi/otaniemi/State$PredicateParts") (F_N : Fld Z h0 aN "com/example/otaniemi/otaniemi/State$PredicateParts" "counted" "Z" (.int 0)) (V_I : Arv Z h0 aI kI .int (0 : Int32) [] (.int 0)) (hn0 : n0 = h0.size) :
    MetFree l x (head1 (Jvm.Cond.code x code maxLocals ret :: ws) room_1) (fun a U => a = #[(.int i0), (.int i1), (.int i2), (.int i3)] ∧ Z.Warmed39 U.vm ∧ U.heap = h0) (fun _ _ _ _ _ => True) (fun _ U o U' => ∃ v L, o = .returned v ∧ Q_rm0 Z i0 i1 i2 i3 aN aI aD aG kI h0 n0 v U'.heap L ∧ FrameEnd U o U' L room_1.cells room_1.slots) := by
  refine MetFree.of_bodySF (plainFor_of_name pn_347) hisR ?_
  intro p e s m args below meth c s₁ Bd hml0 hP hK
  obtain ⟨rfl, hZ, hh⟩ := hP
  have hx := Bd.exec
  have hby := Bd.bytes
  have hlk := Bd.notSynchronized
  have hml : c.maxLocals = 18 := hml0
  have hown : s.vm.findClass "com/example/otaniemi/otaniemi/PendingGetSoleEndPinLaw" = some m.cls := findClass_of_methodNamed Bd.named
  have hnm := (name_of_methodNamed Bd.named Bd.method).1
  have X0 : Stand p l e room_1 s m #[(.int i0), (.int i1), (.int i2), (.int i3)] below meth c s₁ [] 0 0 := Stand.of_body Bd
  have e0 : s₁.heap = h0 := by rw [← hh, Bd.state]; rfl
  have N0 := Fr.nil n0
  change own_Go p e below s (Q_rm0 Z i0 i1 i2 i3 aN aI aD aG kI h0 n0) room_1.cells room_1.slots _
  refine own_go (S' := (s₁.setTop (mkF m 0 #[.val (.int i0), .val (.int i1), .val (.int i2), .val (.int i3), .unset, .unset, .unset, .unset, .unset, .unset, .unset, .unset, .unset, .unset, .unset, .unset, .unset, .unset] []))) (fun _ kont => castTop (ef_rm0 m i0 i1 i2 i3) kont) ?_
  have K83 : ∀ (ca cb da db c1 c2 kp : Int32) (hca : ca = 0 ∨ ca = 1) (hcb : cb = 0 ∨ cb = 1) (hda : da = 0 ∨ da = 1) (hdb : db = 0 ∨ db = 1) (hkp : kp = 0 ∨ kp = 1), own_Go p e below s (Q_rm0 Z i0 i1 i2 i3 aN aI aD aG kI h0 n0) room_1.cells room_1.slots (s₁.setTop (mkF m 83 #[.val (.int i0), .val (.int i1), .val (.int i2), .val (.int i3), .val (.int ca), .val (.int cb), .val (.int da), .val (.int db), .val (.int c1), .val (.int c2), .val (.int kp), .unset, .unset, .unset, .unset, .unset, .unset, .unset] [])) := by
    intro ca cb da db c1 c2 kp hca hcb hda hdb hkp
    have K195 : ∀ (wa wb : Int32) (hha : wa = 0 ∨ wa = 1) (hhb : wb = 0 ∨ wb = 1) (hA : wa = own_has c1 c2 1) (hB : wb = own_has c1 c2 2) (sa sb p0 : Addr) (rr : Value) (hrf : rr.isRef = true) (nP : Nat) (Tk : State) (lk : List Loc) (Xk : Stand p l e room_1 s m #[(.int i0), (.int i1), (.int i2), (.int i3)] below meth c Tk lk 10 68) (Zk : n0 ≤ Tk.heap.size) (Nk : Fr n0 lk) (hnP : nP ≤ Tk.heap.size) (P : own_R Z Tk.heap nP p0 rr) (hr : rr = if kp = 0 then own_r2 wa ca sa wb cb sb else own_r2 (own_and wa da) ca sa (own_and wb db) cb sb), own_Go p e below s (Q_rm0 Z i0 i1 i2 i3 aN aI aD aG kI h0 n0) room_1.cells room_1.slots (Tk.setTop (mkF m 195 #[.val (.int i0), .val (.int i1), .val (.int i2), .val (.int i3), .val (.int ca), .val (.int cb), .val (.int da), .val (.int db), .val (.int c1), .val (.int c2), .val (.int kp), .val (.ref sa), .val (.ref sb), .val (.ref p0), .unset, .unset, .unset, .unset] [])) := by
      intro wa wb hha hhb hA hB sa sb p0 rr hrf nP Tk lk Xk Zk Nk hnP P hr
      have E_p0 := P.E
      have hcat := own_rcat hrf
      refine own_go (S' := (Tk.setTop (mkF m 197 #[.val (.int i0), .val (.int i1), .val (.int i2), .val (.int i3), .val (.int ca), .val (.int cb), .val (.int da), .val (.int db), .val (.int c1), .val (.int c2), .val (.int kp), .val (.ref sa), .val (.ref sb), .val (.ref p0), .unset, .unset, .unset, .unset] [(.ref p0)]))) (fun _ kont => XS.aload Xk.here hx rfl (hb hby at_195) rfl rfl kont) ?_
      obtain ⟨cq1, kq1, q1a, q1b, q1c⟩ := isOf hZ rfl E_p0
      obtain ⟨v1, _, ⟨T1, L1, k1, n1⟩, -, X1, ⟨Lc1, hQ1, l1, y1, z1⟩, st1⟩ := Xk.virtualBack hx (y := (⟨"com/example/otaniemi/otaniemi/Pending", "getSoleEnd", "()Lcom/example/otaniemi/otaniemi/State;"⟩ : MethodName)) (z := (⟨"com/example/otaniemi/otaniemi/Pending", "getSoleEnd", "()Lcom/example/otaniemi/otaniemi/State;"⟩ : MethodName)) hown (mvT hZ (oH hw 69 rfl)) (mvT hZ (oH hw 70 rfl)) (notFace_of_selects (args := #[]) (mvT hZ (oH hw 72 rfl))) (mvT hZ (oH hw 72 rfl)) (mvT hZ (oH hw 71 rfl)) (by decide) (backOf (W := 0) (rmGe l Z a0 hw [] p0 rr Tk.heap nP hnP P) hZ (oH hw 73 rfl) (oH hw 56 rfl) (by decide) (by decide)) q1a q1c (g := (mkF m 197 #[.val (.int i0), .val (.int i1), .val (.int i2), .val (.int i3), .val (.int ca), .val (.int cb), .val (.int da), .val (.int db), .val (.int c1), .val (.int c2), .val (.int kp), .val (.ref sa), .val (.ref sb), .val (.ref p0), .unset, .unset, .unset, .unset] [(.ref p0)])) rfl (by rw [hml]; rfl) (Steps.refl _) (argsL := []) (rest := []) (lenOf pd_402 rfl) rfl (by show 2 * 0 + _ ≤ _; exact Nat.le_of_eq rfl) (hb hby at_197) (fun _ _ => ⟨rfl, rfl, (by decide : 10 + 0 ≤ _), (by decide : 68 + 0 ≤ _)⟩)
      dsimp only [Pt.U, Pt.locs, Pt.cells, Pt.slots] at X1 l1 y1 z1 st1 hQ1
      subst l1 y1 z1
      obtain ⟨rfl, eh1, rfl⟩ := hQ1
      have N1 := Fr.app Nk (Fr.nil n0)
      refine own_goT (S' := (T1.setTop (mkF m 200 #[.val (.int i0), .val (.int i1), .val (.int i2), .val (.int i3), .val (.int ca), .val (.int cb), .val (.int da), .val (.int db), .val (.int c1), .val (.int c2), .val (.int kp), .val (.ref sa), .val (.ref sb), .val (.ref p0), .unset, .unset, .unset, .unset] [rr]))) st1 ?_
      refine own_go (S' := (T1.setTop (mkF m 202 #[.val (.int i0), .val (.int i1), .val (.int i2), .val (.int i3), .val (.int ca), .val (.int cb), .val (.int da), .val (.int db), .val (.int c1), .val (.int c2), .val (.int kp), .val (.ref sa), .val (.ref sb), .val (.ref p0), .val rr, .unset, .unset, .unset] []))) (fun _ kont => XS.astoreS X1.here hx rfl (hb hby at_200) rfl hrf hcat rfl (Or.inl rfl) kont) ?_
      have K279 : ∀ (h1 h2 : Int32) (q1 : h1 = 0 ∨ h1 = 1) (q2 : h2 = 0 ∨ h2 = 1) (hr2 : rr = own_r2 h1 ca sa h2 cb sb), own_Go p e below s (Q_rm0 Z i0 i1 i2 i3 aN aI aD aG kI h0 n0) room_1.cells room_1.slots (T1.setTop (mkF m 279 #[.val (.int i0), .val (.int i1), .val (.int i2), .val (.int i3), .val (.int ca), .val (.int cb), .val (.int da), .val (.int db), .val (.int c1), .val (.int c2), .val (.int kp), .val (.ref sa), .val (.ref sb), .val (.ref p0), .val rr, .val (.int h1), .val (.int h2), .unset] [])) := by
        intro h1 h2 q1 q2 hr2
        rcases q1 with rfl | rfl
        · rcases q2 with rfl | rfl
          · rcases hca with rfl | rfl
            · rcases hcb with rfl | rfl
              · obtain rfl : rr = .null := hr2.trans (by simp only [own_r2_00, own_r2_10, own_r2_01, own_r2_11, own_r1_0, own_r1_10, own_r1_11])
                refine own_go (S' := (T1.setTop (mkF m 324 #[.val (.int i0), .val (.int i1), .val (.int i2), .val (.int i3), .val (.int 0), .val (.int 0), .val (.int da), .val (.int db), .val (.int c1), .val (.int c2), .val (.int kp), .val (.ref sa), .val (.ref sb), .val (.ref p0), .val .null, .val (.int 0), .val (.int 0), .val .null] [.null, .null]))) (fun _ kont => XS.aconstNull X1.here hx rfl (hb hby at_279) (XS.astore X1.here hx rfl (hb hby at_280) rfl rfl (l' := #[.val (.int i0), .val (.int i1), .val (.int i2), .val (.int i3), .val (.int 0), .val (.int 0), .val (.int da), .val (.int db), .val (.int c1), .val (.int c2), .val (.int kp), .val (.ref sa), .val (.ref sb), .val (.ref p0), .val .null, .val (.int 0), .val (.int 0), .val .null]) rfl (XS.iload X1.here hx rfl (hb hby at_282) rfl (XS.ifYes X1.here hx rfl (pc0 := 284) (pc' := 301) rfl (hb hby at_284) rfl ((if0 _ _).trans (teq (by decide)).1) (by decide) (by decide) (XS.iload X1.here hx rfl (hb hby at_301) rfl (XS.ifYes X1.here hx rfl (pc0 := 303) (pc' := 320) rfl (hb hby at_303) rfl ((if0 _ _).trans (teq (by decide)).1) (by decide) (by decide) (XS.aload X1.here hx rfl (hb hby at_320) rfl rfl (XS.aload X1.here hx rfl (hb hby at_322) rfl rfl kont)))))))) ?_
                refine own_go (S' := (T1.setTop (mkF m 332 #[.val (.int i0), .val (.int i1), .val (.int i2), .val (.int i3), .val (.int 0), .val (.int 0), .val (.int da), .val (.int db), .val (.int c1), .val (.int c2), .val (.int kp), .val (.ref sa), .val (.ref sb), .val (.ref p0), .val .null, .val (.int 0), .val (.int 0), .val .null] [(.int 1)]))) (fun _ kont => Jvm.RoadKit.acmp (g := (mkF m 324 #[.val (.int i0), .val (.int i1), .val (.int i2), .val (.int i3), .val (.int 0), .val (.int 0), .val (.int da), .val (.int db), .val (.int c1), .val (.int c2), .val (.int kp), .val (.ref sa), .val (.ref sb), .val (.ref p0), .val .null, .val (.int 0), .val (.int 0), .val .null] [.null, .null])) X1 hx rfl rfl rfl (pc0 := 324) (pc' := 327) (same := true) rfl (hb hby at_324) rfl (decide_eq_true rfl) (by decide) (by decide) (XS.iconst X1.here hx rfl (hb hby at_327) (XS.goto X1.here hx rfl (pc0 := 328) (pc' := 332) rfl (hb hby at_328) (by decide) (by decide) kont))) ?_
                refine own_retN (t := .boolean) X1 hx hlk (by simp) Bd.returns (hb hby at_332) (by decide) (by decide) ?_
                exact ⟨rfl, N1⟩
              · obtain rfl : rr = .null := hr2.trans (by simp only [own_r2_00, own_r2_10, own_r2_01, own_r2_11, own_r1_0, own_r1_10, own_r1_11])
                refine own_go (S' := (T1.setTop (mkF m 324 #[.val (.int i0), .val (.int i1), .val (.int i2), .val (.int i3), .val (.int 0), .val (.int 1), .val (.int da), .val (.int db), .val (.int c1), .val (.int c2), .val (.int kp), .val (.ref sa), .val (.ref sb), .val (.ref p0), .val .null, .val (.int 0), .val (.int 0), .val .null] [.null, .null]))) (fun _ kont => XS.aconstNull X1.here hx rfl (hb hby at_279) (XS.astore X1.here hx rfl (hb hby at_280) rfl rfl (l' := #[.val (.int i0), .val (.int i1), .val (.int i2), .val (.int i3), .val (.int 0), .val (.int 1), .val (.int da), .val (.int db), .val (.int c1), .val (.int c2), .val (.int kp), .val (.ref sa), .val (.ref sb), .val (.ref p0), .val .null, .val (.int 0), .val (.int 0), .val .null]) rfl (XS.iload X1.here hx rfl (hb hby at_282) rfl (XS.ifYes X1.here hx rfl (pc0 := 284) (pc' := 301) rfl (hb hby at_284) rfl ((if0 _ _).trans (teq (by decide)).1) (by decide) (by decide) (XS.iload X1.here hx rfl (hb hby at_301) rfl (XS.ifYes X1.here hx rfl (pc0 := 303) (pc' := 320) rfl (hb hby at_303) rfl ((if0 _ _).trans (teq (by decide)).1) (by decide) (by decide) (XS.aload X1.here hx rfl (hb hby at_320) rfl rfl (XS.aload X1.here hx rfl (hb hby at_322) rfl rfl kont)))))))) ?_
                refine own_go (S' := (T1.setTop (mkF m 332 #[.val (.int i0), .val (.int i1), .val (.int i2), .val (.int i3), .val (.int 0), .val (.int 1), .val (.int da), .val (.int db), .val (.int c1), .val (.int c2), .val (.int kp), .val (.ref sa), .val (.ref sb), .val (.ref p0), .val .null, .val (.int 0), .val (.int 0), .val .null] [(.int 1)]))) (fun _ kont => Jvm.RoadKit.acmp (g := (mkF m 324 #[.val (.int i0), .val (.int i1), .val (.int i2), .val (.int i3), .val (.int 0), .val (.int 1), .val (.int da), .val (.int db), .val (.int c1), .val (.int c2), .val (.int kp), .val (.ref sa), .val (.ref sb), .val (.ref p0), .val .null, .val (.int 0), .val (.int 0), .val .null] [.null, .null])) X1 hx rfl rfl rfl (pc0 := 324) (pc' := 327) (same := true) rfl (hb hby at_324) rfl (decide_eq_true rfl) (by decide) (by decide) (XS.iconst X1.here hx rfl (hb hby at_327) (XS.goto X1.here hx rfl (pc0 := 328) (pc' := 332) rfl (hb hby at_328) (by decide) (by decide) kont))) ?_
                refine own_retN (t := .boolean) X1 hx hlk (by simp) Bd.returns (hb hby at_332) (by decide) (by decide) ?_
                exact ⟨rfl, N1⟩
            · rcases hcb with rfl | rfl
              · obtain rfl : rr = .null := hr2.trans (by simp only [own_r2_00, own_r2_10, own_r2_01, own_r2_11, own_r1_0, own_r1_10, own_r1_11])
                refine own_go (S' := (T1.setTop (mkF m 324 #[.val (.int i0), .val (.int i1), .val (.int i2), .val (.int i3), .val (.int 1), .val (.int 0), .val (.int da), .val (.int db), .val (.int c1), .val (.int c2), .val (.int kp), .val (.ref sa), .val (.ref sb), .val (.ref p0), .val .null, .val (.int 0), .val (.int 0), .val .null] [.null, .null]))) (fun _ kont => XS.aconstNull X1.here hx rfl (hb hby at_279) (XS.astore X1.here hx rfl (hb hby at_280) rfl rfl (l' := #[.val (.int i0), .val (.int i1), .val (.int i2), .val (.int i3), .val (.int 1), .val (.int 0), .val (.int da), .val (.int db), .val (.int c1), .val (.int c2), .val (.int kp), .val (.ref sa), .val (.ref sb), .val (.ref p0), .val .null, .val (.int 0), .val (.int 0), .val .null]) rfl (XS.iload X1.here hx rfl (hb hby at_282) rfl (XS.ifYes X1.here hx rfl (pc0 := 284) (pc' := 301) rfl (hb hby at_284) rfl ((if0 _ _).trans (teq (by decide)).1) (by decide) (by decide) (XS.iload X1.here hx rfl (hb hby at_301) rfl (XS.ifYes X1.here hx rfl (pc0 := 303) (pc' := 320) rfl (hb hby at_303) rfl ((if0 _ _).trans (teq (by decide)).1) (by decide) (by decide) (XS.aload X1.here hx rfl (hb hby at_320) rfl rfl (XS.aload X1.here hx rfl (hb hby at_322) rfl rfl kont)))))))) ?_
                refine own_go (S' := (T1.setTop (mkF m 332 #[.val (.int i0), .val (.int i1), .val (.int i2), .val (.int i3), .val (.int 1), .val (.int 0), .val (.int da), .val (.int db), .val (.int c1), .val (.int c2), .val (.int kp), .val (.ref sa), .val (.ref sb), .val (.ref p0), .val .null, .val (.int 0), .val (.int 0), .val .null] [(.int 1)]))) (fun _ kont => Jvm.RoadKit.acmp (g := (mkF m 324 #[.val (.int i0), .val (.int i1), .val (.int i2), .val (.int i3), .val (.int 1), .val (.int 0), .val (.int da), .val (.int db), .val (.int c1), .val (.int c2), .val (.int kp), .val (.ref sa), .val (.ref sb), .val (.ref p0), .val .null, .val (.int 0), .val (.int 0), .val .null] [.null, .null])) X1 hx rfl rfl rfl (pc0 := 324) (pc' := 327) (same := true) rfl (hb hby at_324) rfl (decide_eq_true rfl) (by decide) (by decide) (XS.iconst X1.here hx rfl (hb hby at_327) (XS.goto X1.here hx rfl (pc0 := 328) (pc' := 332) rfl (hb hby at_328) (by decide) (by decide) kont))) ?_
                refine own_retN (t := .boolean) X1 hx hlk (by simp) Bd.returns (hb hby at_332) (by decide) (by decide) ?_
                exact ⟨rfl, N1⟩
              · obtain rfl : rr = .null := hr2.trans (by simp only [own_r2_00, own_r2_10, own_r2_01, own_r2_11, own_r1_0, own_r1_10, own_r1_11])
                refine own_go (S' := (T1.setTop (mkF m 324 #[.val (.int i0), .val (.int i1), .val (.int i2), .val (.int i3), .val (.int 1), .val (.int 1), .val (.int da), .val (.int db), .val (.int c1), .val (.int c2), .val (.int kp), .val (.ref sa), .val (.ref sb), .val (.ref p0), .val .null, .val (.int 0), .val (.int 0), .val .null] [.null, .null]))) (fun _ kont => XS.aconstNull X1.here hx rfl (hb hby at_279) (XS.astore X1.here hx rfl (hb hby at_280) rfl rfl (l' := #[.val (.int i0), .val (.int i1), .val (.int i2), .val (.int i3), .val (.int 1), .val (.int 1), .val (.int da), .val (.int db), .val (.int c1), .val (.int c2), .val (.int kp), .val (.ref sa), .val (.ref sb), .val (.ref p0), .val .null, .val (.int 0), .val (.int 0), .val .null]) rfl (XS.iload X1.here hx rfl (hb hby at_282) rfl (XS.ifYes X1.here hx rfl (pc0 := 284) (pc' := 301) rfl (hb hby at_284) rfl ((if0 _ _).trans (teq (by decide)).1) (by decide) (by decide) (XS.iload X1.here hx rfl (hb hby at_301) rfl (XS.ifYes X1.here hx rfl (pc0 := 303) (pc' := 320) rfl (hb hby at_303) rfl ((if0 _ _).trans (teq (by decide)).1) (by decide) (by decide) (XS.aload X1.here hx rfl (hb hby at_320) rfl rfl (XS.aload X1.here hx rfl (hb hby at_322) rfl rfl kont)))))))) ?_
                refine own_go (S' := (T1.setTop (mkF m 332 #[.val (.int i0), .val (.int i1), .val (.int i2), .val (.int i3), .val (.int 1), .val (.int 1), .val (.int da), .val (.int db), .val (.int c1), .val (.int c2), .val (.int kp), .val (.ref sa), .val (.ref sb), .val (.ref p0), .val .null, .val (.int 0), .val (.int 0), .val .null] [(.int 1)]))) (fun _ kont => Jvm.RoadKit.acmp (g := (mkF m 324 #[.val (.int i0), .val (.int i1), .val (.int i2), .val (.int i3), .val (.int 1), .val (.int 1), .val (.int da), .val (.int db), .val (.int c1), .val (.int c2), .val (.int kp), .val (.ref sa), .val (.ref sb), .val (.ref p0), .val .null, .val (.int 0), .val (.int 0), .val .null] [.null, .null])) X1 hx rfl rfl rfl (pc0 := 324) (pc' := 327) (same := true) rfl (hb hby at_324) rfl (decide_eq_true rfl) (by decide) (by decide) (XS.iconst X1.here hx rfl (hb hby at_327) (XS.goto X1.here hx rfl (pc0 := 328) (pc' := 332) rfl (hb hby at_328) (by decide) (by decide) kont))) ?_
                refine own_retN (t := .boolean) X1 hx hlk (by simp) Bd.returns (hb hby at_332) (by decide) (by decide) ?_
                exact ⟨rfl, N1⟩
          · rcases hca with rfl | rfl
            · rcases hcb with rfl | rfl
              · obtain rfl : rr = (.ref sb) := hr2.trans (by simp only [own_r2_00, own_r2_10, own_r2_01, own_r2_11, own_r1_0, own_r1_10, own_r1_11])
                refine own_go (S' := (T1.setTop (mkF m 311 #[.val (.int i0), .val (.int i1), .val (.int i2), .val (.int i3), .val (.int 0), .val (.int 0), .val (.int da), .val (.int db), .val (.int c1), .val (.int c2), .val (.int kp), .val (.ref sa), .val (.ref sb), .val (.ref p0), .val (.ref sb), .val (.int 0), .val (.int 1), .val .null] []))) (fun _ kont => XS.aconstNull X1.here hx rfl (hb hby at_279) (XS.astore X1.here hx rfl (hb hby at_280) rfl rfl (l' := #[.val (.int i0), .val (.int i1), .val (.int i2), .val (.int i3), .val (.int 0), .val (.int 0), .val (.int da), .val (.int db), .val (.int c1), .val (.int c2), .val (.int kp), .val (.ref sa), .val (.ref sb), .val (.ref p0), .val (.ref sb), .val (.int 0), .val (.int 1), .val .null]) rfl (XS.iload X1.here hx rfl (hb hby at_282) rfl (XS.ifYes X1.here hx rfl (pc0 := 284) (pc' := 301) rfl (hb hby at_284) rfl ((if0 _ _).trans (teq (by decide)).1) (by decide) (by decide) (XS.iload X1.here hx rfl (hb hby at_301) rfl (XS.ifNo X1.here hx rfl (hb hby at_303) rfl ((if0 _ _).trans (feq (by decide)).1) (XS.iload X1.here hx rfl (hb hby at_306) rfl (XS.ifNo X1.here hx rfl (hb hby at_308) rfl ((if0 _ _).trans (teq (by decide)).2) kont)))))))) ?_
                refine own_go (S' := (T1.setTop (mkF m 328 #[.val (.int i0), .val (.int i1), .val (.int i2), .val (.int i3), .val (.int 0), .val (.int 0), .val (.int da), .val (.int db), .val (.int c1), .val (.int c2), .val (.int kp), .val (.ref sa), .val (.ref sb), .val (.ref p0), .val (.ref sb), .val (.int 0), .val (.int 1), .val (.ref sb)] [(.int 1)]))) (fun _ kont => XS.iload X1.here hx rfl (hb hby at_311) rfl (XS.ifNo X1.here hx rfl (hb hby at_313) rfl ((if0 _ _).trans (teq (by decide)).2) (XS.aload X1.here hx rfl (hb hby at_316) rfl rfl (XS.astore X1.here hx rfl (hb hby at_318) rfl rfl (l' := #[.val (.int i0), .val (.int i1), .val (.int i2), .val (.int i3), .val (.int 0), .val (.int 0), .val (.int da), .val (.int db), .val (.int c1), .val (.int c2), .val (.int kp), .val (.ref sa), .val (.ref sb), .val (.ref p0), .val (.ref sb), .val (.int 0), .val (.int 1), .val (.ref sb)]) rfl (XS.aload X1.here hx rfl (hb hby at_320) rfl rfl (XS.aload X1.here hx rfl (hb hby at_322) rfl rfl (Jvm.RoadKit.acmp (g := (mkF m 324 #[.val (.int i0), .val (.int i1), .val (.int i2), .val (.int i3), .val (.int 0), .val (.int 0), .val (.int da), .val (.int db), .val (.int c1), .val (.int c2), .val (.int kp), .val (.ref sa), .val (.ref sb), .val (.ref p0), .val (.ref sb), .val (.int 0), .val (.int 1), .val (.ref sb)] [(.ref sb), (.ref sb)])) X1 hx rfl rfl rfl (pc0 := 324) (pc' := 327) (same := true) rfl (hb hby at_324) rfl (decide_eq_true rfl) (by decide) (by decide) (XS.iconst X1.here hx rfl (hb hby at_327) kont)))))))) ?_
                refine own_go (S' := (T1.setTop (mkF m 332 #[.val (.int i0), .val (.int i1), .val (.int i2), .val (.int i3), .val (.int 0), .val (.int 0), .val (.int da), .val (.int db), .val (.int c1), .val (.int c2), .val (.int kp), .val (.ref sa), .val (.ref sb), .val (.ref p0), .val (.ref sb), .val (.int 0), .val (.int 1), .val (.ref sb)] [(.int 1)]))) (fun _ kont => XS.goto X1.here hx rfl (pc0 := 328) (pc' := 332) rfl (hb hby at_328) (by decide) (by decide) kont) ?_
                refine own_retN (t := .boolean) X1 hx hlk (by simp) Bd.returns (hb hby at_332) (by decide) (by decide) ?_
                exact ⟨rfl, N1⟩
              · obtain rfl : rr = .null := hr2.trans (by simp only [own_r2_00, own_r2_10, own_r2_01, own_r2_11, own_r1_0, own_r1_10, own_r1_11])
                refine own_go (S' := (T1.setTop (mkF m 311 #[.val (.int i0), .val (.int i1), .val (.int i2), .val (.int i3), .val (.int 0), .val (.int 1), .val (.int da), .val (.int db), .val (.int c1), .val (.int c2), .val (.int kp), .val (.ref sa), .val (.ref sb), .val (.ref p0), .val .null, .val (.int 0), .val (.int 1), .val .null] []))) (fun _ kont => XS.aconstNull X1.here hx rfl (hb hby at_279) (XS.astore X1.here hx rfl (hb hby at_280) rfl rfl (l' := #[.val (.int i0), .val (.int i1), .val (.int i2), .val (.int i3), .val (.int 0), .val (.int 1), .val (.int da), .val (.int db), .val (.int c1), .val (.int c2), .val (.int kp), .val (.ref sa), .val (.ref sb), .val (.ref p0), .val .null, .val (.int 0), .val (.int 1), .val .null]) rfl (XS.iload X1.here hx rfl (hb hby at_282) rfl (XS.ifYes X1.here hx rfl (pc0 := 284) (pc' := 301) rfl (hb hby at_284) rfl ((if0 _ _).trans (teq (by decide)).1) (by decide) (by decide) (XS.iload X1.here hx rfl (hb hby at_301) rfl (XS.ifNo X1.here hx rfl (hb hby at_303) rfl ((if0 _ _).trans (feq (by decide)).1) (XS.iload X1.here hx rfl (hb hby at_306) rfl (XS.ifNo X1.here hx rfl (hb hby at_308) rfl ((if0 _ _).trans (teq (by decide)).2) kont)))))))) ?_
                refine own_go (S' := (T1.setTop (mkF m 332 #[.val (.int i0), .val (.int i1), .val (.int i2), .val (.int i3), .val (.int 0), .val (.int 1), .val (.int da), .val (.int db), .val (.int c1), .val (.int c2), .val (.int kp), .val (.ref sa), .val (.ref sb), .val (.ref p0), .val .null, .val (.int 0), .val (.int 1), .val .null] [(.int 1)]))) (fun _ kont => XS.iload X1.here hx rfl (hb hby at_311) rfl (XS.ifYes X1.here hx rfl (pc0 := 313) (pc' := 320) rfl (hb hby at_313) rfl ((if0 _ _).trans (feq (by decide)).2) (by decide) (by decide) (XS.aload X1.here hx rfl (hb hby at_320) rfl rfl (XS.aload X1.here hx rfl (hb hby at_322) rfl rfl (Jvm.RoadKit.acmp (g := (mkF m 324 #[.val (.int i0), .val (.int i1), .val (.int i2), .val (.int i3), .val (.int 0), .val (.int 1), .val (.int da), .val (.int db), .val (.int c1), .val (.int c2), .val (.int kp), .val (.ref sa), .val (.ref sb), .val (.ref p0), .val .null, .val (.int 0), .val (.int 1), .val .null] [.null, .null])) X1 hx rfl rfl rfl (pc0 := 324) (pc' := 327) (same := true) rfl (hb hby at_324) rfl (decide_eq_true rfl) (by decide) (by decide) (XS.iconst X1.here hx rfl (hb hby at_327) (XS.goto X1.here hx rfl (pc0 := 328) (pc' := 332) rfl (hb hby at_328) (by decide) (by decide) kont))))))) ?_
                refine own_retN (t := .boolean) X1 hx hlk (by simp) Bd.returns (hb hby at_332) (by decide) (by decide) ?_
                exact ⟨rfl, N1⟩
            · rcases hcb with rfl | rfl
              · obtain rfl : rr = (.ref sb) := hr2.trans (by simp only [own_r2_00, own_r2_10, own_r2_01, own_r2_11, own_r1_0, own_r1_10, own_r1_11])
                refine own_go (S' := (T1.setTop (mkF m 311 #[.val (.int i0), .val (.int i1), .val (.int i2), .val (.int i3), .val (.int 1), .val (.int 0), .val (.int da), .val (.int db), .val (.int c1), .val (.int c2), .val (.int kp), .val (.ref sa), .val (.ref sb), .val (.ref p0), .val (.ref sb), .val (.int 0), .val (.int 1), .val .null] []))) (fun _ kont => XS.aconstNull X1.here hx rfl (hb hby at_279) (XS.astore X1.here hx rfl (hb hby at_280) rfl rfl (l' := #[.val (.int i0), .val (.int i1), .val (.int i2), .val (.int i3), .val (.int 1), .val (.int 0), .val (.int da), .val (.int db), .val (.int c1), .val (.int c2), .val (.int kp), .val (.ref sa), .val (.ref sb), .val (.ref p0), .val (.ref sb), .val (.int 0), .val (.int 1), .val .null]) rfl (XS.iload X1.here hx rfl (hb hby at_282) rfl (XS.ifYes X1.here hx rfl (pc0 := 284) (pc' := 301) rfl (hb hby at_284) rfl ((if0 _ _).trans (teq (by decide)).1) (by decide) (by decide) (XS.iload X1.here hx rfl (hb hby at_301) rfl (XS.ifNo X1.here hx rfl (hb hby at_303) rfl ((if0 _ _).trans (feq (by decide)).1) (XS.iload X1.here hx rfl (hb hby at_306) rfl (XS.ifNo X1.here hx rfl (hb hby at_308) rfl ((if0 _ _).trans (teq (by decide)).2) kont)))))))) ?_
                refine own_go (S' := (T1.setTop (mkF m 328 #[.val (.int i0), .val (.int i1), .val (.int i2), .val (.int i3), .val (.int 1), .val (.int 0), .val (.int da), .val (.int db), .val (.int c1), .val (.int c2), .val (.int kp), .val (.ref sa), .val (.ref sb), .val (.ref p0), .val (.ref sb), .val (.int 0), .val (.int 1), .val (.ref sb)] [(.int 1)]))) (fun _ kont => XS.iload X1.here hx rfl (hb hby at_311) rfl (XS.ifNo X1.here hx rfl (hb hby at_313) rfl ((if0 _ _).trans (teq (by decide)).2) (XS.aload X1.here hx rfl (hb hby at_316) rfl rfl (XS.astore X1.here hx rfl (hb hby at_318) rfl rfl (l' := #[.val (.int i0), .val (.int i1), .val (.int i2), .val (.int i3), .val (.int 1), .val (.int 0), .val (.int da), .val (.int db), .val (.int c1), .val (.int c2), .val (.int kp), .val (.ref sa), .val (.ref sb), .val (.ref p0), .val (.ref sb), .val (.int 0), .val (.int 1), .val (.ref sb)]) rfl (XS.aload X1.here hx rfl (hb hby at_320) rfl rfl (XS.aload X1.here hx rfl (hb hby at_322) rfl rfl (Jvm.RoadKit.acmp (g := (mkF m 324 #[.val (.int i0), .val (.int i1), .val (.int i2), .val (.int i3), .val (.int 1), .val (.int 0), .val (.int da), .val (.int db), .val (.int c1), .val (.int c2), .val (.int kp), .val (.ref sa), .val (.ref sb), .val (.ref p0), .val (.ref sb), .val (.int 0), .val (.int 1), .val (.ref sb)] [(.ref sb), (.ref sb)])) X1 hx rfl rfl rfl (pc0 := 324) (pc' := 327) (same := true) rfl (hb hby at_324) rfl (decide_eq_true rfl) (by decide) (by decide) (XS.iconst X1.here hx rfl (hb hby at_327) kont)))))))) ?_
                refine own_go (S' := (T1.setTop (mkF m 332 #[.val (.int i0), .val (.int i1), .val (.int i2), .val (.int i3), .val (.int 1), .val (.int 0), .val (.int da), .val (.int db), .val (.int c1), .val (.int c2), .val (.int kp), .val (.ref sa), .val (.ref sb), .val (.ref p0), .val (.ref sb), .val (.int 0), .val (.int 1), .val (.ref sb)] [(.int 1)]))) (fun _ kont => XS.goto X1.here hx rfl (pc0 := 328) (pc' := 332) rfl (hb hby at_328) (by decide) (by decide) kont) ?_
                refine own_retN (t := .boolean) X1 hx hlk (by simp) Bd.returns (hb hby at_332) (by decide) (by decide) ?_
                exact ⟨rfl, N1⟩
              · obtain rfl : rr = .null := hr2.trans (by simp only [own_r2_00, own_r2_10, own_r2_01, own_r2_11, own_r1_0, own_r1_10, own_r1_11])
                refine own_go (S' := (T1.setTop (mkF m 311 #[.val (.int i0), .val (.int i1), .val (.int i2), .val (.int i3), .val (.int 1), .val (.int 1), .val (.int da), .val (.int db), .val (.int c1), .val (.int c2), .val (.int kp), .val (.ref sa), .val (.ref sb), .val (.ref p0), .val .null, .val (.int 0), .val (.int 1), .val .null] []))) (fun _ kont => XS.aconstNull X1.here hx rfl (hb hby at_279) (XS.astore X1.here hx rfl (hb hby at_280) rfl rfl (l' := #[.val (.int i0), .val (.int i1), .val (.int i2), .val (.int i3), .val (.int 1), .val (.int 1), .val (.int da), .val (.int db), .val (.int c1), .val (.int c2), .val (.int kp), .val (.ref sa), .val (.ref sb), .val (.ref p0), .val .null, .val (.int 0), .val (.int 1), .val .null]) rfl (XS.iload X1.here hx rfl (hb hby at_282) rfl (XS.ifYes X1.here hx rfl (pc0 := 284) (pc' := 301) rfl (hb hby at_284) rfl ((if0 _ _).trans (teq (by decide)).1) (by decide) (by decide) (XS.iload X1.here hx rfl (hb hby at_301) rfl (XS.ifNo X1.here hx rfl (hb hby at_303) rfl ((if0 _ _).trans (feq (by decide)).1) (XS.iload X1.here hx rfl (hb hby at_306) rfl (XS.ifNo X1.here hx rfl (hb hby at_308) rfl ((if0 _ _).trans (teq (by decide)).2) kont)))))))) ?_
                refine own_go (S' := (T1.setTop (mkF m 332 #[.val (.int i0), .val (.int i1), .val (.int i2), .val (.int i3), .val (.int 1), .val (.int 1), .val (.int da), .val (.int db), .val (.int c1), .val (.int c2), .val (.int kp), .val (.ref sa), .val (.ref sb), .val (.ref p0), .val .null, .val (.int 0), .val (.int 1), .val .null] [(.int 1)]))) (fun _ kont => XS.iload X1.here hx rfl (hb hby at_311) rfl (XS.ifYes X1.here hx rfl (pc0 := 313) (pc' := 320) rfl (hb hby at_313) rfl ((if0 _ _).trans (feq (by decide)).2) (by decide) (by decide) (XS.aload X1.here hx rfl (hb hby at_320) rfl rfl (XS.aload X1.here hx rfl (hb hby at_322) rfl rfl (Jvm.RoadKit.acmp (g := (mkF m 324 #[.val (.int i0), .val (.int i1), .val (.int i2), .val (.int i3), .val (.int 1), .val (.int 1), .val (.int da), .val (.int db), .val (.int c1), .val (.int c2), .val (.int kp), .val (.ref sa), .val (.ref sb), .val (.ref p0), .val .null, .val (.int 0), .val (.int 1), .val .null] [.null, .null])) X1 hx rfl rfl rfl (pc0 := 324) (pc' := 327) (same := true) rfl (hb hby at_324) rfl (decide_eq_true rfl) (by decide) (by decide) (XS.iconst X1.here hx rfl (hb hby at_327) (XS.goto X1.here hx rfl (pc0 := 328) (pc' := 332) rfl (hb hby at_328) (by decide) (by decide) kont))))))) ?_
                refine own_retN (t := .boolean) X1 hx hlk (by simp) Bd.returns (hb hby at_332) (by decide) (by decide) ?_
                exact ⟨rfl, N1⟩
        · rcases q2 with rfl | rfl
          · rcases hca with rfl | rfl
            · rcases hcb with rfl | rfl
              · obtain rfl : rr = (.ref sa) := hr2.trans (by simp only [own_r2_00, own_r2_10, own_r2_01, own_r2_11, own_r1_0, own_r1_10, own_r1_11])
                refine own_go (S' := (T1.setTop (mkF m 297 #[.val (.int i0), .val (.int i1), .val (.int i2), .val (.int i3), .val (.int 0), .val (.int 0), .val (.int da), .val (.int db), .val (.int c1), .val (.int c2), .val (.int kp), .val (.ref sa), .val (.ref sb), .val (.ref p0), .val (.ref sa), .val (.int 1), .val (.int 0), .val .null] []))) (fun _ kont => XS.aconstNull X1.here hx rfl (hb hby at_279) (XS.astore X1.here hx rfl (hb hby at_280) rfl rfl (l' := #[.val (.int i0), .val (.int i1), .val (.int i2), .val (.int i3), .val (.int 0), .val (.int 0), .val (.int da), .val (.int db), .val (.int c1), .val (.int c2), .val (.int kp), .val (.ref sa), .val (.ref sb), .val (.ref p0), .val (.ref sa), .val (.int 1), .val (.int 0), .val .null]) rfl (XS.iload X1.here hx rfl (hb hby at_282) rfl (XS.ifNo X1.here hx rfl (hb hby at_284) rfl ((if0 _ _).trans (feq (by decide)).1) (XS.iload X1.here hx rfl (hb hby at_287) rfl (XS.ifNo X1.here hx rfl (hb hby at_289) rfl ((if0 _ _).trans (teq (by decide)).2) (XS.iload X1.here hx rfl (hb hby at_292) rfl (XS.ifNo X1.here hx rfl (hb hby at_294) rfl ((if0 _ _).trans (teq (by decide)).2) kont)))))))) ?_
                refine own_go (S' := (T1.setTop (mkF m 328 #[.val (.int i0), .val (.int i1), .val (.int i2), .val (.int i3), .val (.int 0), .val (.int 0), .val (.int da), .val (.int db), .val (.int c1), .val (.int c2), .val (.int kp), .val (.ref sa), .val (.ref sb), .val (.ref p0), .val (.ref sa), .val (.int 1), .val (.int 0), .val (.ref sa)] [(.int 1)]))) (fun _ kont => XS.aload X1.here hx rfl (hb hby at_297) rfl rfl (XS.astore X1.here hx rfl (hb hby at_299) rfl rfl (l' := #[.val (.int i0), .val (.int i1), .val (.int i2), .val (.int i3), .val (.int 0), .val (.int 0), .val (.int da), .val (.int db), .val (.int c1), .val (.int c2), .val (.int kp), .val (.ref sa), .val (.ref sb), .val (.ref p0), .val (.ref sa), .val (.int 1), .val (.int 0), .val (.ref sa)]) rfl (XS.iload X1.here hx rfl (hb hby at_301) rfl (XS.ifYes X1.here hx rfl (pc0 := 303) (pc' := 320) rfl (hb hby at_303) rfl ((if0 _ _).trans (teq (by decide)).1) (by decide) (by decide) (XS.aload X1.here hx rfl (hb hby at_320) rfl rfl (XS.aload X1.here hx rfl (hb hby at_322) rfl rfl (Jvm.RoadKit.acmp (g := (mkF m 324 #[.val (.int i0), .val (.int i1), .val (.int i2), .val (.int i3), .val (.int 0), .val (.int 0), .val (.int da), .val (.int db), .val (.int c1), .val (.int c2), .val (.int kp), .val (.ref sa), .val (.ref sb), .val (.ref p0), .val (.ref sa), .val (.int 1), .val (.int 0), .val (.ref sa)] [(.ref sa), (.ref sa)])) X1 hx rfl rfl rfl (pc0 := 324) (pc' := 327) (same := true) rfl (hb hby at_324) rfl (decide_eq_true rfl) (by decide) (by decide) (XS.iconst X1.here hx rfl (hb hby at_327) kont)))))))) ?_
                refine own_go (S' := (T1.setTop (mkF m 332 #[.val (.int i0), .val (.int i1), .val (.int i2), .val (.int i3), .val (.int 0), .val (.int 0), .val (.int da), .val (.int db), .val (.int c1), .val (.int c2), .val (.int kp), .val (.ref sa), .val (.ref sb), .val (.ref p0), .val (.ref sa), .val (.int 1), .val (.int 0), .val (.ref sa)] [(.int 1)]))) (fun _ kont => XS.goto X1.here hx rfl (pc0 := 328) (pc' := 332) rfl (hb hby at_328) (by decide) (by decide) kont) ?_
                refine own_retN (t := .boolean) X1 hx hlk (by simp) Bd.returns (hb hby at_332) (by decide) (by decide) ?_
                exact ⟨rfl, N1⟩
              · obtain rfl : rr = (.ref sa) := hr2.trans (by simp only [own_r2_00, own_r2_10, own_r2_01, own_r2_11, own_r1_0, own_r1_10, own_r1_11])
                refine own_go (S' := (T1.setTop (mkF m 297 #[.val (.int i0), .val (.int i1), .val (.int i2), .val (.int i3), .val (.int 0), .val (.int 1), .val (.int da), .val (.int db), .val (.int c1), .val (.int c2), .val (.int kp), .val (.ref sa), .val (.ref sb), .val (.ref p0), .val (.ref sa), .val (.int 1), .val (.int 0), .val .null] []))) (fun _ kont => XS.aconstNull X1.here hx rfl (hb hby at_279) (XS.astore X1.here hx rfl (hb hby at_280) rfl rfl (l' := #[.val (.int i0), .val (.int i1), .val (.int i2), .val (.int i3), .val (.int 0), .val (.int 1), .val (.int da), .val (.int db), .val (.int c1), .val (.int c2), .val (.int kp), .val (.ref sa), .val (.ref sb), .val (.ref p0), .val (.ref sa), .val (.int 1), .val (.int 0), .val .null]) rfl (XS.iload X1.here hx rfl (hb hby at_282) rfl (XS.ifNo X1.here hx rfl (hb hby at_284) rfl ((if0 _ _).trans (feq (by decide)).1) (XS.iload X1.here hx rfl (hb hby at_287) rfl (XS.ifNo X1.here hx rfl (hb hby at_289) rfl ((if0 _ _).trans (teq (by decide)).2) (XS.iload X1.here hx rfl (hb hby at_292) rfl (XS.ifNo X1.here hx rfl (hb hby at_294) rfl ((if0 _ _).trans (teq (by decide)).2) kont)))))))) ?_
                refine own_go (S' := (T1.setTop (mkF m 328 #[.val (.int i0), .val (.int i1), .val (.int i2), .val (.int i3), .val (.int 0), .val (.int 1), .val (.int da), .val (.int db), .val (.int c1), .val (.int c2), .val (.int kp), .val (.ref sa), .val (.ref sb), .val (.ref p0), .val (.ref sa), .val (.int 1), .val (.int 0), .val (.ref sa)] [(.int 1)]))) (fun _ kont => XS.aload X1.here hx rfl (hb hby at_297) rfl rfl (XS.astore X1.here hx rfl (hb hby at_299) rfl rfl (l' := #[.val (.int i0), .val (.int i1), .val (.int i2), .val (.int i3), .val (.int 0), .val (.int 1), .val (.int da), .val (.int db), .val (.int c1), .val (.int c2), .val (.int kp), .val (.ref sa), .val (.ref sb), .val (.ref p0), .val (.ref sa), .val (.int 1), .val (.int 0), .val (.ref sa)]) rfl (XS.iload X1.here hx rfl (hb hby at_301) rfl (XS.ifYes X1.here hx rfl (pc0 := 303) (pc' := 320) rfl (hb hby at_303) rfl ((if0 _ _).trans (teq (by decide)).1) (by decide) (by decide) (XS.aload X1.here hx rfl (hb hby at_320) rfl rfl (XS.aload X1.here hx rfl (hb hby at_322) rfl rfl (Jvm.RoadKit.acmp (g := (mkF m 324 #[.val (.int i0), .val (.int i1), .val (.int i2), .val (.int i3), .val (.int 0), .val (.int 1), .val (.int da), .val (.int db), .val (.int c1), .val (.int c2), .val (.int kp), .val (.ref sa), .val (.ref sb), .val (.ref p0), .val (.ref sa), .val (.int 1), .val (.int 0), .val (.ref sa)] [(.ref sa), (.ref sa)])) X1 hx rfl rfl rfl (pc0 := 324) (pc' := 327) (same := true) rfl (hb hby at_324) rfl (decide_eq_true rfl) (by decide) (by decide) (XS.iconst X1.here hx rfl (hb hby at_327) kont)))))))) ?_
                refine own_go (S' := (T1.setTop (mkF m 332 #[.val (.int i0), .val (.int i1), .val (.int i2), .val (.int i3), .val (.int 0), .val (.int 1), .val (.int da), .val (.int db), .val (.int c1), .val (.int c2), .val (.int kp), .val (.ref sa), .val (.ref sb), .val (.ref p0), .val (.ref sa), .val (.int 1), .val (.int 0), .val (.ref sa)] [(.int 1)]))) (fun _ kont => XS.goto X1.here hx rfl (pc0 := 328) (pc' := 332) rfl (hb hby at_328) (by decide) (by decide) kont) ?_
                refine own_retN (t := .boolean) X1 hx hlk (by simp) Bd.returns (hb hby at_332) (by decide) (by decide) ?_
                exact ⟨rfl, N1⟩
            · rcases hcb with rfl | rfl
              · obtain rfl : rr = .null := hr2.trans (by simp only [own_r2_00, own_r2_10, own_r2_01, own_r2_11, own_r1_0, own_r1_10, own_r1_11])
                refine own_go (S' := (T1.setTop (mkF m 301 #[.val (.int i0), .val (.int i1), .val (.int i2), .val (.int i3), .val (.int 1), .val (.int 0), .val (.int da), .val (.int db), .val (.int c1), .val (.int c2), .val (.int kp), .val (.ref sa), .val (.ref sb), .val (.ref p0), .val .null, .val (.int 1), .val (.int 0), .val .null] []))) (fun _ kont => XS.aconstNull X1.here hx rfl (hb hby at_279) (XS.astore X1.here hx rfl (hb hby at_280) rfl rfl (l' := #[.val (.int i0), .val (.int i1), .val (.int i2), .val (.int i3), .val (.int 1), .val (.int 0), .val (.int da), .val (.int db), .val (.int c1), .val (.int c2), .val (.int kp), .val (.ref sa), .val (.ref sb), .val (.ref p0), .val .null, .val (.int 1), .val (.int 0), .val .null]) rfl (XS.iload X1.here hx rfl (hb hby at_282) rfl (XS.ifNo X1.here hx rfl (hb hby at_284) rfl ((if0 _ _).trans (feq (by decide)).1) (XS.iload X1.here hx rfl (hb hby at_287) rfl (XS.ifNo X1.here hx rfl (hb hby at_289) rfl ((if0 _ _).trans (teq (by decide)).2) (XS.iload X1.here hx rfl (hb hby at_292) rfl (XS.ifYes X1.here hx rfl (pc0 := 294) (pc' := 301) rfl (hb hby at_294) rfl ((if0 _ _).trans (feq (by decide)).2) (by decide) (by decide) kont)))))))) ?_
                refine own_go (S' := (T1.setTop (mkF m 332 #[.val (.int i0), .val (.int i1), .val (.int i2), .val (.int i3), .val (.int 1), .val (.int 0), .val (.int da), .val (.int db), .val (.int c1), .val (.int c2), .val (.int kp), .val (.ref sa), .val (.ref sb), .val (.ref p0), .val .null, .val (.int 1), .val (.int 0), .val .null] [(.int 1)]))) (fun _ kont => XS.iload X1.here hx rfl (hb hby at_301) rfl (XS.ifYes X1.here hx rfl (pc0 := 303) (pc' := 320) rfl (hb hby at_303) rfl ((if0 _ _).trans (teq (by decide)).1) (by decide) (by decide) (XS.aload X1.here hx rfl (hb hby at_320) rfl rfl (XS.aload X1.here hx rfl (hb hby at_322) rfl rfl (Jvm.RoadKit.acmp (g := (mkF m 324 #[.val (.int i0), .val (.int i1), .val (.int i2), .val (.int i3), .val (.int 1), .val (.int 0), .val (.int da), .val (.int db), .val (.int c1), .val (.int c2), .val (.int kp), .val (.ref sa), .val (.ref sb), .val (.ref p0), .val .null, .val (.int 1), .val (.int 0), .val .null] [.null, .null])) X1 hx rfl rfl rfl (pc0 := 324) (pc' := 327) (same := true) rfl (hb hby at_324) rfl (decide_eq_true rfl) (by decide) (by decide) (XS.iconst X1.here hx rfl (hb hby at_327) (XS.goto X1.here hx rfl (pc0 := 328) (pc' := 332) rfl (hb hby at_328) (by decide) (by decide) kont))))))) ?_
                refine own_retN (t := .boolean) X1 hx hlk (by simp) Bd.returns (hb hby at_332) (by decide) (by decide) ?_
                exact ⟨rfl, N1⟩
              · obtain rfl : rr = .null := hr2.trans (by simp only [own_r2_00, own_r2_10, own_r2_01, own_r2_11, own_r1_0, own_r1_10, own_r1_11])
                refine own_go (S' := (T1.setTop (mkF m 301 #[.val (.int i0), .val (.int i1), .val (.int i2), .val (.int i3), .val (.int 1), .val (.int 1), .val (.int da), .val (.int db), .val (.int c1), .val (.int c2), .val (.int kp), .val (.ref sa), .val (.ref sb), .val (.ref p0), .val .null, .val (.int 1), .val (.int 0), .val .null] []))) (fun _ kont => XS.aconstNull X1.here hx rfl (hb hby at_279) (XS.astore X1.here hx rfl (hb hby at_280) rfl rfl (l' := #[.val (.int i0), .val (.int i1), .val (.int i2), .val (.int i3), .val (.int 1), .val (.int 1), .val (.int da), .val (.int db), .val (.int c1), .val (.int c2), .val (.int kp), .val (.ref sa), .val (.ref sb), .val (.ref p0), .val .null, .val (.int 1), .val (.int 0), .val .null]) rfl (XS.iload X1.here hx rfl (hb hby at_282) rfl (XS.ifNo X1.here hx rfl (hb hby at_284) rfl ((if0 _ _).trans (feq (by decide)).1) (XS.iload X1.here hx rfl (hb hby at_287) rfl (XS.ifNo X1.here hx rfl (hb hby at_289) rfl ((if0 _ _).trans (teq (by decide)).2) (XS.iload X1.here hx rfl (hb hby at_292) rfl (XS.ifYes X1.here hx rfl (pc0 := 294) (pc' := 301) rfl (hb hby at_294) rfl ((if0 _ _).trans (feq (by decide)).2) (by decide) (by decide) kont)))))))) ?_
                refine own_go (S' := (T1.setTop (mkF m 332 #[.val (.int i0), .val (.int i1), .val (.int i2), .val (.int i3), .val (.int 1), .val (.int 1), .val (.int da), .val (.int db), .val (.int c1), .val (.int c2), .val (.int kp), .val (.ref sa), .val (.ref sb), .val (.ref p0), .val .null, .val (.int 1), .val (.int 0), .val .null] [(.int 1)]))) (fun _ kont => XS.iload X1.here hx rfl (hb hby at_301) rfl (XS.ifYes X1.here hx rfl (pc0 := 303) (pc' := 320) rfl (hb hby at_303) rfl ((if0 _ _).trans (teq (by decide)).1) (by decide) (by decide) (XS.aload X1.here hx rfl (hb hby at_320) rfl rfl (XS.aload X1.here hx rfl (hb hby at_322) rfl rfl (Jvm.RoadKit.acmp (g := (mkF m 324 #[.val (.int i0), .val (.int i1), .val (.int i2), .val (.int i3), .val (.int 1), .val (.int 1), .val (.int da), .val (.int db), .val (.int c1), .val (.int c2), .val (.int kp), .val (.ref sa), .val (.ref sb), .val (.ref p0), .val .null, .val (.int 1), .val (.int 0), .val .null] [.null, .null])) X1 hx rfl rfl rfl (pc0 := 324) (pc' := 327) (same := true) rfl (hb hby at_324) rfl (decide_eq_true rfl) (by decide) (by decide) (XS.iconst X1.here hx rfl (hb hby at_327) (XS.goto X1.here hx rfl (pc0 := 328) (pc' := 332) rfl (hb hby at_328) (by decide) (by decide) kont))))))) ?_
                refine own_retN (t := .boolean) X1 hx hlk (by simp) Bd.returns (hb hby at_332) (by decide) (by decide) ?_
                exact ⟨rfl, N1⟩
          · rcases hca with rfl | rfl
            · rcases hcb with rfl | rfl
              · obtain rfl : rr = .null := hr2.trans (by simp only [own_r2_00, own_r2_10, own_r2_01, own_r2_11, own_r1_0, own_r1_10, own_r1_11])
                refine own_go (S' := (T1.setTop (mkF m 306 #[.val (.int i0), .val (.int i1), .val (.int i2), .val (.int i3), .val (.int 0), .val (.int 0), .val (.int da), .val (.int db), .val (.int c1), .val (.int c2), .val (.int kp), .val (.ref sa), .val (.ref sb), .val (.ref p0), .val .null, .val (.int 1), .val (.int 1), .val .null] []))) (fun _ kont => XS.aconstNull X1.here hx rfl (hb hby at_279) (XS.astore X1.here hx rfl (hb hby at_280) rfl rfl (l' := #[.val (.int i0), .val (.int i1), .val (.int i2), .val (.int i3), .val (.int 0), .val (.int 0), .val (.int da), .val (.int db), .val (.int c1), .val (.int c2), .val (.int kp), .val (.ref sa), .val (.ref sb), .val (.ref p0), .val .null, .val (.int 1), .val (.int 1), .val .null]) rfl (XS.iload X1.here hx rfl (hb hby at_282) rfl (XS.ifNo X1.here hx rfl (hb hby at_284) rfl ((if0 _ _).trans (feq (by decide)).1) (XS.iload X1.here hx rfl (hb hby at_287) rfl (XS.ifYes X1.here hx rfl (pc0 := 289) (pc' := 301) rfl (hb hby at_289) rfl ((if0 _ _).trans (feq (by decide)).2) (by decide) (by decide) (XS.iload X1.here hx rfl (hb hby at_301) rfl (XS.ifNo X1.here hx rfl (hb hby at_303) rfl ((if0 _ _).trans (feq (by decide)).1) kont)))))))) ?_
                refine own_go (S' := (T1.setTop (mkF m 332 #[.val (.int i0), .val (.int i1), .val (.int i2), .val (.int i3), .val (.int 0), .val (.int 0), .val (.int da), .val (.int db), .val (.int c1), .val (.int c2), .val (.int kp), .val (.ref sa), .val (.ref sb), .val (.ref p0), .val .null, .val (.int 1), .val (.int 1), .val .null] [(.int 1)]))) (fun _ kont => XS.iload X1.here hx rfl (hb hby at_306) rfl (XS.ifYes X1.here hx rfl (pc0 := 308) (pc' := 320) rfl (hb hby at_308) rfl ((if0 _ _).trans (feq (by decide)).2) (by decide) (by decide) (XS.aload X1.here hx rfl (hb hby at_320) rfl rfl (XS.aload X1.here hx rfl (hb hby at_322) rfl rfl (Jvm.RoadKit.acmp (g := (mkF m 324 #[.val (.int i0), .val (.int i1), .val (.int i2), .val (.int i3), .val (.int 0), .val (.int 0), .val (.int da), .val (.int db), .val (.int c1), .val (.int c2), .val (.int kp), .val (.ref sa), .val (.ref sb), .val (.ref p0), .val .null, .val (.int 1), .val (.int 1), .val .null] [.null, .null])) X1 hx rfl rfl rfl (pc0 := 324) (pc' := 327) (same := true) rfl (hb hby at_324) rfl (decide_eq_true rfl) (by decide) (by decide) (XS.iconst X1.here hx rfl (hb hby at_327) (XS.goto X1.here hx rfl (pc0 := 328) (pc' := 332) rfl (hb hby at_328) (by decide) (by decide) kont))))))) ?_
                refine own_retN (t := .boolean) X1 hx hlk (by simp) Bd.returns (hb hby at_332) (by decide) (by decide) ?_
                exact ⟨rfl, N1⟩
              · obtain rfl : rr = .null := hr2.trans (by simp only [own_r2_00, own_r2_10, own_r2_01, own_r2_11, own_r1_0, own_r1_10, own_r1_11])
                refine own_go (S' := (T1.setTop (mkF m 306 #[.val (.int i0), .val (.int i1), .val (.int i2), .val (.int i3), .val (.int 0), .val (.int 1), .val (.int da), .val (.int db), .val (.int c1), .val (.int c2), .val (.int kp), .val (.ref sa), .val (.ref sb), .val (.ref p0), .val .null, .val (.int 1), .val (.int 1), .val .null] []))) (fun _ kont => XS.aconstNull X1.here hx rfl (hb hby at_279) (XS.astore X1.here hx rfl (hb hby at_280) rfl rfl (l' := #[.val (.int i0), .val (.int i1), .val (.int i2), .val (.int i3), .val (.int 0), .val (.int 1), .val (.int da), .val (.int db), .val (.int c1), .val (.int c2), .val (.int kp), .val (.ref sa), .val (.ref sb), .val (.ref p0), .val .null, .val (.int 1), .val (.int 1), .val .null]) rfl (XS.iload X1.here hx rfl (hb hby at_282) rfl (XS.ifNo X1.here hx rfl (hb hby at_284) rfl ((if0 _ _).trans (feq (by decide)).1) (XS.iload X1.here hx rfl (hb hby at_287) rfl (XS.ifYes X1.here hx rfl (pc0 := 289) (pc' := 301) rfl (hb hby at_289) rfl ((if0 _ _).trans (feq (by decide)).2) (by decide) (by decide) (XS.iload X1.here hx rfl (hb hby at_301) rfl (XS.ifNo X1.here hx rfl (hb hby at_303) rfl ((if0 _ _).trans (feq (by decide)).1) kont)))))))) ?_
                refine own_go (S' := (T1.setTop (mkF m 332 #[.val (.int i0), .val (.int i1), .val (.int i2), .val (.int i3), .val (.int 0), .val (.int 1), .val (.int da), .val (.int db), .val (.int c1), .val (.int c2), .val (.int kp), .val (.ref sa), .val (.ref sb), .val (.ref p0), .val .null, .val (.int 1), .val (.int 1), .val .null] [(.int 1)]))) (fun _ kont => XS.iload X1.here hx rfl (hb hby at_306) rfl (XS.ifYes X1.here hx rfl (pc0 := 308) (pc' := 320) rfl (hb hby at_308) rfl ((if0 _ _).trans (feq (by decide)).2) (by decide) (by decide) (XS.aload X1.here hx rfl (hb hby at_320) rfl rfl (XS.aload X1.here hx rfl (hb hby at_322) rfl rfl (Jvm.RoadKit.acmp (g := (mkF m 324 #[.val (.int i0), .val (.int i1), .val (.int i2), .val (.int i3), .val (.int 0), .val (.int 1), .val (.int da), .val (.int db), .val (.int c1), .val (.int c2), .val (.int kp), .val (.ref sa), .val (.ref sb), .val (.ref p0), .val .null, .val (.int 1), .val (.int 1), .val .null] [.null, .null])) X1 hx rfl rfl rfl (pc0 := 324) (pc' := 327) (same := true) rfl (hb hby at_324) rfl (decide_eq_true rfl) (by decide) (by decide) (XS.iconst X1.here hx rfl (hb hby at_327) (XS.goto X1.here hx rfl (pc0 := 328) (pc' := 332) rfl (hb hby at_328) (by decide) (by decide) kont))))))) ?_
                refine own_retN (t := .boolean) X1 hx hlk (by simp) Bd.returns (hb hby at_332) (by decide) (by decide) ?_
                exact ⟨rfl, N1⟩
            · rcases hcb with rfl | rfl
              · obtain rfl : rr = .null := hr2.trans (by simp only [own_r2_00, own_r2_10, own_r2_01, own_r2_11, own_r1_0, own_r1_10, own_r1_11])
                refine own_go (S' := (T1.setTop (mkF m 306 #[.val (.int i0), .val (.int i1), .val (.int i2), .val (.int i3), .val (.int 1), .val (.int 0), .val (.int da), .val (.int db), .val (.int c1), .val (.int c2), .val (.int kp), .val (.ref sa), .val (.ref sb), .val (.ref p0), .val .null, .val (.int 1), .val (.int 1), .val .null] []))) (fun _ kont => XS.aconstNull X1.here hx rfl (hb hby at_279) (XS.astore X1.here hx rfl (hb hby at_280) rfl rfl (l' := #[.val (.int i0), .val (.int i1), .val (.int i2), .val (.int i3), .val (.int 1), .val (.int 0), .val (.int da), .val (.int db), .val (.int c1), .val (.int c2), .val (.int kp), .val (.ref sa), .val (.ref sb), .val (.ref p0), .val .null, .val (.int 1), .val (.int 1), .val .null]) rfl (XS.iload X1.here hx rfl (hb hby at_282) rfl (XS.ifNo X1.here hx rfl (hb hby at_284) rfl ((if0 _ _).trans (feq (by decide)).1) (XS.iload X1.here hx rfl (hb hby at_287) rfl (XS.ifYes X1.here hx rfl (pc0 := 289) (pc' := 301) rfl (hb hby at_289) rfl ((if0 _ _).trans (feq (by decide)).2) (by decide) (by decide) (XS.iload X1.here hx rfl (hb hby at_301) rfl (XS.ifNo X1.here hx rfl (hb hby at_303) rfl ((if0 _ _).trans (feq (by decide)).1) kont)))))))) ?_
                refine own_go (S' := (T1.setTop (mkF m 332 #[.val (.int i0), .val (.int i1), .val (.int i2), .val (.int i3), .val (.int 1), .val (.int 0), .val (.int da), .val (.int db), .val (.int c1), .val (.int c2), .val (.int kp), .val (.ref sa), .val (.ref sb), .val (.ref p0), .val .null, .val (.int 1), .val (.int 1), .val .null] [(.int 1)]))) (fun _ kont => XS.iload X1.here hx rfl (hb hby at_306) rfl (XS.ifYes X1.here hx rfl (pc0 := 308) (pc' := 320) rfl (hb hby at_308) rfl ((if0 _ _).trans (feq (by decide)).2) (by decide) (by decide) (XS.aload X1.here hx rfl (hb hby at_320) rfl rfl (XS.aload X1.here hx rfl (hb hby at_322) rfl rfl (Jvm.RoadKit.acmp (g := (mkF m 324 #[.val (.int i0), .val (.int i1), .val (.int i2), .val (.int i3), .val (.int 1), .val (.int 0), .val (.int da), .val (.int db), .val (.int c1), .val (.int c2), .val (.int kp), .val (.ref sa), .val (.ref sb), .val (.ref p0), .val .null, .val (.int 1), .val (.int 1), .val .null] [.null, .null])) X1 hx rfl rfl rfl (pc0 := 324) (pc' := 327) (same := true) rfl (hb hby at_324) rfl (decide_eq_true rfl) (by decide) (by decide) (XS.iconst X1.here hx rfl (hb hby at_327) (XS.goto X1.here hx rfl (pc0 := 328) (pc' := 332) rfl (hb hby at_328) (by decide) (by decide) kont))))))) ?_
                refine own_retN (t := .boolean) X1 hx hlk (by simp) Bd.returns (hb hby at_332) (by decide) (by decide) ?_
                exact ⟨rfl, N1⟩
              · obtain rfl : rr = .null := hr2.trans (by simp only [own_r2_00, own_r2_10, own_r2_01, own_r2_11, own_r1_0, own_r1_10, own_r1_11])
                refine own_go (S' := (T1.setTop (mkF m 306 #[.val (.int i0), .val (.int i1), .val (.int i2), .val (.int i3), .val (.int 1), .val (.int 1), .val (.int da), .val (.int db), .val (.int c1), .val (.int c2), .val (.int kp), .val (.ref sa), .val (.ref sb), .val (.ref p0), .val .null, .val (.int 1), .val (.int 1), .val .null] []))) (fun _ kont => XS.aconstNull X1.here hx rfl (hb hby at_279) (XS.astore X1.here hx rfl (hb hby at_280) rfl rfl (l' := #[.val (.int i0), .val (.int i1), .val (.int i2), .val (.int i3), .val (.int 1), .val (.int 1), .val (.int da), .val (.int db), .val (.int c1), .val (.int c2), .val (.int kp), .val (.ref sa), .val (.ref sb), .val (.ref p0), .val .null, .val (.int 1), .val (.int 1), .val .null]) rfl (XS.iload X1.here hx rfl (hb hby at_282) rfl (XS.ifNo X1.here hx rfl (hb hby at_284) rfl ((if0 _ _).trans (feq (by decide)).1) (XS.iload X1.here hx rfl (hb hby at_287) rfl (XS.ifYes X1.here hx rfl (pc0 := 289) (pc' := 301) rfl (hb hby at_289) rfl ((if0 _ _).trans (feq (by decide)).2) (by decide) (by decide) (XS.iload X1.here hx rfl (hb hby at_301) rfl (XS.ifNo X1.here hx rfl (hb hby at_303) rfl ((if0 _ _).trans (feq (by decide)).1) kont)))))))) ?_
                refine own_go (S' := (T1.setTop (mkF m 332 #[.val (.int i0), .val (.int i1), .val (.int i2), .val (.int i3), .val (.int 1), .val (.int 1), .val (.int da), .val (.int db), .val (.int c1), .val (.int c2), .val (.int kp), .val (.ref sa), .val (.ref sb), .val (.ref p0), .val .null, .val (.int 1), .val (.int 1), .val .null] [(.int 1)]))) (fun _ kont => XS.iload X1.here hx rfl (hb hby at_306) rfl (XS.ifYes X1.here hx rfl (pc0 := 308) (pc' := 320) rfl (hb hby at_308) rfl ((if0 _ _).trans (feq (by decide)).2) (by decide) (by decide) (XS.aload X1.here hx rfl (hb hby at_320) rfl rfl (XS.aload X1.here hx rfl (hb hby at_322) rfl rfl (Jvm.RoadKit.acmp (g := (mkF m 324 #[.val (.int i0), .val (.int i1), .val (.int i2), .val (.int i3), .val (.int 1), .val (.int 1), .val (.int da), .val (.int db), .val (.int c1), .val (.int c2), .val (.int kp), .val (.ref sa), .val (.ref sb), .val (.ref p0), .val .null, .val (.int 1), .val (.int 1), .val .null] [.null, .null])) X1 hx rfl rfl rfl (pc0 := 324) (pc' := 327) (same := true) rfl (hb hby at_324) rfl (decide_eq_true rfl) (by decide) (by decide) (XS.iconst X1.here hx rfl (hb hby at_327) (XS.goto X1.here hx rfl (pc0 := 328) (pc' := 332) rfl (hb hby at_328) (by decide) (by decide) kont))))))) ?_
                refine own_retN (t := .boolean) X1 hx hlk (by simp) Bd.returns (hb hby at_332) (by decide) (by decide) ?_
                exact ⟨rfl, N1⟩
      have K238 : own_Go p e below s (Q_rm0 Z i0 i1 i2 i3 aN aI aD aG kI h0 n0) room_1.cells room_1.slots (T1.setTop (mkF m 238 #[.val (.int i0), .val (.int i1), .val (.int i2), .val (.int i3), .val (.int ca), .val (.int cb), .val (.int da), .val (.int db), .val (.int c1), .val (.int c2), .val (.int kp), .val (.ref sa), .val (.ref sb), .val (.ref p0), .val rr, .val (.int wa), .unset, .unset] [(.int wb)])) := by
        refine own_go (S' := (T1.setTop (mkF m 242 #[.val (.int i0), .val (.int i1), .val (.int i2), .val (.int i3), .val (.int ca), .val (.int cb), .val (.int da), .val (.int db), .val (.int c1), .val (.int c2), .val (.int kp), .val (.ref sa), .val (.ref sb), .val (.ref p0), .val rr, .val (.int wa), .val (.int wb), .unset] [(.int kp)]))) (fun _ kont => XS.istore X1.here hx rfl (hb hby at_238) rfl (l' := #[.val (.int i0), .val (.int i1), .val (.int i2), .val (.int i3), .val (.int ca), .val (.int cb), .val (.int da), .val (.int db), .val (.int c1), .val (.int c2), .val (.int kp), .val (.ref sa), .val (.ref sb), .val (.ref p0), .val rr, .val (.int wa), .val (.int wb), .unset]) rfl (XS.iload X1.here hx rfl (hb hby at_240) rfl kont)) ?_
        rcases hkp with rfl | rfl
        · refine own_go (S' := (T1.setTop (mkF m 279 #[.val (.int i0), .val (.int i1), .val (.int i2), .val (.int i3), .val (.int ca), .val (.int cb), .val (.int da), .val (.int db), .val (.int c1), .val (.int c2), .val (.int 0), .val (.ref sa), .val (.ref sb), .val (.ref p0), .val rr, .val (.int wa), .val (.int wb), .unset] []))) (fun _ kont => XS.ifYes X1.here hx rfl (pc0 := 242) (pc' := 279) rfl (hb hby at_242) rfl ((if0 _ _).trans (teq (by decide)).1) (by decide) (by decide) kont) ?_
          rw [if_pos (show (0 : Int32) = 0 from rfl)] at hr
          exact K279 wa wb hha hhb hr
        · refine own_go (S' := (T1.setTop (mkF m 245 #[.val (.int i0), .val (.int i1), .val (.int i2), .val (.int i3), .val (.int ca), .val (.int cb), .val (.int da), .val (.int db), .val (.int c1), .val (.int c2), .val (.int 1), .val (.ref sa), .val (.ref sb), .val (.ref p0), .val rr, .val (.int wa), .val (.int wb), .unset] []))) (fun _ kont => XS.ifNo X1.here hx rfl (hb hby at_242) rfl ((if0 _ _).trans (feq (by decide)).1) kont) ?_
          rw [if_neg (show ¬ (1 : Int32) = 0 by decide)] at hr
          rcases hha with rfl | rfl
          · rcases hhb with rfl | rfl
            · rcases hda with rfl | rfl
              · rcases hdb with rfl | rfl
                · refine own_go (S' := (T1.setTop (mkF m 279 #[.val (.int i0), .val (.int i1), .val (.int i2), .val (.int i3), .val (.int ca), .val (.int cb), .val (.int 0), .val (.int 0), .val (.int c1), .val (.int c2), .val (.int 1), .val (.ref sa), .val (.ref sb), .val (.ref p0), .val rr, .val (.int 0), .val (.int 0), .unset] []))) (fun _ kont => XS.iload X1.here hx rfl (hb hby at_245) rfl (XS.ifYes X1.here hx rfl (pc0 := 247) (pc' := 259) rfl (hb hby at_247) rfl ((if0 _ _).trans (teq (by decide)).1) (by decide) (by decide) (XS.iconst X1.here hx rfl (hb hby at_259) (XS.istore X1.here hx rfl (hb hby at_260) rfl (l' := #[.val (.int i0), .val (.int i1), .val (.int i2), .val (.int i3), .val (.int ca), .val (.int cb), .val (.int 0), .val (.int 0), .val (.int c1), .val (.int c2), .val (.int 1), .val (.ref sa), .val (.ref sb), .val (.ref p0), .val rr, .val (.int 0), .val (.int 0), .unset]) rfl (XS.iload X1.here hx rfl (hb hby at_262) rfl (XS.ifYes X1.here hx rfl (pc0 := 264) (pc' := 276) rfl (hb hby at_264) rfl ((if0 _ _).trans (teq (by decide)).1) (by decide) (by decide) (XS.iconst X1.here hx rfl (hb hby at_276) (XS.istore X1.here hx rfl (hb hby at_277) rfl (l' := #[.val (.int i0), .val (.int i1), .val (.int i2), .val (.int i3), .val (.int ca), .val (.int cb), .val (.int 0), .val (.int 0), .val (.int c1), .val (.int c2), .val (.int 1), .val (.ref sa), .val (.ref sb), .val (.ref p0), .val rr, .val (.int 0), .val (.int 0), .unset]) rfl kont)))))))) ?_
                  exact K279 (0 : Int32) (0 : Int32) (by decide) (by decide) (by simpa only [own_and0, own_and1] using hr)
                · refine own_go (S' := (T1.setTop (mkF m 279 #[.val (.int i0), .val (.int i1), .val (.int i2), .val (.int i3), .val (.int ca), .val (.int cb), .val (.int 0), .val (.int 1), .val (.int c1), .val (.int c2), .val (.int 1), .val (.ref sa), .val (.ref sb), .val (.ref p0), .val rr, .val (.int 0), .val (.int 0), .unset] []))) (fun _ kont => XS.iload X1.here hx rfl (hb hby at_245) rfl (XS.ifYes X1.here hx rfl (pc0 := 247) (pc' := 259) rfl (hb hby at_247) rfl ((if0 _ _).trans (teq (by decide)).1) (by decide) (by decide) (XS.iconst X1.here hx rfl (hb hby at_259) (XS.istore X1.here hx rfl (hb hby at_260) rfl (l' := #[.val (.int i0), .val (.int i1), .val (.int i2), .val (.int i3), .val (.int ca), .val (.int cb), .val (.int 0), .val (.int 1), .val (.int c1), .val (.int c2), .val (.int 1), .val (.ref sa), .val (.ref sb), .val (.ref p0), .val rr, .val (.int 0), .val (.int 0), .unset]) rfl (XS.iload X1.here hx rfl (hb hby at_262) rfl (XS.ifYes X1.here hx rfl (pc0 := 264) (pc' := 276) rfl (hb hby at_264) rfl ((if0 _ _).trans (teq (by decide)).1) (by decide) (by decide) (XS.iconst X1.here hx rfl (hb hby at_276) (XS.istore X1.here hx rfl (hb hby at_277) rfl (l' := #[.val (.int i0), .val (.int i1), .val (.int i2), .val (.int i3), .val (.int ca), .val (.int cb), .val (.int 0), .val (.int 1), .val (.int c1), .val (.int c2), .val (.int 1), .val (.ref sa), .val (.ref sb), .val (.ref p0), .val rr, .val (.int 0), .val (.int 0), .unset]) rfl kont)))))))) ?_
                  exact K279 (0 : Int32) (0 : Int32) (by decide) (by decide) (by simpa only [own_and0, own_and1] using hr)
              · rcases hdb with rfl | rfl
                · refine own_go (S' := (T1.setTop (mkF m 279 #[.val (.int i0), .val (.int i1), .val (.int i2), .val (.int i3), .val (.int ca), .val (.int cb), .val (.int 1), .val (.int 0), .val (.int c1), .val (.int c2), .val (.int 1), .val (.ref sa), .val (.ref sb), .val (.ref p0), .val rr, .val (.int 0), .val (.int 0), .unset] []))) (fun _ kont => XS.iload X1.here hx rfl (hb hby at_245) rfl (XS.ifYes X1.here hx rfl (pc0 := 247) (pc' := 259) rfl (hb hby at_247) rfl ((if0 _ _).trans (teq (by decide)).1) (by decide) (by decide) (XS.iconst X1.here hx rfl (hb hby at_259) (XS.istore X1.here hx rfl (hb hby at_260) rfl (l' := #[.val (.int i0), .val (.int i1), .val (.int i2), .val (.int i3), .val (.int ca), .val (.int cb), .val (.int 1), .val (.int 0), .val (.int c1), .val (.int c2), .val (.int 1), .val (.ref sa), .val (.ref sb), .val (.ref p0), .val rr, .val (.int 0), .val (.int 0), .unset]) rfl (XS.iload X1.here hx rfl (hb hby at_262) rfl (XS.ifYes X1.here hx rfl (pc0 := 264) (pc' := 276) rfl (hb hby at_264) rfl ((if0 _ _).trans (teq (by decide)).1) (by decide) (by decide) (XS.iconst X1.here hx rfl (hb hby at_276) (XS.istore X1.here hx rfl (hb hby at_277) rfl (l' := #[.val (.int i0), .val (.int i1), .val (.int i2), .val (.int i3), .val (.int ca), .val (.int cb), .val (.int 1), .val (.int 0), .val (.int c1), .val (.int c2), .val (.int 1), .val (.ref sa), .val (.ref sb), .val (.ref p0), .val rr, .val (.int 0), .val (.int 0), .unset]) rfl kont)))))))) ?_
                  exact K279 (0 : Int32) (0 : Int32) (by decide) (by decide) (by simpa only [own_and0, own_and1] using hr)
                · refine own_go (S' := (T1.setTop (mkF m 279 #[.val (.int i0), .val (.int i1), .val (.int i2), .val (.int i3), .val (.int ca), .val (.int cb), .val (.int 1), .val (.int 1), .val (.int c1), .val (.int c2), .val (.int 1), .val (.ref sa), .val (.ref sb), .val (.ref p0), .val rr, .val (.int 0), .val (.int 0), .unset] []))) (fun _ kont => XS.iload X1.here hx rfl (hb hby at_245) rfl (XS.ifYes X1.here hx rfl (pc0 := 247) (pc' := 259) rfl (hb hby at_247) rfl ((if0 _ _).trans (teq (by decide)).1) (by decide) (by decide) (XS.iconst X1.here hx rfl (hb hby at_259) (XS.istore X1.here hx rfl (hb hby at_260) rfl (l' := #[.val (.int i0), .val (.int i1), .val (.int i2), .val (.int i3), .val (.int ca), .val (.int cb), .val (.int 1), .val (.int 1), .val (.int c1), .val (.int c2), .val (.int 1), .val (.ref sa), .val (.ref sb), .val (.ref p0), .val rr, .val (.int 0), .val (.int 0), .unset]) rfl (XS.iload X1.here hx rfl (hb hby at_262) rfl (XS.ifYes X1.here hx rfl (pc0 := 264) (pc' := 276) rfl (hb hby at_264) rfl ((if0 _ _).trans (teq (by decide)).1) (by decide) (by decide) (XS.iconst X1.here hx rfl (hb hby at_276) (XS.istore X1.here hx rfl (hb hby at_277) rfl (l' := #[.val (.int i0), .val (.int i1), .val (.int i2), .val (.int i3), .val (.int ca), .val (.int cb), .val (.int 1), .val (.int 1), .val (.int c1), .val (.int c2), .val (.int 1), .val (.ref sa), .val (.ref sb), .val (.ref p0), .val rr, .val (.int 0), .val (.int 0), .unset]) rfl kont)))))))) ?_
                  exact K279 (0 : Int32) (0 : Int32) (by decide) (by decide) (by simpa only [own_and0, own_and1] using hr)
            · rcases hda with rfl | rfl
              · rcases hdb with rfl | rfl
                · refine own_go (S' := (T1.setTop (mkF m 276 #[.val (.int i0), .val (.int i1), .val (.int i2), .val (.int i3), .val (.int ca), .val (.int cb), .val (.int 0), .val (.int 0), .val (.int c1), .val (.int c2), .val (.int 1), .val (.ref sa), .val (.ref sb), .val (.ref p0), .val rr, .val (.int 0), .val (.int 1), .unset] []))) (fun _ kont => XS.iload X1.here hx rfl (hb hby at_245) rfl (XS.ifYes X1.here hx rfl (pc0 := 247) (pc' := 259) rfl (hb hby at_247) rfl ((if0 _ _).trans (teq (by decide)).1) (by decide) (by decide) (XS.iconst X1.here hx rfl (hb hby at_259) (XS.istore X1.here hx rfl (hb hby at_260) rfl (l' := #[.val (.int i0), .val (.int i1), .val (.int i2), .val (.int i3), .val (.int ca), .val (.int cb), .val (.int 0), .val (.int 0), .val (.int c1), .val (.int c2), .val (.int 1), .val (.ref sa), .val (.ref sb), .val (.ref p0), .val rr, .val (.int 0), .val (.int 1), .unset]) rfl (XS.iload X1.here hx rfl (hb hby at_262) rfl (XS.ifNo X1.here hx rfl (hb hby at_264) rfl ((if0 _ _).trans (feq (by decide)).1) (XS.iload X1.here hx rfl (hb hby at_267) rfl (XS.ifYes X1.here hx rfl (pc0 := 269) (pc' := 276) rfl (hb hby at_269) rfl ((if0 _ _).trans (teq (by decide)).1) (by decide) (by decide) kont)))))))) ?_
                  refine own_go (S' := (T1.setTop (mkF m 279 #[.val (.int i0), .val (.int i1), .val (.int i2), .val (.int i3), .val (.int ca), .val (.int cb), .val (.int 0), .val (.int 0), .val (.int c1), .val (.int c2), .val (.int 1), .val (.ref sa), .val (.ref sb), .val (.ref p0), .val rr, .val (.int 0), .val (.int 0), .unset] []))) (fun _ kont => XS.iconst X1.here hx rfl (hb hby at_276) (XS.istore X1.here hx rfl (hb hby at_277) rfl (l' := #[.val (.int i0), .val (.int i1), .val (.int i2), .val (.int i3), .val (.int ca), .val (.int cb), .val (.int 0), .val (.int 0), .val (.int c1), .val (.int c2), .val (.int 1), .val (.ref sa), .val (.ref sb), .val (.ref p0), .val rr, .val (.int 0), .val (.int 0), .unset]) rfl kont)) ?_
                  exact K279 (0 : Int32) (0 : Int32) (by decide) (by decide) (by simpa only [own_and0, own_and1] using hr)
                · refine own_go (S' := (T1.setTop (mkF m 272 #[.val (.int i0), .val (.int i1), .val (.int i2), .val (.int i3), .val (.int ca), .val (.int cb), .val (.int 0), .val (.int 1), .val (.int c1), .val (.int c2), .val (.int 1), .val (.ref sa), .val (.ref sb), .val (.ref p0), .val rr, .val (.int 0), .val (.int 1), .unset] []))) (fun _ kont => XS.iload X1.here hx rfl (hb hby at_245) rfl (XS.ifYes X1.here hx rfl (pc0 := 247) (pc' := 259) rfl (hb hby at_247) rfl ((if0 _ _).trans (teq (by decide)).1) (by decide) (by decide) (XS.iconst X1.here hx rfl (hb hby at_259) (XS.istore X1.here hx rfl (hb hby at_260) rfl (l' := #[.val (.int i0), .val (.int i1), .val (.int i2), .val (.int i3), .val (.int ca), .val (.int cb), .val (.int 0), .val (.int 1), .val (.int c1), .val (.int c2), .val (.int 1), .val (.ref sa), .val (.ref sb), .val (.ref p0), .val rr, .val (.int 0), .val (.int 1), .unset]) rfl (XS.iload X1.here hx rfl (hb hby at_262) rfl (XS.ifNo X1.here hx rfl (hb hby at_264) rfl ((if0 _ _).trans (feq (by decide)).1) (XS.iload X1.here hx rfl (hb hby at_267) rfl (XS.ifNo X1.here hx rfl (hb hby at_269) rfl ((if0 _ _).trans (feq (by decide)).1) kont)))))))) ?_
                  refine own_go (S' := (T1.setTop (mkF m 279 #[.val (.int i0), .val (.int i1), .val (.int i2), .val (.int i3), .val (.int ca), .val (.int cb), .val (.int 0), .val (.int 1), .val (.int c1), .val (.int c2), .val (.int 1), .val (.ref sa), .val (.ref sb), .val (.ref p0), .val rr, .val (.int 0), .val (.int 1), .unset] []))) (fun _ kont => XS.iconst X1.here hx rfl (hb hby at_272) (XS.goto X1.here hx rfl (pc0 := 273) (pc' := 277) rfl (hb hby at_273) (by decide) (by decide) (XS.istore X1.here hx rfl (hb hby at_277) rfl (l' := #[.val (.int i0), .val (.int i1), .val (.int i2), .val (.int i3), .val (.int ca), .val (.int cb), .val (.int 0), .val (.int 1), .val (.int c1), .val (.int c2), .val (.int 1), .val (.ref sa), .val (.ref sb), .val (.ref p0), .val rr, .val (.int 0), .val (.int 1), .unset]) rfl kont))) ?_
                  exact K279 (0 : Int32) (1 : Int32) (by decide) (by decide) (by simpa only [own_and0, own_and1] using hr)
              · rcases hdb with rfl | rfl
                · refine own_go (S' := (T1.setTop (mkF m 276 #[.val (.int i0), .val (.int i1), .val (.int i2), .val (.int i3), .val (.int ca), .val (.int cb), .val (.int 1), .val (.int 0), .val (.int c1), .val (.int c2), .val (.int 1), .val (.ref sa), .val (.ref sb), .val (.ref p0), .val rr, .val (.int 0), .val (.int 1), .unset] []))) (fun _ kont => XS.iload X1.here hx rfl (hb hby at_245) rfl (XS.ifYes X1.here hx rfl (pc0 := 247) (pc' := 259) rfl (hb hby at_247) rfl ((if0 _ _).trans (teq (by decide)).1) (by decide) (by decide) (XS.iconst X1.here hx rfl (hb hby at_259) (XS.istore X1.here hx rfl (hb hby at_260) rfl (l' := #[.val (.int i0), .val (.int i1), .val (.int i2), .val (.int i3), .val (.int ca), .val (.int cb), .val (.int 1), .val (.int 0), .val (.int c1), .val (.int c2), .val (.int 1), .val (.ref sa), .val (.ref sb), .val (.ref p0), .val rr, .val (.int 0), .val (.int 1), .unset]) rfl (XS.iload X1.here hx rfl (hb hby at_262) rfl (XS.ifNo X1.here hx rfl (hb hby at_264) rfl ((if0 _ _).trans (feq (by decide)).1) (XS.iload X1.here hx rfl (hb hby at_267) rfl (XS.ifYes X1.here hx rfl (pc0 := 269) (pc' := 276) rfl (hb hby at_269) rfl ((if0 _ _).trans (teq (by decide)).1) (by decide) (by decide) kont)))))))) ?_
                  refine own_go (S' := (T1.setTop (mkF m 279 #[.val (.int i0), .val (.int i1), .val (.int i2), .val (.int i3), .val (.int ca), .val (.int cb), .val (.int 1), .val (.int 0), .val (.int c1), .val (.int c2), .val (.int 1), .val (.ref sa), .val (.ref sb), .val (.ref p0), .val rr, .val (.int 0), .val (.int 0), .unset] []))) (fun _ kont => XS.iconst X1.here hx rfl (hb hby at_276) (XS.istore X1.here hx rfl (hb hby at_277) rfl (l' := #[.val (.int i0), .val (.int i1), .val (.int i2), .val (.int i3), .val (.int ca), .val (.int cb), .val (.int 1), .val (.int 0), .val (.int c1), .val (.int c2), .val (.int 1), .val (.ref sa), .val (.ref sb), .val (.ref p0), .val rr, .val (.int 0), .val (.int 0), .unset]) rfl kont)) ?_
                  exact K279 (0 : Int32) (0 : Int32) (by decide) (by decide) (by simpa only [own_and0, own_and1] using hr)
                · refine own_go (S' := (T1.setTop (mkF m 272 #[.val (.int i0), .val (.int i1), .val (.int i2), .val (.int i3), .val (.int ca), .val (.int cb), .val (.int 1), .val (.int 1), .val (.int c1), .val (.int c2), .val (.int 1), .val (.ref sa), .val (.ref sb), .val (.ref p0), .val rr, .val (.int 0), .val (.int 1), .unset] []))) (fun _ kont => XS.iload X1.here hx rfl (hb hby at_245) rfl (XS.ifYes X1.here hx rfl (pc0 := 247) (pc' := 259) rfl (hb hby at_247) rfl ((if0 _ _).trans (teq (by decide)).1) (by decide) (by decide) (XS.iconst X1.here hx rfl (hb hby at_259) (XS.istore X1.here hx rfl (hb hby at_260) rfl (l' := #[.val (.int i0), .val (.int i1), .val (.int i2), .val (.int i3), .val (.int ca), .val (.int cb), .val (.int 1), .val (.int 1), .val (.int c1), .val (.int c2), .val (.int 1), .val (.ref sa), .val (.ref sb), .val (.ref p0), .val rr, .val (.int 0), .val (.int 1), .unset]) rfl (XS.iload X1.here hx rfl (hb hby at_262) rfl (XS.ifNo X1.here hx rfl (hb hby at_264) rfl ((if0 _ _).trans (feq (by decide)).1) (XS.iload X1.here hx rfl (hb hby at_267) rfl (XS.ifNo X1.here hx rfl (hb hby at_269) rfl ((if0 _ _).trans (feq (by decide)).1) kont)))))))) ?_
                  refine own_go (S' := (T1.setTop (mkF m 279 #[.val (.int i0), .val (.int i1), .val (.int i2), .val (.int i3), .val (.int ca), .val (.int cb), .val (.int 1), .val (.int 1), .val (.int c1), .val (.int c2), .val (.int 1), .val (.ref sa), .val (.ref sb), .val (.ref p0), .val rr, .val (.int 0), .val (.int 1), .unset] []))) (fun _ kont => XS.iconst X1.here hx rfl (hb hby at_272) (XS.goto X1.here hx rfl (pc0 := 273) (pc' := 277) rfl (hb hby at_273) (by decide) (by decide) (XS.istore X1.here hx rfl (hb hby at_277) rfl (l' := #[.val (.int i0), .val (.int i1), .val (.int i2), .val (.int i3), .val (.int ca), .val (.int cb), .val (.int 1), .val (.int 1), .val (.int c1), .val (.int c2), .val (.int 1), .val (.ref sa), .val (.ref sb), .val (.ref p0), .val rr, .val (.int 0), .val (.int 1), .unset]) rfl kont))) ?_
                  exact K279 (0 : Int32) (1 : Int32) (by decide) (by decide) (by simpa only [own_and0, own_and1] using hr)
          · rcases hhb with rfl | rfl
            · rcases hda with rfl | rfl
              · rcases hdb with rfl | rfl
                · refine own_go (S' := (T1.setTop (mkF m 276 #[.val (.int i0), .val (.int i1), .val (.int i2), .val (.int i3), .val (.int ca), .val (.int cb), .val (.int 0), .val (.int 0), .val (.int c1), .val (.int c2), .val (.int 1), .val (.ref sa), .val (.ref sb), .val (.ref p0), .val rr, .val (.int 0), .val (.int 0), .unset] []))) (fun _ kont => XS.iload X1.here hx rfl (hb hby at_245) rfl (XS.ifNo X1.here hx rfl (hb hby at_247) rfl ((if0 _ _).trans (feq (by decide)).1) (XS.iload X1.here hx rfl (hb hby at_250) rfl (XS.ifYes X1.here hx rfl (pc0 := 252) (pc' := 259) rfl (hb hby at_252) rfl ((if0 _ _).trans (teq (by decide)).1) (by decide) (by decide) (XS.iconst X1.here hx rfl (hb hby at_259) (XS.istore X1.here hx rfl (hb hby at_260) rfl (l' := #[.val (.int i0), .val (.int i1), .val (.int i2), .val (.int i3), .val (.int ca), .val (.int cb), .val (.int 0), .val (.int 0), .val (.int c1), .val (.int c2), .val (.int 1), .val (.ref sa), .val (.ref sb), .val (.ref p0), .val rr, .val (.int 0), .val (.int 0), .unset]) rfl (XS.iload X1.here hx rfl (hb hby at_262) rfl (XS.ifYes X1.here hx rfl (pc0 := 264) (pc' := 276) rfl (hb hby at_264) rfl ((if0 _ _).trans (teq (by decide)).1) (by decide) (by decide) kont)))))))) ?_
                  refine own_go (S' := (T1.setTop (mkF m 279 #[.val (.int i0), .val (.int i1), .val (.int i2), .val (.int i3), .val (.int ca), .val (.int cb), .val (.int 0), .val (.int 0), .val (.int c1), .val (.int c2), .val (.int 1), .val (.ref sa), .val (.ref sb), .val (.ref p0), .val rr, .val (.int 0), .val (.int 0), .unset] []))) (fun _ kont => XS.iconst X1.here hx rfl (hb hby at_276) (XS.istore X1.here hx rfl (hb hby at_277) rfl (l' := #[.val (.int i0), .val (.int i1), .val (.int i2), .val (.int i3), .val (.int ca), .val (.int cb), .val (.int 0), .val (.int 0), .val (.int c1), .val (.int c2), .val (.int 1), .val (.ref sa), .val (.ref sb), .val (.ref p0), .val rr, .val (.int 0), .val (.int 0), .unset]) rfl kont)) ?_
                  exact K279 (0 : Int32) (0 : Int32) (by decide) (by decide) (by simpa only [own_and0, own_and1] using hr)
                · refine own_go (S' := (T1.setTop (mkF m 276 #[.val (.int i0), .val (.int i1), .val (.int i2), .val (.int i3), .val (.int ca), .val (.int cb), .val (.int 0), .val (.int 1), .val (.int c1), .val (.int c2), .val (.int 1), .val (.ref sa), .val (.ref sb), .val (.ref p0), .val rr, .val (.int 0), .val (.int 0), .unset] []))) (fun _ kont => XS.iload X1.here hx rfl (hb hby at_245) rfl (XS.ifNo X1.here hx rfl (hb hby at_247) rfl ((if0 _ _).trans (feq (by decide)).1) (XS.iload X1.here hx rfl (hb hby at_250) rfl (XS.ifYes X1.here hx rfl (pc0 := 252) (pc' := 259) rfl (hb hby at_252) rfl ((if0 _ _).trans (teq (by decide)).1) (by decide) (by decide) (XS.iconst X1.here hx rfl (hb hby at_259) (XS.istore X1.here hx rfl (hb hby at_260) rfl (l' := #[.val (.int i0), .val (.int i1), .val (.int i2), .val (.int i3), .val (.int ca), .val (.int cb), .val (.int 0), .val (.int 1), .val (.int c1), .val (.int c2), .val (.int 1), .val (.ref sa), .val (.ref sb), .val (.ref p0), .val rr, .val (.int 0), .val (.int 0), .unset]) rfl (XS.iload X1.here hx rfl (hb hby at_262) rfl (XS.ifYes X1.here hx rfl (pc0 := 264) (pc' := 276) rfl (hb hby at_264) rfl ((if0 _ _).trans (teq (by decide)).1) (by decide) (by decide) kont)))))))) ?_
                  refine own_go (S' := (T1.setTop (mkF m 279 #[.val (.int i0), .val (.int i1), .val (.int i2), .val (.int i3), .val (.int ca), .val (.int cb), .val (.int 0), .val (.int 1), .val (.int c1), .val (.int c2), .val (.int 1), .val (.ref sa), .val (.ref sb), .val (.ref p0), .val rr, .val (.int 0), .val (.int 0), .unset] []))) (fun _ kont => XS.iconst X1.here hx rfl (hb hby at_276) (XS.istore X1.here hx rfl (hb hby at_277) rfl (l' := #[.val (.int i0), .val (.int i1), .val (.int i2), .val (.int i3), .val (.int ca), .val (.int cb), .val (.int 0), .val (.int 1), .val (.int c1), .val (.int c2), .val (.int 1), .val (.ref sa), .val (.ref sb), .val (.ref p0), .val rr, .val (.int 0), .val (.int 0), .unset]) rfl kont)) ?_
                  exact K279 (0 : Int32) (0 : Int32) (by decide) (by decide) (by simpa only [own_and0, own_and1] using hr)
              · rcases hdb with rfl | rfl
                · refine own_go (S' := (T1.setTop (mkF m 264 #[.val (.int i0), .val (.int i1), .val (.int i2), .val (.int i3), .val (.int ca), .val (.int cb), .val (.int 1), .val (.int 0), .val (.int c1), .val (.int c2), .val (.int 1), .val (.ref sa), .val (.ref sb), .val (.ref p0), .val rr, .val (.int 1), .val (.int 0), .unset] [(.int 0)]))) (fun _ kont => XS.iload X1.here hx rfl (hb hby at_245) rfl (XS.ifNo X1.here hx rfl (hb hby at_247) rfl ((if0 _ _).trans (feq (by decide)).1) (XS.iload X1.here hx rfl (hb hby at_250) rfl (XS.ifNo X1.here hx rfl (hb hby at_252) rfl ((if0 _ _).trans (feq (by decide)).1) (XS.iconst X1.here hx rfl (hb hby at_255) (XS.goto X1.here hx rfl (pc0 := 256) (pc' := 260) rfl (hb hby at_256) (by decide) (by decide) (XS.istore X1.here hx rfl (hb hby at_260) rfl (l' := #[.val (.int i0), .val (.int i1), .val (.int i2), .val (.int i3), .val (.int ca), .val (.int cb), .val (.int 1), .val (.int 0), .val (.int c1), .val (.int c2), .val (.int 1), .val (.ref sa), .val (.ref sb), .val (.ref p0), .val rr, .val (.int 1), .val (.int 0), .unset]) rfl (XS.iload X1.here hx rfl (hb hby at_262) rfl kont)))))))) ?_
                  refine own_go (S' := (T1.setTop (mkF m 279 #[.val (.int i0), .val (.int i1), .val (.int i2), .val (.int i3), .val (.int ca), .val (.int cb), .val (.int 1), .val (.int 0), .val (.int c1), .val (.int c2), .val (.int 1), .val (.ref sa), .val (.ref sb), .val (.ref p0), .val rr, .val (.int 1), .val (.int 0), .unset] []))) (fun _ kont => XS.ifYes X1.here hx rfl (pc0 := 264) (pc' := 276) rfl (hb hby at_264) rfl ((if0 _ _).trans (teq (by decide)).1) (by decide) (by decide) (XS.iconst X1.here hx rfl (hb hby at_276) (XS.istore X1.here hx rfl (hb hby at_277) rfl (l' := #[.val (.int i0), .val (.int i1), .val (.int i2), .val (.int i3), .val (.int ca), .val (.int cb), .val (.int 1), .val (.int 0), .val (.int c1), .val (.int c2), .val (.int 1), .val (.ref sa), .val (.ref sb), .val (.ref p0), .val rr, .val (.int 1), .val (.int 0), .unset]) rfl kont))) ?_
                  exact K279 (1 : Int32) (0 : Int32) (by decide) (by decide) (by simpa only [own_and0, own_and1] using hr)
                · refine own_go (S' := (T1.setTop (mkF m 264 #[.val (.int i0), .val (.int i1), .val (.int i2), .val (.int i3), .val (.int ca), .val (.int cb), .val (.int 1), .val (.int 1), .val (.int c1), .val (.int c2), .val (.int 1), .val (.ref sa), .val (.ref sb), .val (.ref p0), .val rr, .val (.int 1), .val (.int 0), .unset] [(.int 0)]))) (fun _ kont => XS.iload X1.here hx rfl (hb hby at_245) rfl (XS.ifNo X1.here hx rfl (hb hby at_247) rfl ((if0 _ _).trans (feq (by decide)).1) (XS.iload X1.here hx rfl (hb hby at_250) rfl (XS.ifNo X1.here hx rfl (hb hby at_252) rfl ((if0 _ _).trans (feq (by decide)).1) (XS.iconst X1.here hx rfl (hb hby at_255) (XS.goto X1.here hx rfl (pc0 := 256) (pc' := 260) rfl (hb hby at_256) (by decide) (by decide) (XS.istore X1.here hx rfl (hb hby at_260) rfl (l' := #[.val (.int i0), .val (.int i1), .val (.int i2), .val (.int i3), .val (.int ca), .val (.int cb), .val (.int 1), .val (.int 1), .val (.int c1), .val (.int c2), .val (.int 1), .val (.ref sa), .val (.ref sb), .val (.ref p0), .val rr, .val (.int 1), .val (.int 0), .unset]) rfl (XS.iload X1.here hx rfl (hb hby at_262) rfl kont)))))))) ?_
                  refine own_go (S' := (T1.setTop (mkF m 279 #[.val (.int i0), .val (.int i1), .val (.int i2), .val (.int i3), .val (.int ca), .val (.int cb), .val (.int 1), .val (.int 1), .val (.int c1), .val (.int c2), .val (.int 1), .val (.ref sa), .val (.ref sb), .val (.ref p0), .val rr, .val (.int 1), .val (.int 0), .unset] []))) (fun _ kont => XS.ifYes X1.here hx rfl (pc0 := 264) (pc' := 276) rfl (hb hby at_264) rfl ((if0 _ _).trans (teq (by decide)).1) (by decide) (by decide) (XS.iconst X1.here hx rfl (hb hby at_276) (XS.istore X1.here hx rfl (hb hby at_277) rfl (l' := #[.val (.int i0), .val (.int i1), .val (.int i2), .val (.int i3), .val (.int ca), .val (.int cb), .val (.int 1), .val (.int 1), .val (.int c1), .val (.int c2), .val (.int 1), .val (.ref sa), .val (.ref sb), .val (.ref p0), .val rr, .val (.int 1), .val (.int 0), .unset]) rfl kont))) ?_
                  exact K279 (1 : Int32) (0 : Int32) (by decide) (by decide) (by simpa only [own_and0, own_and1] using hr)
            · rcases hda with rfl | rfl
              · rcases hdb with rfl | rfl
                · refine own_go (S' := (T1.setTop (mkF m 267 #[.val (.int i0), .val (.int i1), .val (.int i2), .val (.int i3), .val (.int ca), .val (.int cb), .val (.int 0), .val (.int 0), .val (.int c1), .val (.int c2), .val (.int 1), .val (.ref sa), .val (.ref sb), .val (.ref p0), .val rr, .val (.int 0), .val (.int 1), .unset] []))) (fun _ kont => XS.iload X1.here hx rfl (hb hby at_245) rfl (XS.ifNo X1.here hx rfl (hb hby at_247) rfl ((if0 _ _).trans (feq (by decide)).1) (XS.iload X1.here hx rfl (hb hby at_250) rfl (XS.ifYes X1.here hx rfl (pc0 := 252) (pc' := 259) rfl (hb hby at_252) rfl ((if0 _ _).trans (teq (by decide)).1) (by decide) (by decide) (XS.iconst X1.here hx rfl (hb hby at_259) (XS.istore X1.here hx rfl (hb hby at_260) rfl (l' := #[.val (.int i0), .val (.int i1), .val (.int i2), .val (.int i3), .val (.int ca), .val (.int cb), .val (.int 0), .val (.int 0), .val (.int c1), .val (.int c2), .val (.int 1), .val (.ref sa), .val (.ref sb), .val (.ref p0), .val rr, .val (.int 0), .val (.int 1), .unset]) rfl (XS.iload X1.here hx rfl (hb hby at_262) rfl (XS.ifNo X1.here hx rfl (hb hby at_264) rfl ((if0 _ _).trans (feq (by decide)).1) kont)))))))) ?_
                  refine own_go (S' := (T1.setTop (mkF m 279 #[.val (.int i0), .val (.int i1), .val (.int i2), .val (.int i3), .val (.int ca), .val (.int cb), .val (.int 0), .val (.int 0), .val (.int c1), .val (.int c2), .val (.int 1), .val (.ref sa), .val (.ref sb), .val (.ref p0), .val rr, .val (.int 0), .val (.int 0), .unset] []))) (fun _ kont => XS.iload X1.here hx rfl (hb hby at_267) rfl (XS.ifYes X1.here hx rfl (pc0 := 269) (pc' := 276) rfl (hb hby at_269) rfl ((if0 _ _).trans (teq (by decide)).1) (by decide) (by decide) (XS.iconst X1.here hx rfl (hb hby at_276) (XS.istore X1.here hx rfl (hb hby at_277) rfl (l' := #[.val (.int i0), .val (.int i1), .val (.int i2), .val (.int i3), .val (.int ca), .val (.int cb), .val (.int 0), .val (.int 0), .val (.int c1), .val (.int c2), .val (.int 1), .val (.ref sa), .val (.ref sb), .val (.ref p0), .val rr, .val (.int 0), .val (.int 0), .unset]) rfl kont)))) ?_
                  exact K279 (0 : Int32) (0 : Int32) (by decide) (by decide) (by simpa only [own_and0, own_and1] using hr)
                · refine own_go (S' := (T1.setTop (mkF m 267 #[.val (.int i0), .val (.int i1), .val (.int i2), .val (.int i3), .val (.int ca), .val (.int cb), .val (.int 0), .val (.int 1), .val (.int c1), .val (.int c2), .val (.int 1), .val (.ref sa), .val (.ref sb), .val (.ref p0), .val rr, .val (.int 0), .val (.int 1), .unset] []))) (fun _ kont => XS.iload X1.here hx rfl (hb hby at_245) rfl (XS.ifNo X1.here hx rfl (hb hby at_247) rfl ((if0 _ _).trans (feq (by decide)).1) (XS.iload X1.here hx rfl (hb hby at_250) rfl (XS.ifYes X1.here hx rfl (pc0 := 252) (pc' := 259) rfl (hb hby at_252) rfl ((if0 _ _).trans (teq (by decide)).1) (by decide) (by decide) (XS.iconst X1.here hx rfl (hb hby at_259) (XS.istore X1.here hx rfl (hb hby at_260) rfl (l' := #[.val (.int i0), .val (.int i1), .val (.int i2), .val (.int i3), .val (.int ca), .val (.int cb), .val (.int 0), .val (.int 1), .val (.int c1), .val (.int c2), .val (.int 1), .val (.ref sa), .val (.ref sb), .val (.ref p0), .val rr, .val (.int 0), .val (.int 1), .unset]) rfl (XS.iload X1.here hx rfl (hb hby at_262) rfl (XS.ifNo X1.here hx rfl (hb hby at_264) rfl ((if0 _ _).trans (feq (by decide)).1) kont)))))))) ?_
                  refine own_go (S' := (T1.setTop (mkF m 279 #[.val (.int i0), .val (.int i1), .val (.int i2), .val (.int i3), .val (.int ca), .val (.int cb), .val (.int 0), .val (.int 1), .val (.int c1), .val (.int c2), .val (.int 1), .val (.ref sa), .val (.ref sb), .val (.ref p0), .val rr, .val (.int 0), .val (.int 1), .unset] []))) (fun _ kont => XS.iload X1.here hx rfl (hb hby at_267) rfl (XS.ifNo X1.here hx rfl (hb hby at_269) rfl ((if0 _ _).trans (feq (by decide)).1) (XS.iconst X1.here hx rfl (hb hby at_272) (XS.goto X1.here hx rfl (pc0 := 273) (pc' := 277) rfl (hb hby at_273) (by decide) (by decide) (XS.istore X1.here hx rfl (hb hby at_277) rfl (l' := #[.val (.int i0), .val (.int i1), .val (.int i2), .val (.int i3), .val (.int ca), .val (.int cb), .val (.int 0), .val (.int 1), .val (.int c1), .val (.int c2), .val (.int 1), .val (.ref sa), .val (.ref sb), .val (.ref p0), .val rr, .val (.int 0), .val (.int 1), .unset]) rfl kont))))) ?_
                  exact K279 (0 : Int32) (1 : Int32) (by decide) (by decide) (by simpa only [own_and0, own_and1] using hr)
              · rcases hdb with rfl | rfl
                · refine own_go (S' := (T1.setTop (mkF m 264 #[.val (.int i0), .val (.int i1), .val (.int i2), .val (.int i3), .val (.int ca), .val (.int cb), .val (.int 1), .val (.int 0), .val (.int c1), .val (.int c2), .val (.int 1), .val (.ref sa), .val (.ref sb), .val (.ref p0), .val rr, .val (.int 1), .val (.int 1), .unset] [(.int 1)]))) (fun _ kont => XS.iload X1.here hx rfl (hb hby at_245) rfl (XS.ifNo X1.here hx rfl (hb hby at_247) rfl ((if0 _ _).trans (feq (by decide)).1) (XS.iload X1.here hx rfl (hb hby at_250) rfl (XS.ifNo X1.here hx rfl (hb hby at_252) rfl ((if0 _ _).trans (feq (by decide)).1) (XS.iconst X1.here hx rfl (hb hby at_255) (XS.goto X1.here hx rfl (pc0 := 256) (pc' := 260) rfl (hb hby at_256) (by decide) (by decide) (XS.istore X1.here hx rfl (hb hby at_260) rfl (l' := #[.val (.int i0), .val (.int i1), .val (.int i2), .val (.int i3), .val (.int ca), .val (.int cb), .val (.int 1), .val (.int 0), .val (.int c1), .val (.int c2), .val (.int 1), .val (.ref sa), .val (.ref sb), .val (.ref p0), .val rr, .val (.int 1), .val (.int 1), .unset]) rfl (XS.iload X1.here hx rfl (hb hby at_262) rfl kont)))))))) ?_
                  refine own_go (S' := (T1.setTop (mkF m 279 #[.val (.int i0), .val (.int i1), .val (.int i2), .val (.int i3), .val (.int ca), .val (.int cb), .val (.int 1), .val (.int 0), .val (.int c1), .val (.int c2), .val (.int 1), .val (.ref sa), .val (.ref sb), .val (.ref p0), .val rr, .val (.int 1), .val (.int 0), .unset] []))) (fun _ kont => XS.ifNo X1.here hx rfl (hb hby at_264) rfl ((if0 _ _).trans (feq (by decide)).1) (XS.iload X1.here hx rfl (hb hby at_267) rfl (XS.ifYes X1.here hx rfl (pc0 := 269) (pc' := 276) rfl (hb hby at_269) rfl ((if0 _ _).trans (teq (by decide)).1) (by decide) (by decide) (XS.iconst X1.here hx rfl (hb hby at_276) (XS.istore X1.here hx rfl (hb hby at_277) rfl (l' := #[.val (.int i0), .val (.int i1), .val (.int i2), .val (.int i3), .val (.int ca), .val (.int cb), .val (.int 1), .val (.int 0), .val (.int c1), .val (.int c2), .val (.int 1), .val (.ref sa), .val (.ref sb), .val (.ref p0), .val rr, .val (.int 1), .val (.int 0), .unset]) rfl kont))))) ?_
                  exact K279 (1 : Int32) (0 : Int32) (by decide) (by decide) (by simpa only [own_and0, own_and1] using hr)
                · refine own_go (S' := (T1.setTop (mkF m 264 #[.val (.int i0), .val (.int i1), .val (.int i2), .val (.int i3), .val (.int ca), .val (.int cb), .val (.int 1), .val (.int 1), .val (.int c1), .val (.int c2), .val (.int 1), .val (.ref sa), .val (.ref sb), .val (.ref p0), .val rr, .val (.int 1), .val (.int 1), .unset] [(.int 1)]))) (fun _ kont => XS.iload X1.here hx rfl (hb hby at_245) rfl (XS.ifNo X1.here hx rfl (hb hby at_247) rfl ((if0 _ _).trans (feq (by decide)).1) (XS.iload X1.here hx rfl (hb hby at_250) rfl (XS.ifNo X1.here hx rfl (hb hby at_252) rfl ((if0 _ _).trans (feq (by decide)).1) (XS.iconst X1.here hx rfl (hb hby at_255) (XS.goto X1.here hx rfl (pc0 := 256) (pc' := 260) rfl (hb hby at_256) (by decide) (by decide) (XS.istore X1.here hx rfl (hb hby at_260) rfl (l' := #[.val (.int i0), .val (.int i1), .val (.int i2), .val (.int i3), .val (.int ca), .val (.int cb), .val (.int 1), .val (.int 1), .val (.int c1), .val (.int c2), .val (.int 1), .val (.ref sa), .val (.ref sb), .val (.ref p0), .val rr, .val (.int 1), .val (.int 1), .unset]) rfl (XS.iload X1.here hx rfl (hb hby at_262) rfl kont)))))))) ?_
                  refine own_go (S' := (T1.setTop (mkF m 279 #[.val (.int i0), .val (.int i1), .val (.int i2), .val (.int i3), .val (.int ca), .val (.int cb), .val (.int 1), .val (.int 1), .val (.int c1), .val (.int c2), .val (.int 1), .val (.ref sa), .val (.ref sb), .val (.ref p0), .val rr, .val (.int 1), .val (.int 1), .unset] []))) (fun _ kont => XS.ifNo X1.here hx rfl (hb hby at_264) rfl ((if0 _ _).trans (feq (by decide)).1) (XS.iload X1.here hx rfl (hb hby at_267) rfl (XS.ifNo X1.here hx rfl (hb hby at_269) rfl ((if0 _ _).trans (feq (by decide)).1) (XS.iconst X1.here hx rfl (hb hby at_272) (XS.goto X1.here hx rfl (pc0 := 273) (pc' := 277) rfl (hb hby at_273) (by decide) (by decide) (XS.istore X1.here hx rfl (hb hby at_277) rfl (l' := #[.val (.int i0), .val (.int i1), .val (.int i2), .val (.int i3), .val (.int ca), .val (.int cb), .val (.int 1), .val (.int 1), .val (.int c1), .val (.int c2), .val (.int 1), .val (.ref sa), .val (.ref sb), .val (.ref p0), .val rr, .val (.int 1), .val (.int 1), .unset]) rfl kont)))))) ?_
                  exact K279 (1 : Int32) (1 : Int32) (by decide) (by decide) (by simpa only [own_and0, own_and1] using hr)
      have K219 : own_Go p e below s (Q_rm0 Z i0 i1 i2 i3 aN aI aD aG kI h0 n0) room_1.cells room_1.slots (T1.setTop (mkF m 219 #[.val (.int i0), .val (.int i1), .val (.int i2), .val (.int i3), .val (.int ca), .val (.int cb), .val (.int da), .val (.int db), .val (.int c1), .val (.int c2), .val (.int kp), .val (.ref sa), .val (.ref sb), .val (.ref p0), .val rr, .unset, .unset, .unset] [(.int wa)])) := by
        refine own_go (S' := (T1.setTop (mkF m 224 #[.val (.int i0), .val (.int i1), .val (.int i2), .val (.int i3), .val (.int ca), .val (.int cb), .val (.int da), .val (.int db), .val (.int c1), .val (.int c2), .val (.int kp), .val (.ref sa), .val (.ref sb), .val (.ref p0), .val rr, .val (.int wa), .unset, .unset] [(.int 2), (.int c1)]))) (fun _ kont => XS.istore X1.here hx rfl (hb hby at_219) rfl (l' := #[.val (.int i0), .val (.int i1), .val (.int i2), .val (.int i3), .val (.int ca), .val (.int cb), .val (.int da), .val (.int db), .val (.int c1), .val (.int c2), .val (.int kp), .val (.ref sa), .val (.ref sb), .val (.ref p0), .val rr, .val (.int wa), .unset, .unset]) rfl (XS.iload X1.here hx rfl (hb hby at_221) rfl (XS.iconst X1.here hx rfl (hb hby at_223) kont))) ?_
        by_cases b1 : c1 = (2 : Int32)
        · refine own_go (S' := (T1.setTop (mkF m 238 #[.val (.int i0), .val (.int i1), .val (.int i2), .val (.int i3), .val (.int ca), .val (.int cb), .val (.int da), .val (.int db), .val (.int c1), .val (.int c2), .val (.int kp), .val (.ref sa), .val (.ref sb), .val (.ref p0), .val rr, .val (.int wa), .unset, .unset] [(.int 1)]))) (fun _ kont => XS.icmpYes X1.here hx rfl (pc0 := 224) (pc' := 233) rfl (hb hby at_224) rfl (teq b1).1 (by decide) (by decide) (XS.iconst X1.here hx rfl (hb hby at_233) (XS.goto X1.here hx rfl (pc0 := 234) (pc' := 238) rfl (hb hby at_234) (by decide) (by decide) kont))) ?_
          refine own_go (S' := (T1.setTop (mkF m 238 #[.val (.int i0), .val (.int i1), .val (.int i2), .val (.int i3), .val (.int ca), .val (.int cb), .val (.int da), .val (.int db), .val (.int c1), .val (.int c2), .val (.int kp), .val (.ref sa), .val (.ref sb), .val (.ref p0), .val rr, .val (.int wa), .unset, .unset] [.int wb]))) (fun _ kont => by rw [show wb = (1 : Int32) from hB.trans (if_pos b1)] at kont; exact kont) ?_
          exact K238
        · refine own_go (S' := (T1.setTop (mkF m 230 #[.val (.int i0), .val (.int i1), .val (.int i2), .val (.int i3), .val (.int ca), .val (.int cb), .val (.int da), .val (.int db), .val (.int c1), .val (.int c2), .val (.int kp), .val (.ref sa), .val (.ref sb), .val (.ref p0), .val rr, .val (.int wa), .unset, .unset] [(.int 2), (.int c2)]))) (fun _ kont => XS.icmpNo X1.here hx rfl (hb hby at_224) rfl (feq b1).1 (XS.iload X1.here hx rfl (hb hby at_227) rfl (XS.iconst X1.here hx rfl (hb hby at_229) kont))) ?_
          by_cases b2 : c2 = (2 : Int32)
          · refine own_go (S' := (T1.setTop (mkF m 238 #[.val (.int i0), .val (.int i1), .val (.int i2), .val (.int i3), .val (.int ca), .val (.int cb), .val (.int da), .val (.int db), .val (.int c1), .val (.int c2), .val (.int kp), .val (.ref sa), .val (.ref sb), .val (.ref p0), .val rr, .val (.int wa), .unset, .unset] [(.int 1)]))) (fun _ kont => XS.icmpNo X1.here hx rfl (hb hby at_230) rfl (teq b2).2 (XS.iconst X1.here hx rfl (hb hby at_233) (XS.goto X1.here hx rfl (pc0 := 234) (pc' := 238) rfl (hb hby at_234) (by decide) (by decide) kont))) ?_
            refine own_go (S' := (T1.setTop (mkF m 238 #[.val (.int i0), .val (.int i1), .val (.int i2), .val (.int i3), .val (.int ca), .val (.int cb), .val (.int da), .val (.int db), .val (.int c1), .val (.int c2), .val (.int kp), .val (.ref sa), .val (.ref sb), .val (.ref p0), .val rr, .val (.int wa), .unset, .unset] [.int wb]))) (fun _ kont => by rw [show wb = (1 : Int32) from hB.trans ((if_neg b1).trans (if_pos b2))] at kont; exact kont) ?_
            exact K238
          · refine own_go (S' := (T1.setTop (mkF m 238 #[.val (.int i0), .val (.int i1), .val (.int i2), .val (.int i3), .val (.int ca), .val (.int cb), .val (.int da), .val (.int db), .val (.int c1), .val (.int c2), .val (.int kp), .val (.ref sa), .val (.ref sb), .val (.ref p0), .val rr, .val (.int wa), .unset, .unset] [(.int 0)]))) (fun _ kont => XS.icmpYes X1.here hx rfl (pc0 := 230) (pc' := 237) rfl (hb hby at_230) rfl (feq b2).2 (by decide) (by decide) (XS.iconst X1.here hx rfl (hb hby at_237) kont)) ?_
            refine own_go (S' := (T1.setTop (mkF m 238 #[.val (.int i0), .val (.int i1), .val (.int i2), .val (.int i3), .val (.int ca), .val (.int cb), .val (.int da), .val (.int db), .val (.int c1), .val (.int c2), .val (.int kp), .val (.ref sa), .val (.ref sb), .val (.ref p0), .val rr, .val (.int wa), .unset, .unset] [.int wb]))) (fun _ kont => by rw [show wb = (0 : Int32) from hB.trans ((if_neg b1).trans (if_neg b2))] at kont; exact kont) ?_
            exact K238
      refine own_go (S' := (T1.setTop (mkF m 205 #[.val (.int i0), .val (.int i1), .val (.int i2), .val (.int i3), .val (.int ca), .val (.int cb), .val (.int da), .val (.int db), .val (.int c1), .val (.int c2), .val (.int kp), .val (.ref sa), .val (.ref sb), .val (.ref p0), .val rr, .unset, .unset, .unset] [(.int 1), (.int c1)]))) (fun _ kont => XS.iload X1.here hx rfl (hb hby at_202) rfl (XS.iconst X1.here hx rfl (hb hby at_204) kont)) ?_
      by_cases b1 : c1 = (1 : Int32)
      · refine own_go (S' := (T1.setTop (mkF m 219 #[.val (.int i0), .val (.int i1), .val (.int i2), .val (.int i3), .val (.int ca), .val (.int cb), .val (.int da), .val (.int db), .val (.int c1), .val (.int c2), .val (.int kp), .val (.ref sa), .val (.ref sb), .val (.ref p0), .val rr, .unset, .unset, .unset] [(.int 1)]))) (fun _ kont => XS.icmpYes X1.here hx rfl (pc0 := 205) (pc' := 214) rfl (hb hby at_205) rfl (teq b1).1 (by decide) (by decide) (XS.iconst X1.here hx rfl (hb hby at_214) (XS.goto X1.here hx rfl (pc0 := 215) (pc' := 219) rfl (hb hby at_215) (by decide) (by decide) kont))) ?_
        refine own_go (S' := (T1.setTop (mkF m 219 #[.val (.int i0), .val (.int i1), .val (.int i2), .val (.int i3), .val (.int ca), .val (.int cb), .val (.int da), .val (.int db), .val (.int c1), .val (.int c2), .val (.int kp), .val (.ref sa), .val (.ref sb), .val (.ref p0), .val rr, .unset, .unset, .unset] [.int wa]))) (fun _ kont => by rw [show wa = (1 : Int32) from hA.trans (if_pos b1)] at kont; exact kont) ?_
        exact K219
      · refine own_go (S' := (T1.setTop (mkF m 211 #[.val (.int i0), .val (.int i1), .val (.int i2), .val (.int i3), .val (.int ca), .val (.int cb), .val (.int da), .val (.int db), .val (.int c1), .val (.int c2), .val (.int kp), .val (.ref sa), .val (.ref sb), .val (.ref p0), .val rr, .unset, .unset, .unset] [(.int 1), (.int c2)]))) (fun _ kont => XS.icmpNo X1.here hx rfl (hb hby at_205) rfl (feq b1).1 (XS.iload X1.here hx rfl (hb hby at_208) rfl (XS.iconst X1.here hx rfl (hb hby at_210) kont))) ?_
        by_cases b2 : c2 = (1 : Int32)
        · refine own_go (S' := (T1.setTop (mkF m 219 #[.val (.int i0), .val (.int i1), .val (.int i2), .val (.int i3), .val (.int ca), .val (.int cb), .val (.int da), .val (.int db), .val (.int c1), .val (.int c2), .val (.int kp), .val (.ref sa), .val (.ref sb), .val (.ref p0), .val rr, .unset, .unset, .unset] [(.int 1)]))) (fun _ kont => XS.icmpNo X1.here hx rfl (hb hby at_211) rfl (teq b2).2 (XS.iconst X1.here hx rfl (hb hby at_214) (XS.goto X1.here hx rfl (pc0 := 215) (pc' := 219) rfl (hb hby at_215) (by decide) (by decide) kont))) ?_
          refine own_go (S' := (T1.setTop (mkF m 219 #[.val (.int i0), .val (.int i1), .val (.int i2), .val (.int i3), .val (.int ca), .val (.int cb), .val (.int da), .val (.int db), .val (.int c1), .val (.int c2), .val (.int kp), .val (.ref sa), .val (.ref sb), .val (.ref p0), .val rr, .unset, .unset, .unset] [.int wa]))) (fun _ kont => by rw [show wa = (1 : Int32) from hA.trans ((if_neg b1).trans (if_pos b2))] at kont; exact kont) ?_
          exact K219
        · refine own_go (S' := (T1.setTop (mkF m 219 #[.val (.int i0), .val (.int i1), .val (.int i2), .val (.int i3), .val (.int ca), .val (.int cb), .val (.int da), .val (.int db), .val (.int c1), .val (.int c2), .val (.int kp), .val (.ref sa), .val (.ref sb), .val (.ref p0), .val rr, .unset, .unset, .unset] [(.int 0)]))) (fun _ kont => XS.icmpYes X1.here hx rfl (pc0 := 211) (pc' := 218) rfl (hb hby at_211) rfl (feq b2).2 (by decide) (by decide) (XS.iconst X1.here hx rfl (hb hby at_218) kont)) ?_
          refine own_go (S' := (T1.setTop (mkF m 219 #[.val (.int i0), .val (.int i1), .val (.int i2), .val (.int i3), .val (.int ca), .val (.int cb), .val (.int da), .val (.int db), .val (.int c1), .val (.int c2), .val (.int kp), .val (.ref sa), .val (.ref sb), .val (.ref p0), .val rr, .unset, .unset, .unset] [.int wa]))) (fun _ kont => by rw [show wa = (0 : Int32) from hA.trans ((if_neg b1).trans (if_neg b2))] at kont; exact kont) ?_
          exact K219
    have K184 : ∀ (wa wb : Int32) (hha : wa = 0 ∨ wa = 1) (hhb : wb = 0 ∨ wb = 1) (hA : wa = own_has c1 c2 1) (hB : wb = own_has c1 c2 2) (sa sb p0 : Addr) (nP : Nat) (n0P : n0 ≤ nP) (Tk : State) (lk : List Loc) (Xk : Stand p l e room_1 s m #[(.int i0), (.int i1), (.int i2), (.int i3)] below meth c Tk lk 10 68) (Zk : n0 ≤ Tk.heap.size) (Nk : Fr n0 lk) (hnP : nP ≤ Tk.heap.size) (PE : own_E Z Tk.heap nP p0 sa ca sb cb wa wb) (Ta : own_T Z nP Tk.heap sa i0 ca da) (Tb : own_T Z nP Tk.heap sb i1 cb db), own_Go p e below s (Q_rm0 Z i0 i1 i2 i3 aN aI aD aG kI h0 n0) room_1.cells room_1.slots (Tk.setTop (mkF m 184 #[.val (.int i0), .val (.int i1), .val (.int i2), .val (.int i3), .val (.int ca), .val (.int cb), .val (.int da), .val (.int db), .val (.int c1), .val (.int c2), .val (.int kp), .val (.ref sa), .val (.ref sb), .val (.ref p0), .unset, .unset, .unset, .unset] [])) := by
      intro wa wb hha hhb hA hB sa sb p0 nP n0P Tk lk Xk Zk Nk hnP PE Ta Tb
      have E_p0 := PE.E
      refine own_go (S' := (Tk.setTop (mkF m 186 #[.val (.int i0), .val (.int i1), .val (.int i2), .val (.int i3), .val (.int ca), .val (.int cb), .val (.int da), .val (.int db), .val (.int c1), .val (.int c2), .val (.int kp), .val (.ref sa), .val (.ref sb), .val (.ref p0), .unset, .unset, .unset, .unset] [(.int kp)]))) (fun _ kont => XS.iload Xk.here hx rfl (hb hby at_184) rfl kont) ?_
      rcases hkp with rfl | rfl
      · refine own_go (S' := (Tk.setTop (mkF m 195 #[.val (.int i0), .val (.int i1), .val (.int i2), .val (.int i3), .val (.int ca), .val (.int cb), .val (.int da), .val (.int db), .val (.int c1), .val (.int c2), .val (.int 0), .val (.ref sa), .val (.ref sb), .val (.ref p0), .unset, .unset, .unset, .unset] []))) (fun _ kont => XS.ifYes Xk.here hx rfl (pc0 := 186) (pc' := 195) rfl (hb hby at_186) rfl ((if0 _ _).trans (teq (by decide)).1) (by decide) (by decide) kont) ?_
        exact K195 wa wb hha hhb hA hB sa sb p0 _ (own_r2_ref _ _ _ _ _ _) nP Tk lk Xk Zk Nk hnP PE.R (if_pos rfl).symm
      · refine own_go (S' := (Tk.setTop (mkF m 192 #[.val (.int i0), .val (.int i1), .val (.int i2), .val (.int i3), .val (.int ca), .val (.int cb), .val (.int da), .val (.int db), .val (.int c1), .val (.int c2), .val (.int 1), .val (.ref sa), .val (.ref sb), .val (.ref p0), .unset, .unset, .unset, .unset] [(.int i3), (.ref p0)]))) (fun _ kont => XS.ifNo Xk.here hx rfl (hb hby at_186) rfl ((if0 _ _).trans (feq (by decide)).1) (XS.aload Xk.here hx rfl (hb hby at_189) rfl rfl (XS.iloadN Xk.here hx rfl (hb hby at_191) rfl kont))) ?_
        rcases PE with ⟨rfl, rfl, P⟩ | ⟨rfl, rfl, P⟩ | ⟨rfl, rfl, P⟩ | ⟨rfl, rfl, P | P⟩
        · obtain ⟨cq2, kq2, q2a, q2b, q2c⟩ := isOf hZ rfl E_p0
          obtain ⟨v2, _, ⟨T2, L2, k2, n2⟩, -, X2, ⟨Lc2, hQ2, l2, y2, z2⟩, st2⟩ := Xk.virtualBack hx (y := (⟨"com/example/otaniemi/otaniemi/Pending", "keepEndsAbove", "(I)V"⟩ : MethodName)) (z := (⟨"com/example/otaniemi/otaniemi/Pending", "keepEndsAbove", "(I)V"⟩ : MethodName)) hown (mvT hZ (oH hw 135 rfl)) (mvT hZ (oH hw 136 rfl)) (notFace_of_selects (args := #[]) (mvT hZ (oH hw 138 rfl))) (mvT hZ (oH hw 138 rfl)) (mvT hZ (oH hw 137 rfl)) (by decide) (backOf (W := 0) (rmK0 l Z a0 hw [] p0 i3 Tk.heap nP hnP P) hZ (oH hw 139 rfl) (oH hw 56 rfl) (by decide) (by decide)) q2a q2c (g := (mkF m 192 #[.val (.int i0), .val (.int i1), .val (.int i2), .val (.int i3), .val (.int ca), .val (.int cb), .val (.int da), .val (.int db), .val (.int c1), .val (.int c2), .val (.int 1), .val (.ref sa), .val (.ref sb), .val (.ref p0), .unset, .unset, .unset, .unset] [(.int i3), (.ref p0)])) rfl (by rw [hml]; rfl) (Steps.refl _) (argsL := [(.int i3)]) (rest := []) (lenOf pd_403 rfl) rfl (by show 2 * 0 + _ ≤ _; exact Nat.le_of_eq rfl) (hb hby at_192) (fun _ _ => ⟨rfl, rfl, (by decide : 10 + 0 ≤ _), (by decide : 68 + 0 ≤ _)⟩)
          dsimp only [Pt.U, Pt.locs, Pt.cells, Pt.slots] at X2 l2 y2 z2 st2 hQ2
          subst l2 y2 z2
          obtain ⟨rfl, Nr2, Kp2, PR2⟩ := hQ2
          have Nq2 : Fr n0 Lc2 := fun y hy => Nat.le_trans n0P (Nr2 y hy)
          have N2 := Fr.app Nk Nq2
          have Z2 : n0 ≤ T2.heap.size := Nat.le_trans Zk Kp2.1
          refine own_goT (S' := (T2.setTop (mkF m 195 #[.val (.int i0), .val (.int i1), .val (.int i2), .val (.int i3), .val (.int ca), .val (.int cb), .val (.int da), .val (.int db), .val (.int c1), .val (.int c2), .val (.int 1), .val (.ref sa), .val (.ref sb), .val (.ref p0), .unset, .unset, .unset, .unset] []))) st2 ?_
          exact K195 0 0 (by decide) (by decide) hA hB sa sb p0 _ rfl nP _ _ (X2.mono (by decide) (by decide)) Z2 N2 (Nat.le_trans hnP Kp2.1) PR2 (by rw [if_neg (show ¬ (1 : Int32) = 0 by decide)]; simp only [own_and0, own_and1, own_r2_00, own_r2_10, own_r2_01, own_r2_11, own_r1_0, own_r1_10, own_r1_11])
        · obtain ⟨cq3, kq3, q3a, q3b, q3c⟩ := isOf hZ rfl E_p0
          obtain ⟨v3, _, ⟨T3, L3, k3, n3⟩, -, X3, ⟨Lc3, hQ3, l3, y3, z3⟩, st3⟩ := Xk.virtualBack hx (y := (⟨"com/example/otaniemi/otaniemi/Pending", "keepEndsAbove", "(I)V"⟩ : MethodName)) (z := (⟨"com/example/otaniemi/otaniemi/Pending", "keepEndsAbove", "(I)V"⟩ : MethodName)) hown (mvT hZ (oH hw 135 rfl)) (mvT hZ (oH hw 136 rfl)) (notFace_of_selects (args := #[]) (mvT hZ (oH hw 138 rfl))) (mvT hZ (oH hw 138 rfl)) (mvT hZ (oH hw 137 rfl)) (by decide) (backOf (W := 0) (rmK1 l Z a0 hw [] p0 i3 sa i0 ca da Tk.heap nP hnP P Ta hda) hZ (oH hw 139 rfl) (oH hw 56 rfl) (by decide) (by decide)) q3a q3c (g := (mkF m 192 #[.val (.int i0), .val (.int i1), .val (.int i2), .val (.int i3), .val (.int ca), .val (.int cb), .val (.int da), .val (.int db), .val (.int c1), .val (.int c2), .val (.int 1), .val (.ref sa), .val (.ref sb), .val (.ref p0), .unset, .unset, .unset, .unset] [(.int i3), (.ref p0)])) rfl (by rw [hml]; rfl) (Steps.refl _) (argsL := [(.int i3)]) (rest := []) (lenOf pd_403 rfl) rfl (by show 2 * 0 + _ ≤ _; exact Nat.le_of_eq rfl) (hb hby at_192) (fun _ _ => ⟨rfl, rfl, (by decide : 10 + 0 ≤ _), (by decide : 68 + 0 ≤ _)⟩)
          dsimp only [Pt.U, Pt.locs, Pt.cells, Pt.slots] at X3 l3 y3 z3 st3 hQ3
          subst l3 y3 z3
          obtain ⟨rfl, Nr3, Kp3, PR3⟩ := hQ3
          have Nq3 : Fr n0 Lc3 := fun y hy => Nat.le_trans n0P (Nr3 y hy)
          have N3 := Fr.app Nk Nq3
          have Z3 : n0 ≤ T3.heap.size := Nat.le_trans Zk Kp3.1
          refine own_goT (S' := (T3.setTop (mkF m 195 #[.val (.int i0), .val (.int i1), .val (.int i2), .val (.int i3), .val (.int ca), .val (.int cb), .val (.int da), .val (.int db), .val (.int c1), .val (.int c2), .val (.int 1), .val (.ref sa), .val (.ref sb), .val (.ref p0), .unset, .unset, .unset, .unset] []))) st3 ?_
          exact K195 1 0 (by decide) (by decide) hA hB sa sb p0 _ (own_r1_ref _ _ _) nP _ _ (X3.mono (by decide) (by decide)) Z3 N3 (Nat.le_trans hnP Kp3.1) PR3 (by rw [if_neg (show ¬ (1 : Int32) = 0 by decide)]; rcases hda with rfl | rfl <;> simp only [own_and0, own_and1, own_r2_00, own_r2_10, own_r2_01, own_r2_11, own_r1_0, own_r1_10, own_r1_11])
        · obtain ⟨cq4, kq4, q4a, q4b, q4c⟩ := isOf hZ rfl E_p0
          obtain ⟨v4, _, ⟨T4, L4, k4, n4⟩, -, X4, ⟨Lc4, hQ4, l4, y4, z4⟩, st4⟩ := Xk.virtualBack hx (y := (⟨"com/example/otaniemi/otaniemi/Pending", "keepEndsAbove", "(I)V"⟩ : MethodName)) (z := (⟨"com/example/otaniemi/otaniemi/Pending", "keepEndsAbove", "(I)V"⟩ : MethodName)) hown (mvT hZ (oH hw 135 rfl)) (mvT hZ (oH hw 136 rfl)) (notFace_of_selects (args := #[]) (mvT hZ (oH hw 138 rfl))) (mvT hZ (oH hw 138 rfl)) (mvT hZ (oH hw 137 rfl)) (by decide) (backOf (W := 0) (rmK1 l Z a0 hw [] p0 i3 sb i1 cb db Tk.heap nP hnP P Tb hdb) hZ (oH hw 139 rfl) (oH hw 56 rfl) (by decide) (by decide)) q4a q4c (g := (mkF m 192 #[.val (.int i0), .val (.int i1), .val (.int i2), .val (.int i3), .val (.int ca), .val (.int cb), .val (.int da), .val (.int db), .val (.int c1), .val (.int c2), .val (.int 1), .val (.ref sa), .val (.ref sb), .val (.ref p0), .unset, .unset, .unset, .unset] [(.int i3), (.ref p0)])) rfl (by rw [hml]; rfl) (Steps.refl _) (argsL := [(.int i3)]) (rest := []) (lenOf pd_403 rfl) rfl (by show 2 * 0 + _ ≤ _; exact Nat.le_of_eq rfl) (hb hby at_192) (fun _ _ => ⟨rfl, rfl, (by decide : 10 + 0 ≤ _), (by decide : 68 + 0 ≤ _)⟩)
          dsimp only [Pt.U, Pt.locs, Pt.cells, Pt.slots] at X4 l4 y4 z4 st4 hQ4
          subst l4 y4 z4
          obtain ⟨rfl, Nr4, Kp4, PR4⟩ := hQ4
          have Nq4 : Fr n0 Lc4 := fun y hy => Nat.le_trans n0P (Nr4 y hy)
          have N4 := Fr.app Nk Nq4
          have Z4 : n0 ≤ T4.heap.size := Nat.le_trans Zk Kp4.1
          refine own_goT (S' := (T4.setTop (mkF m 195 #[.val (.int i0), .val (.int i1), .val (.int i2), .val (.int i3), .val (.int ca), .val (.int cb), .val (.int da), .val (.int db), .val (.int c1), .val (.int c2), .val (.int 1), .val (.ref sa), .val (.ref sb), .val (.ref p0), .unset, .unset, .unset, .unset] []))) st4 ?_
          exact K195 0 1 (by decide) (by decide) hA hB sa sb p0 _ (own_r1_ref _ _ _) nP _ _ (X4.mono (by decide) (by decide)) Z4 N4 (Nat.le_trans hnP Kp4.1) PR4 (by rw [if_neg (show ¬ (1 : Int32) = 0 by decide)]; rcases hdb with rfl | rfl <;> simp only [own_and0, own_and1, own_r2_00, own_r2_10, own_r2_01, own_r2_11, own_r1_0, own_r1_10, own_r1_11])
        · obtain ⟨cq5, kq5, q5a, q5b, q5c⟩ := isOf hZ rfl E_p0
          obtain ⟨v5, _, ⟨T5, L5, k5, n5⟩, -, X5, ⟨Lc5, hQ5, l5, y5, z5⟩, st5⟩ := Xk.virtualBack hx (y := (⟨"com/example/otaniemi/otaniemi/Pending", "keepEndsAbove", "(I)V"⟩ : MethodName)) (z := (⟨"com/example/otaniemi/otaniemi/Pending", "keepEndsAbove", "(I)V"⟩ : MethodName)) hown (mvT hZ (oH hw 135 rfl)) (mvT hZ (oH hw 136 rfl)) (notFace_of_selects (args := #[]) (mvT hZ (oH hw 138 rfl))) (mvT hZ (oH hw 138 rfl)) (mvT hZ (oH hw 137 rfl)) (by decide) (backOf (W := 0) (rmK2 l Z a0 hw [] p0 i3 sa i0 ca da sb i1 cb db Tk.heap nP hnP P Ta Tb hda hdb) hZ (oH hw 139 rfl) (oH hw 56 rfl) (by decide) (by decide)) q5a q5c (g := (mkF m 192 #[.val (.int i0), .val (.int i1), .val (.int i2), .val (.int i3), .val (.int ca), .val (.int cb), .val (.int da), .val (.int db), .val (.int c1), .val (.int c2), .val (.int 1), .val (.ref sa), .val (.ref sb), .val (.ref p0), .unset, .unset, .unset, .unset] [(.int i3), (.ref p0)])) rfl (by rw [hml]; rfl) (Steps.refl _) (argsL := [(.int i3)]) (rest := []) (lenOf pd_403 rfl) rfl (by show 2 * 0 + _ ≤ _; exact Nat.le_of_eq rfl) (hb hby at_192) (fun _ _ => ⟨rfl, rfl, (by decide : 10 + 0 ≤ _), (by decide : 68 + 0 ≤ _)⟩)
          dsimp only [Pt.U, Pt.locs, Pt.cells, Pt.slots] at X5 l5 y5 z5 st5 hQ5
          subst l5 y5 z5
          obtain ⟨rfl, Nr5, Kp5, PR5⟩ := hQ5
          have Nq5 : Fr n0 Lc5 := fun y hy => Nat.le_trans n0P (Nr5 y hy)
          have N5 := Fr.app Nk Nq5
          have Z5 : n0 ≤ T5.heap.size := Nat.le_trans Zk Kp5.1
          refine own_goT (S' := (T5.setTop (mkF m 195 #[.val (.int i0), .val (.int i1), .val (.int i2), .val (.int i3), .val (.int ca), .val (.int cb), .val (.int da), .val (.int db), .val (.int c1), .val (.int c2), .val (.int 1), .val (.ref sa), .val (.ref sb), .val (.ref p0), .unset, .unset, .unset, .unset] []))) st5 ?_
          exact K195 1 1 (by decide) (by decide) hA hB sa sb p0 _ (own_r2_ref _ _ _ _ _ _) nP _ _ (X5.mono (by decide) (by decide)) Z5 N5 (Nat.le_trans hnP Kp5.1) PR5 (by rw [if_neg (show ¬ (1 : Int32) = 0 by decide)]; rcases hda with rfl | rfl <;> rcases hdb with rfl | rfl <;> simp only [own_and0, own_and1, own_r2_00, own_r2_10, own_r2_01, own_r2_11, own_r1_0, own_r1_10, own_r1_11])
        · obtain ⟨cq6, kq6, q6a, q6b, q6c⟩ := isOf hZ rfl E_p0
          obtain ⟨v6, _, ⟨T6, L6, k6, n6⟩, -, X6, ⟨Lc6, hQ6, l6, y6, z6⟩, st6⟩ := Xk.virtualBack hx (y := (⟨"com/example/otaniemi/otaniemi/Pending", "keepEndsAbove", "(I)V"⟩ : MethodName)) (z := (⟨"com/example/otaniemi/otaniemi/Pending", "keepEndsAbove", "(I)V"⟩ : MethodName)) hown (mvT hZ (oH hw 135 rfl)) (mvT hZ (oH hw 136 rfl)) (notFace_of_selects (args := #[]) (mvT hZ (oH hw 138 rfl))) (mvT hZ (oH hw 138 rfl)) (mvT hZ (oH hw 137 rfl)) (by decide) (backOf (W := 0) (rmK2 l Z a0 hw [] p0 i3 sb i1 cb db sa i0 ca da Tk.heap nP hnP P Tb Ta hdb hda) hZ (oH hw 139 rfl) (oH hw 56 rfl) (by decide) (by decide)) q6a q6c (g := (mkF m 192 #[.val (.int i0), .val (.int i1), .val (.int i2), .val (.int i3), .val (.int ca), .val (.int cb), .val (.int da), .val (.int db), .val (.int c1), .val (.int c2), .val (.int 1), .val (.ref sa), .val (.ref sb), .val (.ref p0), .unset, .unset, .unset, .unset] [(.int i3), (.ref p0)])) rfl (by rw [hml]; rfl) (Steps.refl _) (argsL := [(.int i3)]) (rest := []) (lenOf pd_403 rfl) rfl (by show 2 * 0 + _ ≤ _; exact Nat.le_of_eq rfl) (hb hby at_192) (fun _ _ => ⟨rfl, rfl, (by decide : 10 + 0 ≤ _), (by decide : 68 + 0 ≤ _)⟩)
          dsimp only [Pt.U, Pt.locs, Pt.cells, Pt.slots] at X6 l6 y6 z6 st6 hQ6
          subst l6 y6 z6
          obtain ⟨rfl, Nr6, Kp6, PR6⟩ := hQ6
          have Nq6 : Fr n0 Lc6 := fun y hy => Nat.le_trans n0P (Nr6 y hy)
          have N6 := Fr.app Nk Nq6
          have Z6 : n0 ≤ T6.heap.size := Nat.le_trans Zk Kp6.1
          refine own_goT (S' := (T6.setTop (mkF m 195 #[.val (.int i0), .val (.int i1), .val (.int i2), .val (.int i3), .val (.int ca), .val (.int cb), .val (.int da), .val (.int db), .val (.int c1), .val (.int c2), .val (.int 1), .val (.ref sa), .val (.ref sb), .val (.ref p0), .unset, .unset, .unset, .unset] []))) st6 ?_
          exact K195 1 1 (by decide) (by decide) hA hB sa sb p0 _ (own_r2_ref _ _ _ _ _ _) nP _ _ (X6.mono (by decide) (by decide)) Z6 N6 (Nat.le_trans hnP Kp6.1) PR6 (by rw [if_neg (show ¬ (1 : Int32) = 0 by decide)]; rcases hda with rfl | rfl <;> rcases hdb with rfl | rfl <;> simp only [own_and0, own_and1, own_r2_00, own_r2_10, own_r2_01, own_r2_11, own_r1_0, own_r1_10, own_r1_11])
    have K153 : ∀ (Tk : State) (lk : List Loc) (Xk : Stand p l e room_1 s m #[(.int i0), (.int i1), (.int i2), (.int i3)] below meth c Tk lk 6 52) (Zk : n0 ≤ Tk.heap.size) (Nk : Fr n0 lk) (sa sb : Addr) (nab : sa ≠ sb) (g_sa : n0 ≤ sa) (g_sb : n0 ≤ sb) (Sa : own_S Z Tk.heap sa i0 ca da aN aI) (Sb : own_S Z Tk.heap sb i1 cb db aN aI), own_Go p e below s (Q_rm0 Z i0 i1 i2 i3 aN aI aD aG kI h0 n0) room_1.cells room_1.slots (Tk.setTop (mkF m 153 #[.val (.int i0), .val (.int i1), .val (.int i2), .val (.int i3), .val (.int ca), .val (.int cb), .val (.int da), .val (.int db), .val (.int c1), .val (.int c2), .val (.int kp), .val (.ref sa), .val (.ref sb), .unset, .unset, .unset, .unset, .unset] [])) := by
      intro Tk lk Xk Zk Nk sa sb nab g_sa g_sb Sa Sb
      obtain ⟨nP, eP⟩ : ∃ z, z = Tk.heap.size := ⟨_, rfl⟩
      have n0P : n0 ≤ nP := by rw [eP]; exact Zk
      have Ta : own_T Z nP Tk.heap sa i0 ca da := by rw [eP]; exact Sa.T
      have Tb : own_T Z nP Tk.heap sb i1 cb db := by rw [eP]; exact Sb.T
      obtain ⟨T7, h7, X7, e7, E7, A7, D7, -, st7⟩ := newO Xk hx hZ hown (oH hw 54 rfl) (oH hw 55 rfl) (oH hw 56 rfl) rfl (g := (mkF m 153 #[.val (.int i0), .val (.int i1), .val (.int i2), .val (.int i3), .val (.int ca), .val (.int cb), .val (.int da), .val (.int db), .val (.int c1), .val (.int c2), .val (.int kp), .val (.ref sa), .val (.ref sb), .unset, .unset, .unset, .unset, .unset] [])) rfl (hb hby at_153) (by decide) (by decide)
      obtain ⟨p0, gz7⟩ : ∃ z, z = Tk.heap.size := ⟨_, rfl⟩
      rw [← gz7] at A7 D7 st7
      have g_p0 : n0 ≤ p0 := Nat.le_trans Zk (Nat.le_of_eq gz7.symm)
      have F7_found : Fld Z h7 p0 "com/example/otaniemi/otaniemi/Pending" "found" "[Lcom/example/otaniemi/otaniemi/State;" .null := D7 (Or.inl (oH hw 64 rfl)) (ty := (.array (.object "com/example/otaniemi/otaniemi/State"))) (by decide)
      have F7_foundCount : Fld Z h7 p0 "com/example/otaniemi/otaniemi/Pending" "foundCount" "I" (.int 0) := D7 (Or.inl (oH hw 75 rfl)) (ty := .int) (by decide)
      have F7_values : Fld Z h7 p0 "com/example/otaniemi/otaniemi/Pending" "values" "[J" .null := D7 (Or.inl (oH hw 123 rfl)) (ty := (.array .long)) (by decide)
      have F7_passed : Fld Z h7 p0 "com/example/otaniemi/otaniemi/Pending" "passed" "Lcom/example/otaniemi/otaniemi/Pending$Passed;" .null := D7 (Or.inl (oH hw 125 rfl)) (ty := (.object "com/example/otaniemi/otaniemi/Pending$Passed")) (by decide)
      have Z7 : n0 ≤ h7.size := Nat.le_trans Zk E7.1
      refine own_go (S' := (T7.setTop (mkF m 156 #[.val (.int i0), .val (.int i1), .val (.int i2), .val (.int i3), .val (.int ca), .val (.int cb), .val (.int da), .val (.int db), .val (.int c1), .val (.int c2), .val (.int kp), .val (.ref sa), .val (.ref sb), .unset, .unset, .unset, .unset, .unset] [(.ref p0)]))) st7 ?_
      refine own_go (S' := (T7.setTop (mkF m 157 #[.val (.int i0), .val (.int i1), .val (.int i2), .val (.int i3), .val (.int ca), .val (.int cb), .val (.int da), .val (.int db), .val (.int c1), .val (.int c2), .val (.int kp), .val (.ref sa), .val (.ref sb), .unset, .unset, .unset, .unset, .unset] [(.ref p0), (.ref p0)]))) (fun _ kont => XS.dup X7.here hx rfl (hb hby at_156) rfl rfl kont) ?_
      have gP : nP ≤ p0 := by rw [eP]; exact Nat.le_of_eq gz7.symm
      have zP : nP ≤ h7.size := by rw [eP]; exact E7.1
      obtain ⟨v8, _, ⟨T8, L8, k8, n8⟩, -, X8, ⟨Lc8, hQ8, l8, y8, z8⟩, st8⟩ := X7.specialBack hx (y := (⟨"com/example/otaniemi/otaniemi/Pending", "<init>", "()V"⟩ : MethodName)) rfl hown (mvT hZ (oH hw 57 rfl)) (mvT hZ (oH hw 58 rfl)) (mvT hZ (oH hw 59 rfl)) (by decide) (backOf (W := 1) (rmPn l Z a0 hw [] p0 h7 nP zP A7 F7_found F7_foundCount F7_passed F7_values gP) hZ (oH hw 59 rfl) (oH hw 56 rfl) (by decide) (by decide)) (g := (mkF m 157 #[.val (.int i0), .val (.int i1), .val (.int i2), .val (.int i3), .val (.int ca), .val (.int cb), .val (.int da), .val (.int db), .val (.int c1), .val (.int c2), .val (.int kp), .val (.ref sa), .val (.ref sb), .unset, .unset, .unset, .unset, .unset] [(.ref p0), (.ref p0)])) rfl (by rw [hml]; rfl) (Steps.refl _) (a := p0) (argsL := []) (rest := [(.ref p0)]) (lenOf pd_48 rfl) rfl (by show 2 * 0 + _ ≤ _; exact Nat.le_of_eq rfl) (hb hby at_157) (fun _ _ => ⟨rfl, e7, (by decide : 7 + 1 ≤ _), (by decide : 56 + 4 ≤ _)⟩)
      dsimp only [Pt.U, Pt.locs, Pt.cells, Pt.slots] at X8 l8 y8 z8 st8 hQ8
      subst l8 y8 z8
      obtain ⟨rfl, Nr8, Kc8, P⟩ := hQ8
      have Nq8 : Fr n0 Lc8 := fun y hy => Nat.le_trans n0P (Nr8 y hy)
      have N8 := Fr.app Nk Nq8
      have Z8 : n0 ≤ T8.heap.size := Nat.le_trans Z7 Kc8.1
      have c8_Ep0 := A7.keep Kc8
      refine own_goT (S' := (T8.setTop (mkF m 160 #[.val (.int i0), .val (.int i1), .val (.int i2), .val (.int i3), .val (.int ca), .val (.int cb), .val (.int da), .val (.int db), .val (.int c1), .val (.int c2), .val (.int kp), .val (.ref sa), .val (.ref sb), .unset, .unset, .unset, .unset, .unset] [(.ref p0)]))) st8 ?_
      have KP : own_Kp nP Tk.heap T8.heap := (own_Kp.ext E7).trans (own_Kp.keep Kc8 (own_gS gP own_g0))
      have Ta := Ta.kp KP
      have Tb := Tb.kp KP
      have zP : nP ≤ T8.heap.size := Nat.le_trans (Nat.le_of_eq eP) KP.1
      have E_p0 := P.E
      refine own_go (S' := (T8.setTop (mkF m 170 #[.val (.int i0), .val (.int i1), .val (.int i2), .val (.int i3), .val (.int ca), .val (.int cb), .val (.int da), .val (.int db), .val (.int c1), .val (.int c2), .val (.int kp), .val (.ref sa), .val (.ref sb), .val (.ref p0), .unset, .unset, .unset, .unset] [(.ref sb), (.ref sa), (.int c1), (.ref p0)]))) (fun _ kont => XS.astore X8.here hx rfl (hb hby at_160) rfl rfl (l' := #[.val (.int i0), .val (.int i1), .val (.int i2), .val (.int i3), .val (.int ca), .val (.int cb), .val (.int da), .val (.int db), .val (.int c1), .val (.int c2), .val (.int kp), .val (.ref sa), .val (.ref sb), .val (.ref p0), .unset, .unset, .unset, .unset]) rfl (XS.aload X8.here hx rfl (hb hby at_162) rfl rfl (XS.iload X8.here hx rfl (hb hby at_164) rfl (XS.aload X8.here hx rfl (hb hby at_166) rfl rfl (XS.aload X8.here hx rfl (hb hby at_168) rfl rfl kont))))) ?_
      obtain ⟨v9, _, ⟨T9, L9, k9, n9⟩, -, X9, ⟨Lc9, hQ9, l9, y9, z9⟩, st9⟩ := Jvm.LawKit.callS X8 hx (y := (⟨"com/example/otaniemi/otaniemi/PendingGetSoleEndPinLaw", "addChoice", "(Lcom/example/otaniemi/otaniemi/Pending;ILcom/example/otaniemi/otaniemi/State;Lcom/example/otaniemi/otaniemi/State;)V"⟩ : MethodName)) hown (mvT hZ (oH hw 65 rfl)) (mvT hZ (oH hw 66 rfl)) (mvT hZ (oH hw 67 rfl)) (mvT hZ (oH hw 68 rfl)) (by decide) (backOf (W := 0) (rmC0 l Z a0 hw [] p0 c1 sa i0 ca da sb i1 cb db T8.heap nP zP E_p0 P Ta Tb hca hcb nab) hZ (oH hw 68 rfl) (oH hw 67 rfl) (by decide) (by decide)) (g := (mkF m 170 #[.val (.int i0), .val (.int i1), .val (.int i2), .val (.int i3), .val (.int ca), .val (.int cb), .val (.int da), .val (.int db), .val (.int c1), .val (.int c2), .val (.int kp), .val (.ref sa), .val (.ref sb), .val (.ref p0), .unset, .unset, .unset, .unset] [(.ref sb), (.ref sa), (.int c1), (.ref p0)])) rfl (by rw [hml]; rfl) (argsL := [(.ref p0), (.int c1), (.ref sa), (.ref sb)]) (rest := []) (lenOf pd_404 rfl) rfl (by show 2 * 0 + _ ≤ _; exact Nat.le_of_eq rfl) (hb hby at_170) (fun _ _ => ⟨rfl, rfl, (by decide : 8 + 1 ≤ _), (by decide : 60 + 4 ≤ _)⟩)
      dsimp only [Pt.U, Pt.locs, Pt.cells, Pt.slots] at X9 l9 y9 z9 st9 hQ9
      subst l9 y9 z9
      obtain ⟨rfl, Nr9, Kp9, D1⟩ := hQ9
      have Nq9 : Fr n0 Lc9 := fun y hy => Nat.le_trans n0P (Nr9 y hy)
      have N9 := Fr.app N8 Nq9
      have Z9 : n0 ≤ T9.heap.size := Nat.le_trans Z8 Kp9.1
      refine own_go (S' := (T9.setTop (mkF m 173 #[.val (.int i0), .val (.int i1), .val (.int i2), .val (.int i3), .val (.int ca), .val (.int cb), .val (.int da), .val (.int db), .val (.int c1), .val (.int c2), .val (.int kp), .val (.ref sa), .val (.ref sb), .val (.ref p0), .unset, .unset, .unset, .unset] []))) st9 ?_
      have Ta := Ta.kp Kp9
      have Tb := Tb.kp Kp9
      have zP : nP ≤ T9.heap.size := Nat.le_trans zP Kp9.1
      refine own_go (S' := (T9.setTop (mkF m 181 #[.val (.int i0), .val (.int i1), .val (.int i2), .val (.int i3), .val (.int ca), .val (.int cb), .val (.int da), .val (.int db), .val (.int c1), .val (.int c2), .val (.int kp), .val (.ref sa), .val (.ref sb), .val (.ref p0), .unset, .unset, .unset, .unset] [(.ref sb), (.ref sa), (.int c2), (.ref p0)]))) (fun _ kont => XS.aload X9.here hx rfl (hb hby at_173) rfl rfl (XS.iload X9.here hx rfl (hb hby at_175) rfl (XS.aload X9.here hx rfl (hb hby at_177) rfl rfl (XS.aload X9.here hx rfl (hb hby at_179) rfl rfl kont)))) ?_
      rcases D1 with ⟨q1, P⟩ | ⟨q1, q2, P⟩ | ⟨q1, q2, P⟩
      · have E_p0 := P.E
        obtain ⟨v10, _, ⟨T10, L10, k10, n10⟩, -, X10, ⟨Lc10, hQ10, l10, y10, z10⟩, st10⟩ := Jvm.LawKit.callS X9 hx (y := (⟨"com/example/otaniemi/otaniemi/PendingGetSoleEndPinLaw", "addChoice", "(Lcom/example/otaniemi/otaniemi/Pending;ILcom/example/otaniemi/otaniemi/State;Lcom/example/otaniemi/otaniemi/State;)V"⟩ : MethodName)) hown (mvT hZ (oH hw 65 rfl)) (mvT hZ (oH hw 66 rfl)) (mvT hZ (oH hw 67 rfl)) (mvT hZ (oH hw 68 rfl)) (by decide) (backOf (W := 0) (rmCa l Z a0 hw [] p0 c2 sa i0 ca da sb i1 cb db T9.heap nP zP E_p0 P Ta Tb hca hcb nab) hZ (oH hw 68 rfl) (oH hw 67 rfl) (by decide) (by decide)) (g := (mkF m 181 #[.val (.int i0), .val (.int i1), .val (.int i2), .val (.int i3), .val (.int ca), .val (.int cb), .val (.int da), .val (.int db), .val (.int c1), .val (.int c2), .val (.int kp), .val (.ref sa), .val (.ref sb), .val (.ref p0), .unset, .unset, .unset, .unset] [(.ref sb), (.ref sa), (.int c2), (.ref p0)])) rfl (by rw [hml]; rfl) (argsL := [(.ref p0), (.int c2), (.ref sa), (.ref sb)]) (rest := []) (lenOf pd_404 rfl) rfl (by show 2 * 0 + _ ≤ _; exact Nat.le_of_eq rfl) (hb hby at_181) (fun _ _ => ⟨rfl, rfl, (by decide : 9 + 1 ≤ _), (by decide : 64 + 4 ≤ _)⟩)
        dsimp only [Pt.U, Pt.locs, Pt.cells, Pt.slots] at X10 l10 y10 z10 st10 hQ10
        subst l10 y10 z10
        obtain ⟨rfl, Nr10, Kp10, D2⟩ := hQ10
        have Nq10 : Fr n0 Lc10 := fun y hy => Nat.le_trans n0P (Nr10 y hy)
        have N10 := Fr.app N9 Nq10
        have Z10 : n0 ≤ T10.heap.size := Nat.le_trans Z9 Kp10.1
        refine own_go (S' := (T10.setTop (mkF m 184 #[.val (.int i0), .val (.int i1), .val (.int i2), .val (.int i3), .val (.int ca), .val (.int cb), .val (.int da), .val (.int db), .val (.int c1), .val (.int c2), .val (.int kp), .val (.ref sa), .val (.ref sb), .val (.ref p0), .unset, .unset, .unset, .unset] []))) st10 ?_
        exact K184 1 (if c2 = 2 then 1 else 0) (Or.inr rfl) (by split <;> simp) (if_pos q1).symm (if_neg (by rw [q1]; decide)).symm sa sb p0 nP n0P _ _ X10 Z10 N10 (Nat.le_trans zP Kp10.1) D2 (Ta.kp Kp10) (Tb.kp Kp10)
      · have E_p0 := P.E
        obtain ⟨v11, _, ⟨T11, L11, k11, n11⟩, -, X11, ⟨Lc11, hQ11, l11, y11, z11⟩, st11⟩ := Jvm.LawKit.callS X9 hx (y := (⟨"com/example/otaniemi/otaniemi/PendingGetSoleEndPinLaw", "addChoice", "(Lcom/example/otaniemi/otaniemi/Pending;ILcom/example/otaniemi/otaniemi/State;Lcom/example/otaniemi/otaniemi/State;)V"⟩ : MethodName)) hown (mvT hZ (oH hw 65 rfl)) (mvT hZ (oH hw 66 rfl)) (mvT hZ (oH hw 67 rfl)) (mvT hZ (oH hw 68 rfl)) (by decide) (backOf (W := 0) (rmCb l Z a0 hw [] p0 c2 sa i0 ca da sb i1 cb db T9.heap nP zP E_p0 P Ta Tb hca hcb nab) hZ (oH hw 68 rfl) (oH hw 67 rfl) (by decide) (by decide)) (g := (mkF m 181 #[.val (.int i0), .val (.int i1), .val (.int i2), .val (.int i3), .val (.int ca), .val (.int cb), .val (.int da), .val (.int db), .val (.int c1), .val (.int c2), .val (.int kp), .val (.ref sa), .val (.ref sb), .val (.ref p0), .unset, .unset, .unset, .unset] [(.ref sb), (.ref sa), (.int c2), (.ref p0)])) rfl (by rw [hml]; rfl) (argsL := [(.ref p0), (.int c2), (.ref sa), (.ref sb)]) (rest := []) (lenOf pd_404 rfl) rfl (by show 2 * 0 + _ ≤ _; exact Nat.le_of_eq rfl) (hb hby at_181) (fun _ _ => ⟨rfl, rfl, (by decide : 9 + 1 ≤ _), (by decide : 64 + 4 ≤ _)⟩)
        dsimp only [Pt.U, Pt.locs, Pt.cells, Pt.slots] at X11 l11 y11 z11 st11 hQ11
        subst l11 y11 z11
        obtain ⟨rfl, Nr11, Kp11, D2⟩ := hQ11
        have Nq11 : Fr n0 Lc11 := fun y hy => Nat.le_trans n0P (Nr11 y hy)
        have N11 := Fr.app N9 Nq11
        have Z11 : n0 ≤ T11.heap.size := Nat.le_trans Z9 Kp11.1
        refine own_go (S' := (T11.setTop (mkF m 184 #[.val (.int i0), .val (.int i1), .val (.int i2), .val (.int i3), .val (.int ca), .val (.int cb), .val (.int da), .val (.int db), .val (.int c1), .val (.int c2), .val (.int kp), .val (.ref sa), .val (.ref sb), .val (.ref p0), .unset, .unset, .unset, .unset] []))) st11 ?_
        exact K184 (if c2 = 1 then 1 else 0) 1 (by split <;> simp) (Or.inr rfl) (if_neg q1).symm (if_pos q2).symm sa sb p0 nP n0P _ _ X11 Z11 N11 (Nat.le_trans zP Kp11.1) D2 (Ta.kp Kp11) (Tb.kp Kp11)
      · have E_p0 := P.E
        obtain ⟨v12, _, ⟨T12, L12, k12, n12⟩, -, X12, ⟨Lc12, hQ12, l12, y12, z12⟩, st12⟩ := Jvm.LawKit.callS X9 hx (y := (⟨"com/example/otaniemi/otaniemi/PendingGetSoleEndPinLaw", "addChoice", "(Lcom/example/otaniemi/otaniemi/Pending;ILcom/example/otaniemi/otaniemi/State;Lcom/example/otaniemi/otaniemi/State;)V"⟩ : MethodName)) hown (mvT hZ (oH hw 65 rfl)) (mvT hZ (oH hw 66 rfl)) (mvT hZ (oH hw 67 rfl)) (mvT hZ (oH hw 68 rfl)) (by decide) (backOf (W := 0) (rmC0 l Z a0 hw [] p0 c2 sa i0 ca da sb i1 cb db T9.heap nP zP E_p0 P Ta Tb hca hcb nab) hZ (oH hw 68 rfl) (oH hw 67 rfl) (by decide) (by decide)) (g := (mkF m 181 #[.val (.int i0), .val (.int i1), .val (.int i2), .val (.int i3), .val (.int ca), .val (.int cb), .val (.int da), .val (.int db), .val (.int c1), .val (.int c2), .val (.int kp), .val (.ref sa), .val (.ref sb), .val (.ref p0), .unset, .unset, .unset, .unset] [(.ref sb), (.ref sa), (.int c2), (.ref p0)])) rfl (by rw [hml]; rfl) (argsL := [(.ref p0), (.int c2), (.ref sa), (.ref sb)]) (rest := []) (lenOf pd_404 rfl) rfl (by show 2 * 0 + _ ≤ _; exact Nat.le_of_eq rfl) (hb hby at_181) (fun _ _ => ⟨rfl, rfl, (by decide : 9 + 1 ≤ _), (by decide : 64 + 4 ≤ _)⟩)
        dsimp only [Pt.U, Pt.locs, Pt.cells, Pt.slots] at X12 l12 y12 z12 st12 hQ12
        subst l12 y12 z12
        obtain ⟨rfl, Nr12, Kp12, D2⟩ := hQ12
        have Nq12 : Fr n0 Lc12 := fun y hy => Nat.le_trans n0P (Nr12 y hy)
        have N12 := Fr.app N9 Nq12
        have Z12 : n0 ≤ T12.heap.size := Nat.le_trans Z9 Kp12.1
        refine own_go (S' := (T12.setTop (mkF m 184 #[.val (.int i0), .val (.int i1), .val (.int i2), .val (.int i3), .val (.int ca), .val (.int cb), .val (.int da), .val (.int db), .val (.int c1), .val (.int c2), .val (.int kp), .val (.ref sa), .val (.ref sb), .val (.ref p0), .unset, .unset, .unset, .unset] []))) st12 ?_
        rcases D2 with ⟨r1, P⟩ | ⟨r1, r2, P⟩ | ⟨r1, r2, P⟩
        · exact K184 1 0 (Or.inr rfl) (Or.inl rfl) ((if_neg q1).trans (if_pos r1)).symm ((if_neg q2).trans (if_neg (by rw [r1]; decide))).symm sa sb p0 nP n0P _ _ X12 Z12 N12 (Nat.le_trans zP Kp12.1) (Or.inr (Or.inl ⟨rfl, rfl, P.imp⟩)) (Ta.kp Kp12) (Tb.kp Kp12)
        · exact K184 0 1 (Or.inl rfl) (Or.inr rfl) ((if_neg q1).trans (if_neg r1)).symm ((if_neg q2).trans (if_pos r2)).symm sa sb p0 nP n0P _ _ X12 Z12 N12 (Nat.le_trans zP Kp12.1) (Or.inr (Or.inr (Or.inl ⟨rfl, rfl, P.imp⟩))) (Ta.kp Kp12) (Tb.kp Kp12)
        · exact K184 0 0 (Or.inl rfl) (Or.inl rfl) ((if_neg q1).trans (if_neg r1)).symm ((if_neg q2).trans (if_neg r2)).symm sa sb p0 nP n0P _ _ X12 Z12 N12 (Nat.le_trans zP Kp12.1) (Or.inl ⟨rfl, rfl, P⟩) (Ta.kp Kp12) (Tb.kp Kp12)
    have K141 : ∀ (Tk : State) (lk : List Loc) (Xk : Stand p l e room_1 s m #[(.int i0), (.int i1), (.int i2), (.int i3)] below meth c Tk lk 5 51) (Zk : n0 ≤ Tk.heap.size) (Nk : Fr n0 lk) (sa sb : Addr) (nab : sa ≠ sb) (g_sa : n0 ≤ sa) (g_sb : n0 ≤ sb) (Sa : own_S Z Tk.heap sa i0 ca da aN aI) (Sb : own_S Z Tk.heap sb i1 cb 0 aN aI), own_Go p e below s (Q_rm0 Z i0 i1 i2 i3 aN aI aD aG kI h0 n0) room_1.cells room_1.slots (Tk.setTop (mkF m 141 #[.val (.int i0), .val (.int i1), .val (.int i2), .val (.int i3), .val (.int ca), .val (.int cb), .val (.int da), .val (.int db), .val (.int c1), .val (.int c2), .val (.int kp), .val (.ref sa), .val (.ref sb), .unset, .unset, .unset, .unset, .unset] [])) := by
      intro Tk lk Xk Zk Nk sa sb nab g_sa g_sb Sa Sb
      refine own_go (S' := (Tk.setTop (mkF m 143 #[.val (.int i0), .val (.int i1), .val (.int i2), .val (.int i3), .val (.int ca), .val (.int cb), .val (.int da), .val (.int db), .val (.int c1), .val (.int c2), .val (.int kp), .val (.ref sa), .val (.ref sb), .unset, .unset, .unset, .unset, .unset] [(.int db)]))) (fun _ kont => XS.iload Xk.here hx rfl (hb hby at_141) rfl kont) ?_
      rcases hdb with rfl | rfl
      · refine own_go (S' := (Tk.setTop (mkF m 153 #[.val (.int i0), .val (.int i1), .val (.int i2), .val (.int i3), .val (.int ca), .val (.int cb), .val (.int da), .val (.int 0), .val (.int c1), .val (.int c2), .val (.int kp), .val (.ref sa), .val (.ref sb), .unset, .unset, .unset, .unset, .unset] []))) (fun _ kont => XS.ifYes Xk.here hx rfl (pc0 := 143) (pc' := 153) rfl (hb hby at_143) rfl ((if0 _ _).trans (teq (by decide)).1) (by decide) (by decide) kont) ?_
        exact K153 Tk lk (Xk.mono (by decide) (by decide)) Zk Nk sa sb nab g_sa g_sb Sa Sb
      · refine own_go (S' := (Tk.setTop (mkF m 149 #[.val (.int i0), .val (.int i1), .val (.int i2), .val (.int i3), .val (.int ca), .val (.int cb), .val (.int da), .val (.int 1), .val (.int c1), .val (.int c2), .val (.int kp), .val (.ref sa), .val (.ref sb), .unset, .unset, .unset, .unset, .unset] [(.int 2), (.ref sb)]))) (fun _ kont => XS.ifNo Xk.here hx rfl (hb hby at_143) rfl ((if0 _ _).trans (feq (by decide)).1) (XS.aload Xk.here hx rfl (hb hby at_146) rfl rfl (XS.iconst Xk.here hx rfl (hb hby at_148) kont))) ?_
        obtain ⟨Ex, F1, F2, F3, F4, F5, pp0, F6, Ep, F7, hpp⟩ := id Sb
        have Eo13 : Ext h0 Tk.heap := ⟨by rw [← hn0]; exact Zk, fun b cl z => by exact oldF Xk (by rw [hh, ← hn0]; exact Nk) b cl (by rw [hh]; exact z)⟩
        have VI := V_I.ext Eo13
        obtain ⟨cq14, kq14, q14a, q14b, q14c⟩ := isOf hZ rfl Ex
        obtain ⟨v14, _, ⟨T14, L14, k14, n14⟩, -, X14, ⟨Lc14, hQ14, l14, y14, z14⟩, st14⟩ := Xk.virtualBack hx (y := (⟨"com/example/otaniemi/otaniemi/State", "addId", "(I)Z"⟩ : MethodName)) (z := (⟨"com/example/otaniemi/otaniemi/State", "addId", "(I)Z"⟩ : MethodName)) hown (mvT hZ (oH hw 76 rfl)) (mvT hZ (oH hw 77 rfl)) (notFace_of_selects (args := #[]) (mvT hZ (oH hw 79 rfl))) (mvT hZ (oH hw 79 rfl)) (mvT hZ (oH hw 78 rfl)) (by decide) (backOf (W := 0) (rmId l Z a0 hw [] sb (2 : Int32) i1 pp0 aI kI Tk.heap n0 Zk Ex F1 F2 F3 F4 (F5 rfl) F6 g_sb VI) hZ (oH hw 80 rfl) (oH hw 2 rfl) (by decide) (by decide)) q14a q14c (g := (mkF m 149 #[.val (.int i0), .val (.int i1), .val (.int i2), .val (.int i3), .val (.int ca), .val (.int cb), .val (.int da), .val (.int 1), .val (.int c1), .val (.int c2), .val (.int kp), .val (.ref sa), .val (.ref sb), .unset, .unset, .unset, .unset, .unset] [(.int 2), (.ref sb)])) rfl (by rw [hml]; rfl) (Steps.refl _) (argsL := [(.int 2)]) (rest := []) (lenOf pd_366 rfl) rfl (by show 2 * 0 + _ ≤ _; exact Nat.le_of_eq rfl) (hb hby at_149) (fun _ _ => ⟨rfl, rfl, (by decide : 5 + 1 ≤ _), (by decide : 51 + 1 ≤ _)⟩)
        dsimp only [Pt.U, Pt.locs, Pt.cells, Pt.slots] at X14 l14 y14 z14 st14 hQ14
        subst l14 y14 z14
        obtain ⟨rfl, Nq14, Kc14, Ga14, Gb14, Gc14, Gd14, Gf14⟩ := hQ14
        have N14 := Fr.app Nk Nq14
        have Z14 : n0 ≤ T14.heap.size := Nat.le_trans Zk Kc14.1
        have c14_Esb := Ex.keep Kc14
        refine own_goT (S' := (T14.setTop (mkF m 152 #[.val (.int i0), .val (.int i1), .val (.int i2), .val (.int i3), .val (.int ca), .val (.int cb), .val (.int da), .val (.int 1), .val (.int c1), .val (.int c2), .val (.int kp), .val (.ref sa), .val (.ref sb), .unset, .unset, .unset, .unset, .unset] [(.int 1)]))) st14 ?_
        have Sb' : own_S Z T14.heap sb i1 cb 1 aN aI := ⟨Ex.keep Kc14, Ga14, Gb14, Gc14, Gd14, fun q => absurd q (by decide), pp0, Gf14, Ep.keep Kc14, F7.keep Kc14 (ninS (Ep.ne Ex (by decide)) nin0), hpp⟩
        have Sa' := Sa.keep Kc14 (ninS nab nin0) (fun x hx => by cases List.mem_singleton.mp hx; exact Ex)
        refine own_go (S' := (T14.setTop (mkF m 153 #[.val (.int i0), .val (.int i1), .val (.int i2), .val (.int i3), .val (.int ca), .val (.int cb), .val (.int da), .val (.int 1), .val (.int c1), .val (.int c2), .val (.int kp), .val (.ref sa), .val (.ref sb), .unset, .unset, .unset, .unset, .unset] []))) (fun _ kont => XS.pop X14.here hx rfl (hb hby at_152) rfl rfl kont) ?_
        exact K153 _ _ X14 Z14 N14 sa sb nab g_sa g_sb Sa' Sb'
    have K129 : ∀ (Tk : State) (lk : List Loc) (Xk : Stand p l e room_1 s m #[(.int i0), (.int i1), (.int i2), (.int i3)] below meth c Tk lk 4 50) (Zk : n0 ≤ Tk.heap.size) (Nk : Fr n0 lk) (sa sb : Addr) (nab : sa ≠ sb) (g_sa : n0 ≤ sa) (g_sb : n0 ≤ sb) (Sa : own_S Z Tk.heap sa i0 ca 0 aN aI) (Sb : own_S Z Tk.heap sb i1 cb 0 aN aI), own_Go p e below s (Q_rm0 Z i0 i1 i2 i3 aN aI aD aG kI h0 n0) room_1.cells room_1.slots (Tk.setTop (mkF m 129 #[.val (.int i0), .val (.int i1), .val (.int i2), .val (.int i3), .val (.int ca), .val (.int cb), .val (.int da), .val (.int db), .val (.int c1), .val (.int c2), .val (.int kp), .val (.ref sa), .val (.ref sb), .unset, .unset, .unset, .unset, .unset] [])) := by
      intro Tk lk Xk Zk Nk sa sb nab g_sa g_sb Sa Sb
      refine own_go (S' := (Tk.setTop (mkF m 131 #[.val (.int i0), .val (.int i1), .val (.int i2), .val (.int i3), .val (.int ca), .val (.int cb), .val (.int da), .val (.int db), .val (.int c1), .val (.int c2), .val (.int kp), .val (.ref sa), .val (.ref sb), .unset, .unset, .unset, .unset, .unset] [(.int da)]))) (fun _ kont => XS.iload Xk.here hx rfl (hb hby at_129) rfl kont) ?_
      rcases hda with rfl | rfl
      · refine own_go (S' := (Tk.setTop (mkF m 141 #[.val (.int i0), .val (.int i1), .val (.int i2), .val (.int i3), .val (.int ca), .val (.int cb), .val (.int 0), .val (.int db), .val (.int c1), .val (.int c2), .val (.int kp), .val (.ref sa), .val (.ref sb), .unset, .unset, .unset, .unset, .unset] []))) (fun _ kont => XS.ifYes Xk.here hx rfl (pc0 := 131) (pc' := 141) rfl (hb hby at_131) rfl ((if0 _ _).trans (teq (by decide)).1) (by decide) (by decide) kont) ?_
        exact K141 Tk lk (Xk.mono (by decide) (by decide)) Zk Nk sa sb nab g_sa g_sb Sa Sb
      · refine own_go (S' := (Tk.setTop (mkF m 137 #[.val (.int i0), .val (.int i1), .val (.int i2), .val (.int i3), .val (.int ca), .val (.int cb), .val (.int 1), .val (.int db), .val (.int c1), .val (.int c2), .val (.int kp), .val (.ref sa), .val (.ref sb), .unset, .unset, .unset, .unset, .unset] [(.int 1), (.ref sa)]))) (fun _ kont => XS.ifNo Xk.here hx rfl (hb hby at_131) rfl ((if0 _ _).trans (feq (by decide)).1) (XS.aload Xk.here hx rfl (hb hby at_134) rfl rfl (XS.iconst Xk.here hx rfl (hb hby at_136) kont))) ?_
        obtain ⟨Ex, F1, F2, F3, F4, F5, pp0, F6, Ep, F7, hpp⟩ := id Sa
        have Eo15 : Ext h0 Tk.heap := ⟨by rw [← hn0]; exact Zk, fun b cl z => by exact oldF Xk (by rw [hh, ← hn0]; exact Nk) b cl (by rw [hh]; exact z)⟩
        have VI := V_I.ext Eo15
        obtain ⟨cq16, kq16, q16a, q16b, q16c⟩ := isOf hZ rfl Ex
        obtain ⟨v16, _, ⟨T16, L16, k16, n16⟩, -, X16, ⟨Lc16, hQ16, l16, y16, z16⟩, st16⟩ := Xk.virtualBack hx (y := (⟨"com/example/otaniemi/otaniemi/State", "addId", "(I)Z"⟩ : MethodName)) (z := (⟨"com/example/otaniemi/otaniemi/State", "addId", "(I)Z"⟩ : MethodName)) hown (mvT hZ (oH hw 76 rfl)) (mvT hZ (oH hw 77 rfl)) (notFace_of_selects (args := #[]) (mvT hZ (oH hw 79 rfl))) (mvT hZ (oH hw 79 rfl)) (mvT hZ (oH hw 78 rfl)) (by decide) (backOf (W := 0) (rmId l Z a0 hw [] sa (1 : Int32) i0 pp0 aI kI Tk.heap n0 Zk Ex F1 F2 F3 F4 (F5 rfl) F6 g_sa VI) hZ (oH hw 80 rfl) (oH hw 2 rfl) (by decide) (by decide)) q16a q16c (g := (mkF m 137 #[.val (.int i0), .val (.int i1), .val (.int i2), .val (.int i3), .val (.int ca), .val (.int cb), .val (.int 1), .val (.int db), .val (.int c1), .val (.int c2), .val (.int kp), .val (.ref sa), .val (.ref sb), .unset, .unset, .unset, .unset, .unset] [(.int 1), (.ref sa)])) rfl (by rw [hml]; rfl) (Steps.refl _) (argsL := [(.int 1)]) (rest := []) (lenOf pd_366 rfl) rfl (by show 2 * 0 + _ ≤ _; exact Nat.le_of_eq rfl) (hb hby at_137) (fun _ _ => ⟨rfl, rfl, (by decide : 4 + 1 ≤ _), (by decide : 50 + 1 ≤ _)⟩)
        dsimp only [Pt.U, Pt.locs, Pt.cells, Pt.slots] at X16 l16 y16 z16 st16 hQ16
        subst l16 y16 z16
        obtain ⟨rfl, Nq16, Kc16, Ga16, Gb16, Gc16, Gd16, Gf16⟩ := hQ16
        have N16 := Fr.app Nk Nq16
        have Z16 : n0 ≤ T16.heap.size := Nat.le_trans Zk Kc16.1
        have c16_Esa := Ex.keep Kc16
        refine own_goT (S' := (T16.setTop (mkF m 140 #[.val (.int i0), .val (.int i1), .val (.int i2), .val (.int i3), .val (.int ca), .val (.int cb), .val (.int 1), .val (.int db), .val (.int c1), .val (.int c2), .val (.int kp), .val (.ref sa), .val (.ref sb), .unset, .unset, .unset, .unset, .unset] [(.int 1)]))) st16 ?_
        have Sa' : own_S Z T16.heap sa i0 ca 1 aN aI := ⟨Ex.keep Kc16, Ga16, Gb16, Gc16, Gd16, fun q => absurd q (by decide), pp0, Gf16, Ep.keep Kc16, F7.keep Kc16 (ninS (Ep.ne Ex (by decide)) nin0), hpp⟩
        have Sb' := Sb.keep Kc16 (ninS (Ne.symm nab) nin0) (fun x hx => by cases List.mem_singleton.mp hx; exact Ex)
        refine own_go (S' := (T16.setTop (mkF m 141 #[.val (.int i0), .val (.int i1), .val (.int i2), .val (.int i3), .val (.int ca), .val (.int cb), .val (.int 1), .val (.int db), .val (.int c1), .val (.int c2), .val (.int kp), .val (.ref sa), .val (.ref sb), .unset, .unset, .unset, .unset, .unset] []))) (fun _ kont => XS.pop X16.here hx rfl (hb hby at_140) rfl rfl kont) ?_
        exact K141 _ _ X16 Z16 N16 sa sb nab g_sa g_sb Sa' Sb'
    have K119 : ∀ (Tk : State) (lk : List Loc) (Xk : Stand p l e room_1 s m #[(.int i0), (.int i1), (.int i2), (.int i3)] below meth c Tk lk 3 39) (Zk : n0 ≤ Tk.heap.size) (Nk : Fr n0 lk) (sa sb : Addr) (nab : sa ≠ sb) (g_sa : n0 ≤ sa) (g_sb : n0 ≤ sb) (Sa : own_S Z Tk.heap sa i0 ca 0 aN aI) (Sb : own_S Z Tk.heap sb i1 0 0 aN aI), own_Go p e below s (Q_rm0 Z i0 i1 i2 i3 aN aI aD aG kI h0 n0) room_1.cells room_1.slots (Tk.setTop (mkF m 119 #[.val (.int i0), .val (.int i1), .val (.int i2), .val (.int i3), .val (.int ca), .val (.int cb), .val (.int da), .val (.int db), .val (.int c1), .val (.int c2), .val (.int kp), .val (.ref sa), .val (.ref sb), .unset, .unset, .unset, .unset, .unset] [])) := by
      intro Tk lk Xk Zk Nk sa sb nab g_sa g_sb Sa Sb
      refine own_go (S' := (Tk.setTop (mkF m 121 #[.val (.int i0), .val (.int i1), .val (.int i2), .val (.int i3), .val (.int ca), .val (.int cb), .val (.int da), .val (.int db), .val (.int c1), .val (.int c2), .val (.int kp), .val (.ref sa), .val (.ref sb), .unset, .unset, .unset, .unset, .unset] [(.int cb)]))) (fun _ kont => XS.iload Xk.here hx rfl (hb hby at_119) rfl kont) ?_
      rcases hcb with rfl | rfl
      · refine own_go (S' := (Tk.setTop (mkF m 129 #[.val (.int i0), .val (.int i1), .val (.int i2), .val (.int i3), .val (.int ca), .val (.int 0), .val (.int da), .val (.int db), .val (.int c1), .val (.int c2), .val (.int kp), .val (.ref sa), .val (.ref sb), .unset, .unset, .unset, .unset, .unset] []))) (fun _ kont => XS.ifYes Xk.here hx rfl (pc0 := 121) (pc' := 129) rfl (hb hby at_121) rfl ((if0 _ _).trans (teq (by decide)).1) (by decide) (by decide) kont) ?_
        exact K129 Tk lk (Xk.mono (by decide) (by decide)) Zk Nk sa sb nab g_sa g_sb Sa Sb
      · refine own_go (S' := (Tk.setTop (mkF m 126 #[.val (.int i0), .val (.int i1), .val (.int i2), .val (.int i3), .val (.int ca), .val (.int 1), .val (.int da), .val (.int db), .val (.int c1), .val (.int c2), .val (.int kp), .val (.ref sa), .val (.ref sb), .unset, .unset, .unset, .unset, .unset] [(.ref sb)]))) (fun _ kont => XS.ifNo Xk.here hx rfl (hb hby at_121) rfl ((if0 _ _).trans (feq (by decide)).1) (XS.aload Xk.here hx rfl (hb hby at_124) rfl rfl kont)) ?_
        obtain ⟨Ex, F1, F2, F3, F4, F5, pp0, F6, Ep, F7, hpp⟩ := id Sb
        have Eo17 : Ext h0 Tk.heap := ⟨by rw [← hn0]; exact Zk, fun b cl z => by exact oldF Xk (by rw [hh, ← hn0]; exact Nk) b cl (by rw [hh]; exact z)⟩
        rw [hpp rfl] at F6
        have SN := S_NONE.ext Eo17
        obtain ⟨cq18, kq18, q18a, q18b, q18c⟩ := isOf hZ rfl Ex
        obtain ⟨v18, _, ⟨T18, L18, k18, n18⟩, -, X18, ⟨Lc18, hQ18, l18, y18, z18⟩, st18⟩ := Xk.virtualBack hx (y := (⟨"com/example/otaniemi/otaniemi/State", "countNodes", "()V"⟩ : MethodName)) (z := (⟨"com/example/otaniemi/otaniemi/State", "countNodes", "()V"⟩ : MethodName)) hown (mvT hZ (oH hw 35 rfl)) (mvT hZ (oH hw 36 rfl)) (notFace_of_selects (args := #[]) (mvT hZ (oH hw 38 rfl))) (mvT hZ (oH hw 38 rfl)) (mvT hZ (oH hw 37 rfl)) (by decide) (backOf (W := 0) (rmCn l Z a0 hw [] sb i1 aN aI Tk.heap n0 Zk Ex F1 F2 F3 F4 (F5 rfl) F6 g_sb SN) hZ (oH hw 39 rfl) (oH hw 2 rfl) (by decide) (by decide)) q18a q18c (g := (mkF m 126 #[.val (.int i0), .val (.int i1), .val (.int i2), .val (.int i3), .val (.int ca), .val (.int 1), .val (.int da), .val (.int db), .val (.int c1), .val (.int c2), .val (.int kp), .val (.ref sa), .val (.ref sb), .unset, .unset, .unset, .unset, .unset] [(.ref sb)])) rfl (by rw [hml]; rfl) (Steps.refl _) (argsL := []) (rest := []) (lenOf pd_48 rfl) rfl (by show 2 * 0 + _ ≤ _; exact Nat.le_of_eq rfl) (hb hby at_126) (fun _ _ => ⟨rfl, rfl, (by decide : 3 + 1 ≤ _), (by decide : 39 + 11 ≤ _)⟩)
        dsimp only [Pt.U, Pt.locs, Pt.cells, Pt.slots] at X18 l18 y18 z18 st18 hQ18
        subst l18 y18 z18
        obtain ⟨rfl, Nq18, Kc18, pp18, -, Ga18, Gb18, Gc18, Gd18, Ge18, Gf18, Gp18, Gq18⟩ := hQ18
        have N18 := Fr.app Nk Nq18
        have Z18 : n0 ≤ T18.heap.size := Nat.le_trans Zk Kc18.1
        have c18_Esb := Ex.keep Kc18
        refine own_goT (S' := (T18.setTop (mkF m 129 #[.val (.int i0), .val (.int i1), .val (.int i2), .val (.int i3), .val (.int ca), .val (.int 1), .val (.int da), .val (.int db), .val (.int c1), .val (.int c2), .val (.int kp), .val (.ref sa), .val (.ref sb), .unset, .unset, .unset, .unset, .unset] []))) st18 ?_
        have Sb' : own_S Z T18.heap sb i1 1 0 aN aI := ⟨Ex.keep Kc18, Ga18, Gb18, Gc18, Gd18, fun _ => Ge18, pp18, Gf18, Gp18, Gq18, fun q => absurd q (by decide)⟩
        have Sa' := Sa.keep Kc18 (ninS nab nin0) (fun x hx => by cases List.mem_singleton.mp hx; exact Ex)
        exact K129 _ _ X18 Z18 N18 sa sb nab g_sa g_sb Sa' Sb'
    have K109 : ∀ (Tk : State) (lk : List Loc) (Xk : Stand p l e room_1 s m #[(.int i0), (.int i1), (.int i2), (.int i3)] below meth c Tk lk 2 28) (Zk : n0 ≤ Tk.heap.size) (Nk : Fr n0 lk) (sa sb : Addr) (nab : sa ≠ sb) (g_sa : n0 ≤ sa) (g_sb : n0 ≤ sb) (Sa : own_S Z Tk.heap sa i0 0 0 aN aI) (Sb : own_S Z Tk.heap sb i1 0 0 aN aI), own_Go p e below s (Q_rm0 Z i0 i1 i2 i3 aN aI aD aG kI h0 n0) room_1.cells room_1.slots (Tk.setTop (mkF m 109 #[.val (.int i0), .val (.int i1), .val (.int i2), .val (.int i3), .val (.int ca), .val (.int cb), .val (.int da), .val (.int db), .val (.int c1), .val (.int c2), .val (.int kp), .val (.ref sa), .val (.ref sb), .unset, .unset, .unset, .unset, .unset] [])) := by
      intro Tk lk Xk Zk Nk sa sb nab g_sa g_sb Sa Sb
      refine own_go (S' := (Tk.setTop (mkF m 111 #[.val (.int i0), .val (.int i1), .val (.int i2), .val (.int i3), .val (.int ca), .val (.int cb), .val (.int da), .val (.int db), .val (.int c1), .val (.int c2), .val (.int kp), .val (.ref sa), .val (.ref sb), .unset, .unset, .unset, .unset, .unset] [(.int ca)]))) (fun _ kont => XS.iload Xk.here hx rfl (hb hby at_109) rfl kont) ?_
      rcases hca with rfl | rfl
      · refine own_go (S' := (Tk.setTop (mkF m 119 #[.val (.int i0), .val (.int i1), .val (.int i2), .val (.int i3), .val (.int 0), .val (.int cb), .val (.int da), .val (.int db), .val (.int c1), .val (.int c2), .val (.int kp), .val (.ref sa), .val (.ref sb), .unset, .unset, .unset, .unset, .unset] []))) (fun _ kont => XS.ifYes Xk.here hx rfl (pc0 := 111) (pc' := 119) rfl (hb hby at_111) rfl ((if0 _ _).trans (teq (by decide)).1) (by decide) (by decide) kont) ?_
        exact K119 Tk lk (Xk.mono (by decide) (by decide)) Zk Nk sa sb nab g_sa g_sb Sa Sb
      · refine own_go (S' := (Tk.setTop (mkF m 116 #[.val (.int i0), .val (.int i1), .val (.int i2), .val (.int i3), .val (.int 1), .val (.int cb), .val (.int da), .val (.int db), .val (.int c1), .val (.int c2), .val (.int kp), .val (.ref sa), .val (.ref sb), .unset, .unset, .unset, .unset, .unset] [(.ref sa)]))) (fun _ kont => XS.ifNo Xk.here hx rfl (hb hby at_111) rfl ((if0 _ _).trans (feq (by decide)).1) (XS.aload Xk.here hx rfl (hb hby at_114) rfl rfl kont)) ?_
        obtain ⟨Ex, F1, F2, F3, F4, F5, pp0, F6, Ep, F7, hpp⟩ := id Sa
        have Eo19 : Ext h0 Tk.heap := ⟨by rw [← hn0]; exact Zk, fun b cl z => by exact oldF Xk (by rw [hh, ← hn0]; exact Nk) b cl (by rw [hh]; exact z)⟩
        rw [hpp rfl] at F6
        have SN := S_NONE.ext Eo19
        obtain ⟨cq20, kq20, q20a, q20b, q20c⟩ := isOf hZ rfl Ex
        obtain ⟨v20, _, ⟨T20, L20, k20, n20⟩, -, X20, ⟨Lc20, hQ20, l20, y20, z20⟩, st20⟩ := Xk.virtualBack hx (y := (⟨"com/example/otaniemi/otaniemi/State", "countNodes", "()V"⟩ : MethodName)) (z := (⟨"com/example/otaniemi/otaniemi/State", "countNodes", "()V"⟩ : MethodName)) hown (mvT hZ (oH hw 35 rfl)) (mvT hZ (oH hw 36 rfl)) (notFace_of_selects (args := #[]) (mvT hZ (oH hw 38 rfl))) (mvT hZ (oH hw 38 rfl)) (mvT hZ (oH hw 37 rfl)) (by decide) (backOf (W := 0) (rmCn l Z a0 hw [] sa i0 aN aI Tk.heap n0 Zk Ex F1 F2 F3 F4 (F5 rfl) F6 g_sa SN) hZ (oH hw 39 rfl) (oH hw 2 rfl) (by decide) (by decide)) q20a q20c (g := (mkF m 116 #[.val (.int i0), .val (.int i1), .val (.int i2), .val (.int i3), .val (.int 1), .val (.int cb), .val (.int da), .val (.int db), .val (.int c1), .val (.int c2), .val (.int kp), .val (.ref sa), .val (.ref sb), .unset, .unset, .unset, .unset, .unset] [(.ref sa)])) rfl (by rw [hml]; rfl) (Steps.refl _) (argsL := []) (rest := []) (lenOf pd_48 rfl) rfl (by show 2 * 0 + _ ≤ _; exact Nat.le_of_eq rfl) (hb hby at_116) (fun _ _ => ⟨rfl, rfl, (by decide : 2 + 1 ≤ _), (by decide : 28 + 11 ≤ _)⟩)
        dsimp only [Pt.U, Pt.locs, Pt.cells, Pt.slots] at X20 l20 y20 z20 st20 hQ20
        subst l20 y20 z20
        obtain ⟨rfl, Nq20, Kc20, pp20, -, Ga20, Gb20, Gc20, Gd20, Ge20, Gf20, Gp20, Gq20⟩ := hQ20
        have N20 := Fr.app Nk Nq20
        have Z20 : n0 ≤ T20.heap.size := Nat.le_trans Zk Kc20.1
        have c20_Esa := Ex.keep Kc20
        refine own_goT (S' := (T20.setTop (mkF m 119 #[.val (.int i0), .val (.int i1), .val (.int i2), .val (.int i3), .val (.int 1), .val (.int cb), .val (.int da), .val (.int db), .val (.int c1), .val (.int c2), .val (.int kp), .val (.ref sa), .val (.ref sb), .unset, .unset, .unset, .unset, .unset] []))) st20 ?_
        have Sa' : own_S Z T20.heap sa i0 1 0 aN aI := ⟨Ex.keep Kc20, Ga20, Gb20, Gc20, Gd20, fun _ => Ge20, pp20, Gf20, Gp20, Gq20, fun q => absurd q (by decide)⟩
        have Sb' := Sb.keep Kc20 (ninS (Ne.symm nab) nin0) (fun x hx => by cases List.mem_singleton.mp hx; exact Ex)
        exact K119 _ _ X20 Z20 N20 sa sb nab g_sa g_sb Sa' Sb'
    obtain ⟨T21, h21, X21, e21, E21, A21, D21, -, st21⟩ := newO X0 hx hZ hown (oH hw 0 rfl) (oH hw 1 rfl) (oH hw 2 rfl) e0 (g := (mkF m 83 #[.val (.int i0), .val (.int i1), .val (.int i2), .val (.int i3), .val (.int ca), .val (.int cb), .val (.int da), .val (.int db), .val (.int c1), .val (.int c2), .val (.int kp), .unset, .unset, .unset, .unset, .unset, .unset, .unset] [])) rfl (hb hby at_83) (by decide) (by decide)
    obtain ⟨sa, gz21⟩ : ∃ z, z = h0.size := ⟨_, rfl⟩
    rw [← gz21] at A21 D21 st21
    have g_sa : n0 ≤ sa := Nat.le_trans Z0 (Nat.le_of_eq gz21.symm)
    have F21_predicateParts : Fld Z h21 sa "com/example/otaniemi/otaniemi/State" "predicateParts" "Lcom/example/otaniemi/otaniemi/State$PredicateParts;" .null := D21 (Or.inl (oH hw 13 rfl)) (ty := (.object "com/example/otaniemi/otaniemi/State$PredicateParts")) (by decide)
    have F21_ids : Fld Z h21 sa "com/example/otaniemi/otaniemi/State" "ids" "[I" .null := D21 (Or.inl (oH hw 17 rfl)) (ty := (.array .int)) (by decide)
    have F21_number : Fld Z h21 sa "com/example/otaniemi/otaniemi/State" "number" "I" (.int 0) := D21 (Or.inl (oH hw 19 rfl)) (ty := .int) (by decide)
    have F21_parent : Fld Z h21 sa "com/example/otaniemi/otaniemi/State" "parent" "Lcom/example/otaniemi/otaniemi/State;" .null := D21 (Or.inr (oH hw 21 rfl)) (ty := (.object "com/example/otaniemi/otaniemi/State")) (by decide)
    have F21_edge : Fld Z h21 sa "com/example/otaniemi/otaniemi/State" "edge" "Lcom/example/otaniemi/otaniemi/State$Edge;" .null := D21 (Or.inr (oH hw 23 rfl)) (ty := (.object "com/example/otaniemi/otaniemi/State$Edge")) (by decide)
    have F21_key : Fld Z h21 sa "com/example/otaniemi/otaniemi/State" "key" "Ljava/lang/String;" .null := D21 (Or.inr (oH hw 25 rfl)) (ty := (.object "java/lang/String")) (by decide)
    have F21_loops : Fld Z h21 sa "com/example/otaniemi/otaniemi/State" "loops" "Z" (.int 0) := D21 (Or.inr (oH hw 30 rfl)) (ty := .boolean) (by decide)
    have F21_conditional : Fld Z h21 sa "com/example/otaniemi/otaniemi/State" "conditional" "Z" (.int 0) := D21 (Or.inr (oH hw 34 rfl)) (ty := .boolean) (by decide)
    have F21_idCount : Fld Z h21 sa "com/example/otaniemi/otaniemi/State" "idCount" "I" (.int 0) := D21 (Or.inl (oH hw 82 rfl)) (ty := .int) (by decide)
    have F21_predicateDepth : Fld Z h21 sa "com/example/otaniemi/otaniemi/State" "predicateDepth" "I" (.int 0) := D21 (Or.inl (oH hw 155 rfl)) (ty := .int) (by decide)
    have Z21 : n0 ≤ h21.size := Nat.le_trans Z0 E21.1
    refine own_go (S' := (T21.setTop (mkF m 86 #[.val (.int i0), .val (.int i1), .val (.int i2), .val (.int i3), .val (.int ca), .val (.int cb), .val (.int da), .val (.int db), .val (.int c1), .val (.int c2), .val (.int kp), .unset, .unset, .unset, .unset, .unset, .unset, .unset] [(.ref sa)]))) st21 ?_
    refine own_go (S' := (T21.setTop (mkF m 91 #[.val (.int i0), .val (.int i1), .val (.int i2), .val (.int i3), .val (.int ca), .val (.int cb), .val (.int da), .val (.int db), .val (.int c1), .val (.int c2), .val (.int kp), .unset, .unset, .unset, .unset, .unset, .unset, .unset] [.null, .null, .null, (.int i0), (.ref sa), (.ref sa)]))) (fun _ kont => XS.dup X21.here hx rfl (hb hby at_86) rfl rfl (XS.iloadN X21.here hx rfl (hb hby at_87) rfl (XS.aconstNull X21.here hx rfl (hb hby at_88) (XS.aconstNull X21.here hx rfl (hb hby at_89) (XS.aconstNull X21.here hx rfl (hb hby at_90) kont))))) ?_
    have Eo22 : Ext h0 h21 := ⟨by rw [← hn0]; exact Z21, fun b cl z => by rw [← e21]; exact oldF X21 (by rw [hh, ← hn0]; exact N0) b cl (by rw [hh]; exact z)⟩
    obtain ⟨v23, _, ⟨T23, L23, k23, n23⟩, -, X23, ⟨Lc23, hQ23, l23, y23, z23⟩, st23⟩ := X21.specialBack hx (y := (⟨"com/example/otaniemi/otaniemi/State", "<init>", "(ILcom/example/otaniemi/otaniemi/State;Lcom/example/otaniemi/otaniemi/State$Edge;Ljava/lang/String;)V"⟩ : MethodName)) rfl hown (mvT hZ (oH hw 3 rfl)) (mvT hZ (oH hw 4 rfl)) (mvT hZ (oH hw 5 rfl)) (by decide) (backOf (W := 1) (rmSt l Z a0 hw [] sa i0 aN aI aD aG h21 n0 Z21 A21 F21_predicateParts F21_ids F21_number F21_parent F21_edge F21_key F21_loops F21_conditional F21_idCount F21_predicateDepth g_sa (S_NONE.ext Eo22) (S_NO_IDS.ext Eo22) (S_DESCENDANTS.ext Eo22) (S_GUARD.ext Eo22)) hZ (oH hw 5 rfl) (oH hw 2 rfl) (by decide) (by decide)) (g := (mkF m 91 #[.val (.int i0), .val (.int i1), .val (.int i2), .val (.int i3), .val (.int ca), .val (.int cb), .val (.int da), .val (.int db), .val (.int c1), .val (.int c2), .val (.int kp), .unset, .unset, .unset, .unset, .unset, .unset, .unset] [.null, .null, .null, (.int i0), (.ref sa), (.ref sa)])) rfl (by rw [hml]; rfl) (Steps.refl _) (a := sa) (argsL := [(.int i0), .null, .null, .null]) (rest := [(.ref sa)]) (lenOf pd_405 rfl) rfl (by show 2 * 0 + _ ≤ _; exact Nat.le_of_eq rfl) (hb hby at_91) (fun _ _ => ⟨rfl, e21, (by decide : 1 + 0 ≤ _), (by decide : 14 + 0 ≤ _)⟩)
    dsimp only [Pt.U, Pt.locs, Pt.cells, Pt.slots] at X23 l23 y23 z23 st23 hQ23
    subst l23 y23 z23
    obtain ⟨rfl, Nq23, Kc23, Ga23, Gb23, Gc23, Gd23, Ge23, Gf23⟩ := hQ23
    have N23 := Fr.app N0 Nq23
    have Z23 : n0 ≤ T23.heap.size := Nat.le_trans Z21 Kc23.1
    have c23_Esa := A21.keep Kc23
    refine own_goT (S' := (T23.setTop (mkF m 94 #[.val (.int i0), .val (.int i1), .val (.int i2), .val (.int i3), .val (.int ca), .val (.int cb), .val (.int da), .val (.int db), .val (.int c1), .val (.int c2), .val (.int kp), .unset, .unset, .unset, .unset, .unset, .unset, .unset] [(.ref sa)]))) st23 ?_
    have Eo24 : Ext h0 T23.heap := ⟨by rw [← hn0]; exact Z23, fun b cl z => by exact oldF X23 (by rw [hh, ← hn0]; exact N23) b cl (by rw [hh]; exact z)⟩
    have Sa : own_S Z T23.heap sa i0 0 0 aN aI := ⟨c23_Esa, Ga23, Gb23, Gc23, Gd23, fun _ => Ge23, aN, Gf23, E_N.ext Eo24, F_N.ext Eo24, fun _ => rfl⟩
    refine own_go (S' := (T23.setTop (mkF m 96 #[.val (.int i0), .val (.int i1), .val (.int i2), .val (.int i3), .val (.int ca), .val (.int cb), .val (.int da), .val (.int db), .val (.int c1), .val (.int c2), .val (.int kp), .val (.ref sa), .unset, .unset, .unset, .unset, .unset, .unset] []))) (fun _ kont => XS.astore X23.here hx rfl (hb hby at_94) rfl rfl (l' := #[.val (.int i0), .val (.int i1), .val (.int i2), .val (.int i3), .val (.int ca), .val (.int cb), .val (.int da), .val (.int db), .val (.int c1), .val (.int c2), .val (.int kp), .val (.ref sa), .unset, .unset, .unset, .unset, .unset, .unset]) rfl kont) ?_
    obtain ⟨T25, h25, X25, e25, E25, A25, D25, -, st25⟩ := newO X23 hx hZ hown (oH hw 0 rfl) (oH hw 1 rfl) (oH hw 2 rfl) rfl (g := (mkF m 96 #[.val (.int i0), .val (.int i1), .val (.int i2), .val (.int i3), .val (.int ca), .val (.int cb), .val (.int da), .val (.int db), .val (.int c1), .val (.int c2), .val (.int kp), .val (.ref sa), .unset, .unset, .unset, .unset, .unset, .unset] [])) rfl (hb hby at_96) (by decide) (by decide)
    obtain ⟨sb, gz25⟩ : ∃ z, z = T23.heap.size := ⟨_, rfl⟩
    rw [← gz25] at A25 D25 st25
    have ne_sa_sb : sa ≠ sb := Nat.ne_of_lt (by rw [gz25]; exact Sa.lt)
    have c25_Usa := Sa.ext E25
    have g_sb : n0 ≤ sb := Nat.le_trans Z23 (Nat.le_of_eq gz25.symm)
    have F25_predicateParts : Fld Z h25 sb "com/example/otaniemi/otaniemi/State" "predicateParts" "Lcom/example/otaniemi/otaniemi/State$PredicateParts;" .null := D25 (Or.inl (oH hw 13 rfl)) (ty := (.object "com/example/otaniemi/otaniemi/State$PredicateParts")) (by decide)
    have F25_ids : Fld Z h25 sb "com/example/otaniemi/otaniemi/State" "ids" "[I" .null := D25 (Or.inl (oH hw 17 rfl)) (ty := (.array .int)) (by decide)
    have F25_number : Fld Z h25 sb "com/example/otaniemi/otaniemi/State" "number" "I" (.int 0) := D25 (Or.inl (oH hw 19 rfl)) (ty := .int) (by decide)
    have F25_parent : Fld Z h25 sb "com/example/otaniemi/otaniemi/State" "parent" "Lcom/example/otaniemi/otaniemi/State;" .null := D25 (Or.inr (oH hw 21 rfl)) (ty := (.object "com/example/otaniemi/otaniemi/State")) (by decide)
    have F25_edge : Fld Z h25 sb "com/example/otaniemi/otaniemi/State" "edge" "Lcom/example/otaniemi/otaniemi/State$Edge;" .null := D25 (Or.inr (oH hw 23 rfl)) (ty := (.object "com/example/otaniemi/otaniemi/State$Edge")) (by decide)
    have F25_key : Fld Z h25 sb "com/example/otaniemi/otaniemi/State" "key" "Ljava/lang/String;" .null := D25 (Or.inr (oH hw 25 rfl)) (ty := (.object "java/lang/String")) (by decide)
    have F25_loops : Fld Z h25 sb "com/example/otaniemi/otaniemi/State" "loops" "Z" (.int 0) := D25 (Or.inr (oH hw 30 rfl)) (ty := .boolean) (by decide)
    have F25_conditional : Fld Z h25 sb "com/example/otaniemi/otaniemi/State" "conditional" "Z" (.int 0) := D25 (Or.inr (oH hw 34 rfl)) (ty := .boolean) (by decide)
    have F25_idCount : Fld Z h25 sb "com/example/otaniemi/otaniemi/State" "idCount" "I" (.int 0) := D25 (Or.inl (oH hw 82 rfl)) (ty := .int) (by decide)
    have F25_predicateDepth : Fld Z h25 sb "com/example/otaniemi/otaniemi/State" "predicateDepth" "I" (.int 0) := D25 (Or.inl (oH hw 155 rfl)) (ty := .int) (by decide)
    have Z25 : n0 ≤ h25.size := Nat.le_trans Z23 E25.1
    refine own_go (S' := (T25.setTop (mkF m 99 #[.val (.int i0), .val (.int i1), .val (.int i2), .val (.int i3), .val (.int ca), .val (.int cb), .val (.int da), .val (.int db), .val (.int c1), .val (.int c2), .val (.int kp), .val (.ref sa), .unset, .unset, .unset, .unset, .unset, .unset] [(.ref sb)]))) st25 ?_
    refine own_go (S' := (T25.setTop (mkF m 104 #[.val (.int i0), .val (.int i1), .val (.int i2), .val (.int i3), .val (.int ca), .val (.int cb), .val (.int da), .val (.int db), .val (.int c1), .val (.int c2), .val (.int kp), .val (.ref sa), .unset, .unset, .unset, .unset, .unset, .unset] [.null, .null, .null, (.int i1), (.ref sb), (.ref sb)]))) (fun _ kont => XS.dup X25.here hx rfl (hb hby at_99) rfl rfl (XS.iloadN X25.here hx rfl (hb hby at_100) rfl (XS.aconstNull X25.here hx rfl (hb hby at_101) (XS.aconstNull X25.here hx rfl (hb hby at_102) (XS.aconstNull X25.here hx rfl (hb hby at_103) kont))))) ?_
    have Eo26 : Ext h0 h25 := ⟨by rw [← hn0]; exact Z25, fun b cl z => by rw [← e25]; exact oldF X25 (by rw [hh, ← hn0]; exact N23) b cl (by rw [hh]; exact z)⟩
    obtain ⟨v27, _, ⟨T27, L27, k27, n27⟩, -, X27, ⟨Lc27, hQ27, l27, y27, z27⟩, st27⟩ := X25.specialBack hx (y := (⟨"com/example/otaniemi/otaniemi/State", "<init>", "(ILcom/example/otaniemi/otaniemi/State;Lcom/example/otaniemi/otaniemi/State$Edge;Ljava/lang/String;)V"⟩ : MethodName)) rfl hown (mvT hZ (oH hw 3 rfl)) (mvT hZ (oH hw 4 rfl)) (mvT hZ (oH hw 5 rfl)) (by decide) (backOf (W := 1) (rmSt l Z a0 hw [] sb i1 aN aI aD aG h25 n0 Z25 A25 F25_predicateParts F25_ids F25_number F25_parent F25_edge F25_key F25_loops F25_conditional F25_idCount F25_predicateDepth g_sb (S_NONE.ext Eo26) (S_NO_IDS.ext Eo26) (S_DESCENDANTS.ext Eo26) (S_GUARD.ext Eo26)) hZ (oH hw 5 rfl) (oH hw 2 rfl) (by decide) (by decide)) (g := (mkF m 104 #[.val (.int i0), .val (.int i1), .val (.int i2), .val (.int i3), .val (.int ca), .val (.int cb), .val (.int da), .val (.int db), .val (.int c1), .val (.int c2), .val (.int kp), .val (.ref sa), .unset, .unset, .unset, .unset, .unset, .unset] [.null, .null, .null, (.int i1), (.ref sb), (.ref sb)])) rfl (by rw [hml]; rfl) (Steps.refl _) (a := sb) (argsL := [(.int i1), .null, .null, .null]) (rest := [(.ref sb)]) (lenOf pd_405 rfl) rfl (by show 2 * 0 + _ ≤ _; exact Nat.le_of_eq rfl) (hb hby at_104) (fun _ _ => ⟨rfl, e25, (by decide : 2 + 0 ≤ _), (by decide : 28 + 0 ≤ _)⟩)
    dsimp only [Pt.U, Pt.locs, Pt.cells, Pt.slots] at X27 l27 y27 z27 st27 hQ27
    subst l27 y27 z27
    obtain ⟨rfl, Nq27, Kc27, Ga27, Gb27, Gc27, Gd27, Ge27, Gf27⟩ := hQ27
    have N27 := Fr.app N23 Nq27
    have Z27 : n0 ≤ T27.heap.size := Nat.le_trans Z25 Kc27.1
    have c27_Usa := c25_Usa.keep Kc27 (ninS ne_sa_sb nin0) (fun x hx => by cases List.mem_singleton.mp hx; exact A25)
    have c27_Esb := A25.keep Kc27
    refine own_goT (S' := (T27.setTop (mkF m 107 #[.val (.int i0), .val (.int i1), .val (.int i2), .val (.int i3), .val (.int ca), .val (.int cb), .val (.int da), .val (.int db), .val (.int c1), .val (.int c2), .val (.int kp), .val (.ref sa), .unset, .unset, .unset, .unset, .unset, .unset] [(.ref sb)]))) st27 ?_
    have Eo28 : Ext h0 T27.heap := ⟨by rw [← hn0]; exact Z27, fun b cl z => by exact oldF X27 (by rw [hh, ← hn0]; exact N27) b cl (by rw [hh]; exact z)⟩
    have Sb : own_S Z T27.heap sb i1 0 0 aN aI := ⟨c27_Esb, Ga27, Gb27, Gc27, Gd27, fun _ => Ge27, aN, Gf27, E_N.ext Eo28, F_N.ext Eo28, fun _ => rfl⟩
    refine own_go (S' := (T27.setTop (mkF m 109 #[.val (.int i0), .val (.int i1), .val (.int i2), .val (.int i3), .val (.int ca), .val (.int cb), .val (.int da), .val (.int db), .val (.int c1), .val (.int c2), .val (.int kp), .val (.ref sa), .val (.ref sb), .unset, .unset, .unset, .unset, .unset] []))) (fun _ kont => XS.astore X27.here hx rfl (hb hby at_107) rfl rfl (l' := #[.val (.int i0), .val (.int i1), .val (.int i2), .val (.int i3), .val (.int ca), .val (.int cb), .val (.int da), .val (.int db), .val (.int c1), .val (.int c2), .val (.int kp), .val (.ref sa), .val (.ref sb), .unset, .unset, .unset, .unset, .unset]) rfl kont) ?_
    exact K109 _ _ X27 Z27 N27 sa sb ne_sa_sb g_sa g_sb c27_Usa Sb
  have K81 : ∀ (ca cb da db kp : Int32) (hca : ca = 0 ∨ ca = 1) (hcb : cb = 0 ∨ cb = 1) (hda : da = 0 ∨ da = 1) (hdb : db = 0 ∨ db = 1) (hkp : kp = 0 ∨ kp = 1), own_Go p e below s (Q_rm0 Z i0 i1 i2 i3 aN aI aD aG kI h0 n0) room_1.cells room_1.slots (s₁.setTop (mkF m 81 #[.val (.int i0), .val (.int i1), .val (.int i2), .val (.int i3), .val (.int ca), .val (.int cb), .val (.int da), .val (.int db), .val (.int ((i2 >>> ((4 : Int32) &&& 31)) &&& (3 : Int32))), .val (.int ((i2 >>> ((6 : Int32) &&& 31)) &&& (3 : Int32))), .unset, .unset, .unset, .unset, .unset, .unset, .unset, .unset] [(.int kp)])) := by
    intro ca cb da db kp hca hcb hda hdb hkp
    refine own_go (S' := (s₁.setTop (mkF m 83 #[.val (.int i0), .val (.int i1), .val (.int i2), .val (.int i3), .val (.int ca), .val (.int cb), .val (.int da), .val (.int db), .val (.int ((i2 >>> ((4 : Int32) &&& 31)) &&& (3 : Int32))), .val (.int ((i2 >>> ((6 : Int32) &&& 31)) &&& (3 : Int32))), .val (.int kp), .unset, .unset, .unset, .unset, .unset, .unset, .unset] []))) (fun _ kont => XS.istore X0.here hx rfl (hb hby at_81) rfl (l' := #[.val (.int i0), .val (.int i1), .val (.int i2), .val (.int i3), .val (.int ca), .val (.int cb), .val (.int da), .val (.int db), .val (.int ((i2 >>> ((4 : Int32) &&& 31)) &&& (3 : Int32))), .val (.int ((i2 >>> ((6 : Int32) &&& 31)) &&& (3 : Int32))), .val (.int kp), .unset, .unset, .unset, .unset, .unset, .unset, .unset]) rfl kont) ?_
    exact K83 ca cb da db _ _ kp hca hcb hda hdb hkp
  have K51 : ∀ (ca cb da db : Int32) (hca : ca = 0 ∨ ca = 1) (hcb : cb = 0 ∨ cb = 1) (hda : da = 0 ∨ da = 1) (hdb : db = 0 ∨ db = 1), own_Go p e below s (Q_rm0 Z i0 i1 i2 i3 aN aI aD aG kI h0 n0) room_1.cells room_1.slots (s₁.setTop (mkF m 51 #[.val (.int i0), .val (.int i1), .val (.int i2), .val (.int i3), .val (.int ca), .val (.int cb), .val (.int da), .unset, .unset, .unset, .unset, .unset, .unset, .unset, .unset, .unset, .unset, .unset] [(.int db)])) := by
    intro ca cb da db hca hcb hda hdb
    refine own_go (S' := (s₁.setTop (mkF m 61 #[.val (.int i0), .val (.int i1), .val (.int i2), .val (.int i3), .val (.int ca), .val (.int cb), .val (.int da), .val (.int db), .val (.int ((i2 >>> ((4 : Int32) &&& 31)) &&& (3 : Int32))), .unset, .unset, .unset, .unset, .unset, .unset, .unset, .unset, .unset] [(.int i2)]))) (fun _ kont => XS.istore X0.here hx rfl (hb hby at_51) rfl (l' := #[.val (.int i0), .val (.int i1), .val (.int i2), .val (.int i3), .val (.int ca), .val (.int cb), .val (.int da), .val (.int db), .unset, .unset, .unset, .unset, .unset, .unset, .unset, .unset, .unset, .unset]) rfl (XS.iloadN X0.here hx rfl (hb hby at_53) rfl (XS.iconst X0.here hx rfl (hb hby at_54) (XS.ishr X0.here hx rfl (hb hby at_55) rfl (XS.iconst X0.here hx rfl (hb hby at_56) (XS.iand X0.here hx rfl (hb hby at_57) rfl (XS.istore X0.here hx rfl (hb hby at_58) rfl (l' := #[.val (.int i0), .val (.int i1), .val (.int i2), .val (.int i3), .val (.int ca), .val (.int cb), .val (.int da), .val (.int db), .val (.int ((i2 >>> ((4 : Int32) &&& 31)) &&& (3 : Int32))), .unset, .unset, .unset, .unset, .unset, .unset, .unset, .unset, .unset]) rfl (XS.iloadN X0.here hx rfl (hb hby at_60) rfl kont)))))))) ?_
    refine own_go (S' := (s₁.setTop (mkF m 73 #[.val (.int i0), .val (.int i1), .val (.int i2), .val (.int i3), .val (.int ca), .val (.int cb), .val (.int da), .val (.int db), .val (.int ((i2 >>> ((4 : Int32) &&& 31)) &&& (3 : Int32))), .val (.int ((i2 >>> ((6 : Int32) &&& 31)) &&& (3 : Int32))), .unset, .unset, .unset, .unset, .unset, .unset, .unset, .unset] [(.int (i2 &&& (256 : Int32)))]))) (fun _ kont => XS.bipush X0.here hx rfl (hb hby at_61) (XS.ishr X0.here hx rfl (hb hby at_63) rfl (XS.iconst X0.here hx rfl (hb hby at_64) (XS.iand X0.here hx rfl (hb hby at_65) rfl (XS.istore X0.here hx rfl (hb hby at_66) rfl (l' := #[.val (.int i0), .val (.int i1), .val (.int i2), .val (.int i3), .val (.int ca), .val (.int cb), .val (.int da), .val (.int db), .val (.int ((i2 >>> ((4 : Int32) &&& 31)) &&& (3 : Int32))), .val (.int ((i2 >>> ((6 : Int32) &&& 31)) &&& (3 : Int32))), .unset, .unset, .unset, .unset, .unset, .unset, .unset, .unset]) rfl (XS.iloadN X0.here hx rfl (hb hby at_68) rfl (XS.sipush X0.here hx rfl (hb hby at_69) (XS.iand X0.here hx rfl (hb hby at_72) rfl kont)))))))) ?_
    by_cases qb : (i2 &&& (256 : Int32)) = (0 : Int32)
    · refine own_go (S' := (s₁.setTop (mkF m 81 #[.val (.int i0), .val (.int i1), .val (.int i2), .val (.int i3), .val (.int ca), .val (.int cb), .val (.int da), .val (.int db), .val (.int ((i2 >>> ((4 : Int32) &&& 31)) &&& (3 : Int32))), .val (.int ((i2 >>> ((6 : Int32) &&& 31)) &&& (3 : Int32))), .unset, .unset, .unset, .unset, .unset, .unset, .unset, .unset] [(.int 0)]))) (fun _ kont => XS.ifYes X0.here hx rfl (pc0 := 73) (pc' := 80) rfl (hb hby at_73) rfl ((if0 _ _).trans (teq qb).1) (by decide) (by decide) (XS.iconst X0.here hx rfl (hb hby at_80) kont)) ?_
      exact K81 ca cb da db _ hca hcb hda hdb (Or.inl rfl)
    · refine own_go (S' := (s₁.setTop (mkF m 81 #[.val (.int i0), .val (.int i1), .val (.int i2), .val (.int i3), .val (.int ca), .val (.int cb), .val (.int da), .val (.int db), .val (.int ((i2 >>> ((4 : Int32) &&& 31)) &&& (3 : Int32))), .val (.int ((i2 >>> ((6 : Int32) &&& 31)) &&& (3 : Int32))), .unset, .unset, .unset, .unset, .unset, .unset, .unset, .unset] [(.int 1)]))) (fun _ kont => XS.ifNo X0.here hx rfl (hb hby at_73) rfl ((if0 _ _).trans (feq qb).1) (XS.iconst X0.here hx rfl (hb hby at_76) (XS.goto X0.here hx rfl (pc0 := 77) (pc' := 81) rfl (hb hby at_77) (by decide) (by decide) kont))) ?_
      exact K81 ca cb da db _ hca hcb hda hdb (Or.inr rfl)
  have K37 : ∀ (ca cb da : Int32) (hca : ca = 0 ∨ ca = 1) (hcb : cb = 0 ∨ cb = 1) (hda : da = 0 ∨ da = 1), own_Go p e below s (Q_rm0 Z i0 i1 i2 i3 aN aI aD aG kI h0 n0) room_1.cells room_1.slots (s₁.setTop (mkF m 37 #[.val (.int i0), .val (.int i1), .val (.int i2), .val (.int i3), .val (.int ca), .val (.int cb), .unset, .unset, .unset, .unset, .unset, .unset, .unset, .unset, .unset, .unset, .unset, .unset] [(.int da)])) := by
    intro ca cb da hca hcb hda
    refine own_go (S' := (s₁.setTop (mkF m 43 #[.val (.int i0), .val (.int i1), .val (.int i2), .val (.int i3), .val (.int ca), .val (.int cb), .val (.int da), .unset, .unset, .unset, .unset, .unset, .unset, .unset, .unset, .unset, .unset, .unset] [(.int (i2 &&& (8 : Int32)))]))) (fun _ kont => XS.istore X0.here hx rfl (hb hby at_37) rfl (l' := #[.val (.int i0), .val (.int i1), .val (.int i2), .val (.int i3), .val (.int ca), .val (.int cb), .val (.int da), .unset, .unset, .unset, .unset, .unset, .unset, .unset, .unset, .unset, .unset, .unset]) rfl (XS.iloadN X0.here hx rfl (hb hby at_39) rfl (XS.bipush X0.here hx rfl (hb hby at_40) (XS.iand X0.here hx rfl (hb hby at_42) rfl kont)))) ?_
    by_cases qb : (i2 &&& (8 : Int32)) = (0 : Int32)
    · refine own_go (S' := (s₁.setTop (mkF m 51 #[.val (.int i0), .val (.int i1), .val (.int i2), .val (.int i3), .val (.int ca), .val (.int cb), .val (.int da), .unset, .unset, .unset, .unset, .unset, .unset, .unset, .unset, .unset, .unset, .unset] [(.int 0)]))) (fun _ kont => XS.ifYes X0.here hx rfl (pc0 := 43) (pc' := 50) rfl (hb hby at_43) rfl ((if0 _ _).trans (teq qb).1) (by decide) (by decide) (XS.iconst X0.here hx rfl (hb hby at_50) kont)) ?_
      exact K51 ca cb da _ hca hcb hda (Or.inl rfl)
    · refine own_go (S' := (s₁.setTop (mkF m 51 #[.val (.int i0), .val (.int i1), .val (.int i2), .val (.int i3), .val (.int ca), .val (.int cb), .val (.int da), .unset, .unset, .unset, .unset, .unset, .unset, .unset, .unset, .unset, .unset, .unset] [(.int 1)]))) (fun _ kont => XS.ifNo X0.here hx rfl (hb hby at_43) rfl ((if0 _ _).trans (feq qb).1) (XS.iconst X0.here hx rfl (hb hby at_46) (XS.goto X0.here hx rfl (pc0 := 47) (pc' := 51) rfl (hb hby at_47) (by decide) (by decide) kont))) ?_
      exact K51 ca cb da _ hca hcb hda (Or.inr rfl)
  have K24 : ∀ (ca cb : Int32) (hca : ca = 0 ∨ ca = 1) (hcb : cb = 0 ∨ cb = 1), own_Go p e below s (Q_rm0 Z i0 i1 i2 i3 aN aI aD aG kI h0 n0) room_1.cells room_1.slots (s₁.setTop (mkF m 24 #[.val (.int i0), .val (.int i1), .val (.int i2), .val (.int i3), .val (.int ca), .unset, .unset, .unset, .unset, .unset, .unset, .unset, .unset, .unset, .unset, .unset, .unset, .unset] [(.int cb)])) := by
    intro ca cb hca hcb
    refine own_go (S' := (s₁.setTop (mkF m 29 #[.val (.int i0), .val (.int i1), .val (.int i2), .val (.int i3), .val (.int ca), .val (.int cb), .unset, .unset, .unset, .unset, .unset, .unset, .unset, .unset, .unset, .unset, .unset, .unset] [(.int (i2 &&& (4 : Int32)))]))) (fun _ kont => XS.istore X0.here hx rfl (hb hby at_24) rfl (l' := #[.val (.int i0), .val (.int i1), .val (.int i2), .val (.int i3), .val (.int ca), .val (.int cb), .unset, .unset, .unset, .unset, .unset, .unset, .unset, .unset, .unset, .unset, .unset, .unset]) rfl (XS.iloadN X0.here hx rfl (hb hby at_26) rfl (XS.iconst X0.here hx rfl (hb hby at_27) (XS.iand X0.here hx rfl (hb hby at_28) rfl kont)))) ?_
    by_cases qb : (i2 &&& (4 : Int32)) = (0 : Int32)
    · refine own_go (S' := (s₁.setTop (mkF m 37 #[.val (.int i0), .val (.int i1), .val (.int i2), .val (.int i3), .val (.int ca), .val (.int cb), .unset, .unset, .unset, .unset, .unset, .unset, .unset, .unset, .unset, .unset, .unset, .unset] [(.int 0)]))) (fun _ kont => XS.ifYes X0.here hx rfl (pc0 := 29) (pc' := 36) rfl (hb hby at_29) rfl ((if0 _ _).trans (teq qb).1) (by decide) (by decide) (XS.iconst X0.here hx rfl (hb hby at_36) kont)) ?_
      exact K37 ca cb _ hca hcb (Or.inl rfl)
    · refine own_go (S' := (s₁.setTop (mkF m 37 #[.val (.int i0), .val (.int i1), .val (.int i2), .val (.int i3), .val (.int ca), .val (.int cb), .unset, .unset, .unset, .unset, .unset, .unset, .unset, .unset, .unset, .unset, .unset, .unset] [(.int 1)]))) (fun _ kont => XS.ifNo X0.here hx rfl (hb hby at_29) rfl ((if0 _ _).trans (feq qb).1) (XS.iconst X0.here hx rfl (hb hby at_32) (XS.goto X0.here hx rfl (pc0 := 33) (pc' := 37) rfl (hb hby at_33) (by decide) (by decide) kont))) ?_
      exact K37 ca cb _ hca hcb (Or.inr rfl)
  have K11 : ∀ (ca : Int32) (hca : ca = 0 ∨ ca = 1), own_Go p e below s (Q_rm0 Z i0 i1 i2 i3 aN aI aD aG kI h0 n0) room_1.cells room_1.slots (s₁.setTop (mkF m 11 #[.val (.int i0), .val (.int i1), .val (.int i2), .val (.int i3), .unset, .unset, .unset, .unset, .unset, .unset, .unset, .unset, .unset, .unset, .unset, .unset, .unset, .unset] [(.int ca)])) := by
    intro ca hca
    refine own_go (S' := (s₁.setTop (mkF m 16 #[.val (.int i0), .val (.int i1), .val (.int i2), .val (.int i3), .val (.int ca), .unset, .unset, .unset, .unset, .unset, .unset, .unset, .unset, .unset, .unset, .unset, .unset, .unset] [(.int (i2 &&& (2 : Int32)))]))) (fun _ kont => XS.istore X0.here hx rfl (hb hby at_11) rfl (l' := #[.val (.int i0), .val (.int i1), .val (.int i2), .val (.int i3), .val (.int ca), .unset, .unset, .unset, .unset, .unset, .unset, .unset, .unset, .unset, .unset, .unset, .unset, .unset]) rfl (XS.iloadN X0.here hx rfl (hb hby at_13) rfl (XS.iconst X0.here hx rfl (hb hby at_14) (XS.iand X0.here hx rfl (hb hby at_15) rfl kont)))) ?_
    by_cases qb : (i2 &&& (2 : Int32)) = (0 : Int32)
    · refine own_go (S' := (s₁.setTop (mkF m 24 #[.val (.int i0), .val (.int i1), .val (.int i2), .val (.int i3), .val (.int ca), .unset, .unset, .unset, .unset, .unset, .unset, .unset, .unset, .unset, .unset, .unset, .unset, .unset] [(.int 0)]))) (fun _ kont => XS.ifYes X0.here hx rfl (pc0 := 16) (pc' := 23) rfl (hb hby at_16) rfl ((if0 _ _).trans (teq qb).1) (by decide) (by decide) (XS.iconst X0.here hx rfl (hb hby at_23) kont)) ?_
      exact K24 ca _ hca (Or.inl rfl)
    · refine own_go (S' := (s₁.setTop (mkF m 24 #[.val (.int i0), .val (.int i1), .val (.int i2), .val (.int i3), .val (.int ca), .unset, .unset, .unset, .unset, .unset, .unset, .unset, .unset, .unset, .unset, .unset, .unset, .unset] [(.int 1)]))) (fun _ kont => XS.ifNo X0.here hx rfl (hb hby at_16) rfl ((if0 _ _).trans (feq qb).1) (XS.iconst X0.here hx rfl (hb hby at_19) (XS.goto X0.here hx rfl (pc0 := 20) (pc' := 24) rfl (hb hby at_20) (by decide) (by decide) kont))) ?_
      exact K24 ca _ hca (Or.inr rfl)
  refine own_go (S' := (s₁.setTop (mkF m 3 #[.val (.int i0), .val (.int i1), .val (.int i2), .val (.int i3), .unset, .unset, .unset, .unset, .unset, .unset, .unset, .unset, .unset, .unset, .unset, .unset, .unset, .unset] [(.int (i2 &&& (1 : Int32)))]))) (fun _ kont => XS.iloadN X0.here hx rfl (hb hby at_0) rfl (XS.iconst X0.here hx rfl (hb hby at_1) (XS.iand X0.here hx rfl (hb hby at_2) rfl kont))) ?_
  by_cases qb : (i2 &&& (1 : Int32)) = (0 : Int32)
  · refine own_go (S' := (s₁.setTop (mkF m 11 #[.val (.int i0), .val (.int i1), .val (.int i2), .val (.int i3), .unset, .unset, .unset, .unset, .unset, .unset, .unset, .unset, .unset, .unset, .unset, .unset, .unset, .unset] [(.int 0)]))) (fun _ kont => XS.ifYes X0.here hx rfl (pc0 := 3) (pc' := 10) rfl (hb hby at_3) rfl ((if0 _ _).trans (teq qb).1) (by decide) (by decide) (XS.iconst X0.here hx rfl (hb hby at_10) kont)) ?_
    exact K11 _ (Or.inl rfl)
  · refine own_go (S' := (s₁.setTop (mkF m 11 #[.val (.int i0), .val (.int i1), .val (.int i2), .val (.int i3), .unset, .unset, .unset, .unset, .unset, .unset, .unset, .unset, .unset, .unset, .unset, .unset, .unset, .unset] [(.int 1)]))) (fun _ kont => XS.ifNo X0.here hx rfl (hb hby at_3) rfl ((if0 _ _).trans (feq qb).1) (XS.iconst X0.here hx rfl (hb hby at_6) (XS.goto X0.here hx rfl (pc0 := 7) (pc' := 11) rfl (hb hby at_7) (by decide) (by decide) kont))) ?_
    exact K11 _ (Or.inr rfl)
set_option maxRecDepth 65536 in
set_option maxHeartbeats 40000000 in
theorem comes_1 {Post : Tables → Env → Array Value → State → Outcome → State → Prop} (hpost : ∀ tb e args s v u, (limb_1_1.after args s (.returned v) u = true ∧ limb_1_2.after args s (.returned v) u = true ∧ True) → FrameEnd s (.returned v) u (Jvm.fieldLocs frame_1_writes args s ++ Jvm.arrayLocs frame_1_arrays args s ++ Jvm.staticLocs frame_1_statics s) 32 192 → Post tb e args s (.returned v) u) :
    ArmFor flags0 classFile x code maxLocals ret World_1 tables_1 room_1 Calls_1 rest_1 Pre_1 Post := by
  intro l hfl _ _ p e ha hc hk s m args below hf hA hF happ hP
  obtain ⟨hcalls, hrest, hpre⟩ := hP
  obtain ⟨-, -, -, hnamed, -, -, -, hat⟩ := (Spec.applies_iff hf).mp happ
  obtain ⟨hg, hn⟩ := and_e (Cond.before_iff.mp (show (Jvm.Cond.and given_1 narrow_1).before args s = true from hpre))
  obtain ⟨h1, h2⟩ := and_e hg
  obtain ⟨w0, w1, w2, w3, rfl⟩ : ∃ w0 w1 w2 w3 : Value, args = #[w0, w1, w2, w3] := by
    have hs : args.size = 4 := by simpa [Cond.value, given_1] using h1
    obtain ⟨L⟩ := args
    match L, hs with
    | [w0, w1, w2, w3], _ => exact ⟨w0, w1, w2, w3, rfl⟩
  have hw := fun d (hd : d ∈ tables_1) => atoms_spec (ws := Jvm.Cond.code x code maxLocals ret :: tables_1) hat d (List.mem_cons_of_mem _ hd)
  have hfit : Fit s := fun {y c} hc i hi => by
    obtain ⟨ha, rfl⟩ := Array.getElem?_eq_some_iff.mp hc
    have q := List.all_eq_true.mp ((Array.all_eq_true_iff_forall_mem.mp hF) _ (Array.getElem_mem ha)) i (List.mem_range.mpr hi)
    simpa [Array.getElem?_eq_getElem hi] using q
  obtain ⟨hk0, hr0⟩ := and_e h2
  obtain ⟨i0, ev0⟩ := is_v hk0
  obtain rfl : w0 = (.int i0) := Option.some.inj ev0
  obtain ⟨hk1, hr1⟩ := and_e hr0
  obtain ⟨i1, ev1⟩ := is_v hk1
  obtain rfl : w1 = (.int i1) := Option.some.inj ev1
  obtain ⟨hk2, hr2⟩ := and_e hr1
  obtain ⟨i2, ev2⟩ := is_v hk2
  obtain rfl : w2 = (.int i2) := Option.some.inj ev2
  obtain ⟨i3, ev3⟩ := is_v hr2
  obtain rfl : w3 = (.int i3) := Option.some.inj ev3
  obtain ⟨nw0, nr0⟩ := and_e hn
  obtain ⟨nw1, nr1⟩ := and_e nr0
  obtain ⟨nw2, nr2⟩ := and_e nr1
  obtain ⟨nw3, nr3⟩ := and_e nr2
  obtain ⟨nw4, nr4⟩ := and_e nr3
  obtain ⟨nw5, nr5⟩ := and_e nr4
  obtain ⟨aN, evN⟩ := exa_v nw0
  have E_N := Exa.start evN nw0
  have S_NONE := Sta.start evN (Or.inr ⟨(oH hw 10 rfl), (oH hw 11 rfl)⟩)
  obtain ⟨aI, evI⟩ := exa_v nw2
  have S_NO_IDS := Sta.start evI (Or.inr ⟨(oH hw 2 rfl), (oH hw 15 rfl)⟩)
  obtain ⟨kI, V_I⟩ := own_arv0 hfit evI nw1 (own_eqInt nw3)
  obtain ⟨aD, evD⟩ := exa_v nw4
  have S_DESCENDANTS := Sta.start evD (Or.inr ⟨(oH hw 27 rfl), (oH hw 28 rfl)⟩)
  obtain ⟨aG, evG⟩ := exa_v nw5
  have S_GUARD := Sta.start evG (Or.inr ⟨(oH hw 27 rfl), (oH hw 32 rfl)⟩)
  have F_N := Fld.start ((fld_at evN).symm.trans (own_eqInt nr5))
  obtain ⟨n, o, h1, h2, h3, _, L, rfl, ⟨rfl, N⟩, hq⟩ := rm0 l s _ hw tables_1 i0 i1 i2 i3 aN aI aD aG kI s.heap s.heap.size (Nat.le_refl _) S_NONE S_NO_IDS S_DESCENDANTS S_GUARD E_N F_N V_I rfl p e ha hc hk s m _ below hf ((Spec.applies_iff_loose hf).mp happ).1 ⟨rfl, State.Warmed39.refl s, rfl⟩ trivial
  refine ⟨n, _, h1, h2, h3, hpost _ _ _ _ _ _ ⟨Cond.after_iff.mpr rfl, Cond.after_iff.mpr (eq_i res_at (Term.int_eval (1)) rfl), trivial⟩ ⟨hq.1, hq.2.1, (hq.2.2.sift fun y hy => Or.inr (N y hy)).mono (by decide) (by decide)⟩⟩
theorem main_1_1 : Claimed_1_1 := comes_1 fun _ _ _ _ _ _ h hF => ⟨h.1, hF⟩
theorem main_1_2 : Claimed_1_2 := comes_1 fun _ _ _ _ _ _ h hF => ⟨h.2.1, hF⟩
end Jvm.Pilot.@@N@@
namespace Jvm.Pilot.@@N@@
open Jvm Jvm.ClassFile Sem Op Lib Jvm.Free Jvm.Stand Jvm.Pilot.@@N@@.Jvm.D
/-! MADE BY PROGRAM (witnessworld.py) out of the Statement's table words and the real class files: 21 classes; the members and pool entries that the words name. The judged class is class 1, her method 1. -/
namespace start1
open Jvm.ClassFile
def u (s : String) : CpInfo := .utf8 (stringToUtf16 s)
/-- a pool by its gaps: so many unusable entries, then the entry; so many at the end -/
def gap : Nat → List CpInfo → List CpInfo
  | 0, r => r
  | n + 1, r => .unusable :: gap n r
def poolList (es : List (Nat × CpInfo)) (last : Nat) : List CpInfo := es.foldr (fun e r => gap e.1 (e.2 :: r)) (gap last [])
def pool (es : List (Nat × CpInfo)) (last : Nat) : Array CpInfo := ⟨poolList es last⟩
def fileOf (pool : Array CpInfo) (this : Nat) (attrs : Array Attribute := #[]) (ms : Array MethodInfo := #[]) (fl : Nat := 33) (sup : Nat := 0) (ifs : Array Nat := #[]) (fds : Array FieldInfo := #[]) : ClassFile where
  minorVersion := 0
  majorVersion := 65
  constantPool := pool
  accessFlags := fl
  thisClass := this
  superClass := sup
  interfaces := ifs
  fields := fds
  methods := ms
  attributes := attrs
def plain (name : String) (sup : Option ClassId) : Class where
  name := name
  kind := .ordinary
  loader := none
  accessFlags := 33
  super := sup
  interfaces := #[]
  cf := none
  fields := #[]
  methods := #[]
  instanceTypes := #[]
  staticTypes := #[]
  resolved := #[]
  callSites := []
  init := .initialized
  statics := none
  mirror := none

def pool0 : Array CpInfo := pool [(5, u "<init>"), (0, u "()V"), (1, .class_ 10), (1, u "java/lang/Object")] 113

def k0c0 : Code := { maxStack := 0, maxLocals := 1, code := object_method_1_code, exceptionTable := #[], attributes := #[] }
def k0m0 : Method := { name := "<init>", desc := "()V", sig := { parameters := [], returnType := none }, accessFlags := 1, code := some k0c0 }
/-- java/lang/Object -/
def k0 : Class := { plain "java/lang/Object" none with
  accessFlags := 33
  interfaces := #[]
  cf := some (fileOf pool0 8 #[] #[{ accessFlags := 1, nameIndex := 5, descriptorIndex := 6, attributes := #[] }] 33 0 #[] #[])
  fields := #[]
  methods := #[k0m0]
  instanceTypes := #[]
  staticTypes := #[]
  resolved := Array.replicate 124 none
  statics := none }

def pool1 : Array CpInfo := pool [(2, .class_ 4), (0, .nameAndType 5 6), (0, u "java/lang/Object"), (0, u "<init>"), (0, u "()V"), (0, .class_ 8), (0, u "com/example/otaniemi/otaniemi/State"), (0, .methodref 7 10), (0, .nameAndType 5 11), (0, u "(ILcom/example/otaniemi/otaniemi/State;Lcom/example/otaniemi/otaniemi/State$Edge;Ljava/lang/String;)V"), (0, .methodref 7 13), (0, .nameAndType 14 6), (0, u "countNodes"), (0, .methodref 7 16), (0, .nameAndType 17 18), (0, u "addId"), (0, u "(I)Z"), (0, .class_ 20), (0, u "com/example/otaniemi/otaniemi/Pending"), (0, .methodref 19 3), (0, .methodref 23 24), (0, .class_ 25), (0, .nameAndType 26 27), (0, u "com/example/otaniemi/otaniemi/PendingGetSoleEndPinLaw"), (0, u "addChoice"), (0, u "(Lcom/example/otaniemi/otaniemi/Pending;ILcom/example/otaniemi/otaniemi/State;Lcom/example/otaniemi/otaniemi/State;)V"), (0, .methodref 19 29), (0, .nameAndType 30 31), (0, u "keepEndsAbove"), (0, u "(I)V"), (0, .methodref 19 33), (0, .nameAndType 34 35), (0, u "getSoleEnd"), (0, u "()Lcom/example/otaniemi/otaniemi/State;"), (0, .methodref 19 37), (0, .nameAndType 38 39), (0, u "add"), (0, u "(Lcom/example/otaniemi/otaniemi/State;)V"), (2, u "law"), (0, u "(IIII)Z")] 7

def k1m0 : Method := { name := "<init>", desc := "()V", sig := { parameters := [], returnType := none }, accessFlags := 2, code := none }
def k1c1 : Code := { maxStack := 6, maxLocals := 18, code := code, exceptionTable := #[], attributes := #[] }
def k1m1 : Method := { name := "law", desc := "(IIII)Z", sig := { parameters := [.int, .int, .int, .int], returnType := some .boolean }, accessFlags := 9, code := some k1c1 }
def k1c2 : Code := { maxStack := 2, maxLocals := 4, code := method_3_code, exceptionTable := #[], attributes := #[] }
def k1m2 : Method := { name := "addChoice", desc := "(Lcom/example/otaniemi/otaniemi/Pending;ILcom/example/otaniemi/otaniemi/State;Lcom/example/otaniemi/otaniemi/State;)V", sig := { parameters := [(.object "com/example/otaniemi/otaniemi/Pending"), .int, (.object "com/example/otaniemi/otaniemi/State"), (.object "com/example/otaniemi/otaniemi/State")], returnType := none }, accessFlags := 10, code := some k1c2 }
/-- com/example/otaniemi/otaniemi/PendingGetSoleEndPinLaw -/
def k1 : Class := { plain "com/example/otaniemi/otaniemi/PendingGetSoleEndPinLaw" (some 0) with
  accessFlags := 49
  interfaces := #[]
  cf := some (fileOf pool1 23 #[] #[{ accessFlags := 2, nameIndex := 5, descriptorIndex := 6, attributes := #[] }, { accessFlags := 9, nameIndex := 42, descriptorIndex := 43, attributes := #[] }, { accessFlags := 10, nameIndex := 26, descriptorIndex := 27, attributes := #[] }] 49 2 #[] #[])
  fields := #[]
  methods := #[k1m0, k1m1, k1m2]
  instanceTypes := #[]
  staticTypes := #[]
  resolved := Array.replicate 51 none
  statics := none }

def pool2 : Array CpInfo := pool [(1, .methodref 2 3), (0, .class_ 4), (0, .nameAndType 5 6), (0, u "java/lang/Object"), (0, u "<init>"), (0, u "()V"), (0, .fieldref 8 9), (0, .class_ 10), (0, .nameAndType 11 12), (0, u "com/example/otaniemi/otaniemi/State$PredicateParts"), (0, u "NONE"), (0, u "Lcom/example/otaniemi/otaniemi/State$PredicateParts;"), (0, .fieldref 14 15), (0, .class_ 16), (0, .nameAndType 17 12), (0, u "com/example/otaniemi/otaniemi/State"), (0, u "predicateParts"), (0, .fieldref 14 19), (0, .nameAndType 20 21), (0, u "NO_IDS"), (0, u "[I"), (0, .fieldref 14 23), (0, .nameAndType 24 21), (0, u "ids"), (0, .fieldref 14 26), (0, .nameAndType 27 28), (0, u "number"), (0, u "I"), (0, .fieldref 14 30), (0, .nameAndType 31 32), (0, u "parent"), (0, u "Lcom/example/otaniemi/otaniemi/State;"), (0, .fieldref 14 34), (0, .nameAndType 35 36), (0, u "edge"), (0, u "Lcom/example/otaniemi/otaniemi/State$Edge;"), (0, .fieldref 14 38), (0, .nameAndType 39 40), (0, u "key"), (0, u "Ljava/lang/String;"), (0, .fieldref 42 43), (0, .class_ 44), (0, .nameAndType 45 36), (0, u "com/example/otaniemi/otaniemi/State$Edge"), (0, u "DESCENDANTS"), (0, .fieldref 14 47), (0, .nameAndType 48 49), (0, u "loops"), (0, u "Z"), (0, .fieldref 42 51), (0, .nameAndType 52 36), (0, u "GUARD"), (0, .fieldref 14 54), (0, .nameAndType 55 49), (0, u "conditional"), (2, u "children"), (0, u "Lcom/example/otaniemi/otaniemi/KeyTable;"), (17, u "anyChild"), (20, .methodref 14 99), (0, .nameAndType 100 101), (0, u "ownParts"), (0, u "()Lcom/example/otaniemi/otaniemi/State$PredicateParts;"), (14, u "descendants"), (13, u "()Z"), (0, .methodref 8 3), (35, .fieldref 14 168), (0, .nameAndType 169 28), (0, u "predicateDepth"), (0, .methodref 14 171), (0, .nameAndType 172 130), (0, u "hasIds"), (1, .class_ 176), (1, u "java/lang/Math"), (1, u "(II)I"), (0, .fieldref 14 180), (0, .nameAndType 181 28), (0, u "idCount"), (6, .methodref 174 189), (0, .nameAndType 190 178), (0, u "max"), (0, .methodref 192 193), (0, .class_ 194), (0, .nameAndType 195 196), (0, u "java/util/Arrays"), (0, u "copyOf"), (0, u "([II)[I"), (4, .fieldref 8 202), (0, .nameAndType 203 49), (0, u "counted"), (0, .fieldref 8 205), (0, .nameAndType 206 32), (0, u "nearestLoop"), (5, u "references"), (0, u "(ILcom/example/otaniemi/otaniemi/State;Lcom/example/otaniemi/otaniemi/State$Edge;Ljava/lang/String;)V"), (31, u "isEndAbove"), (0, u "(I)Z"), (7, u "addId"), (2, u "countNodes"), (0, u "isCounted")] 10

def k2c0 : Code := { maxStack := 3, maxLocals := 5, code := prog_76_method_1_code, exceptionTable := #[], attributes := #[] }
def k2m0 : Method := { name := "<init>", desc := "(ILcom/example/otaniemi/otaniemi/State;Lcom/example/otaniemi/otaniemi/State$Edge;Ljava/lang/String;)V", sig := { parameters := [.int, (.object "com/example/otaniemi/otaniemi/State"), (.object "com/example/otaniemi/otaniemi/State$Edge"), (.object "java/lang/String")], returnType := none }, accessFlags := 0, code := some k2c0 }
def k2c1 : Code := { maxStack := 3, maxLocals := 1, code := prog_76_method_16_code, exceptionTable := #[], attributes := #[] }
def k2m1 : Method := { name := "ownParts", desc := "()Lcom/example/otaniemi/otaniemi/State$PredicateParts;", sig := { parameters := [], returnType := some (.object "com/example/otaniemi/otaniemi/State$PredicateParts") }, accessFlags := 2, code := some k2c1 }
def k2c2 : Code := { maxStack := 2, maxLocals := 2, code := prog_76_method_25_code, exceptionTable := #[], attributes := #[] }
def k2m2 : Method := { name := "isEndAbove", desc := "(I)Z", sig := { parameters := [.int], returnType := some .boolean }, accessFlags := 0, code := some k2c2 }
def k2c3 : Code := { maxStack := 1, maxLocals := 1, code := prog_76_method_26_code, exceptionTable := #[], attributes := #[] }
def k2m3 : Method := { name := "hasIds", desc := "()Z", sig := { parameters := [], returnType := some .boolean }, accessFlags := 0, code := some k2c3 }
def k2c4 : Code := { maxStack := 5, maxLocals := 2, code := prog_76_method_31_code, exceptionTable := #[], attributes := #[] }
def k2m4 : Method := { name := "addId", desc := "(I)Z", sig := { parameters := [.int], returnType := some .boolean }, accessFlags := 0, code := some k2c4 }
def k2c5 : Code := { maxStack := 2, maxLocals := 3, code := prog_76_method_34_code, exceptionTable := #[], attributes := #[] }
def k2m5 : Method := { name := "countNodes", desc := "()V", sig := { parameters := [], returnType := none }, accessFlags := 0, code := some k2c5 }
def k2c6 : Code := { maxStack := 1, maxLocals := 1, code := prog_76_method_35_code, exceptionTable := #[], attributes := #[] }
def k2m6 : Method := { name := "isCounted", desc := "()Z", sig := { parameters := [], returnType := some .boolean }, accessFlags := 0, code := some k2c6 }
/-- com/example/otaniemi/otaniemi/State -/
def k2 : Class := { plain "com/example/otaniemi/otaniemi/State" (some 0) with
  accessFlags := 32
  interfaces := #[]
  cf := some (fileOf pool2 14 #[.nestMembers #[8, 42]] #[{ accessFlags := 0, nameIndex := 5, descriptorIndex := 213, attributes := #[] }, { accessFlags := 2, nameIndex := 100, descriptorIndex := 101, attributes := #[] }, { accessFlags := 0, nameIndex := 245, descriptorIndex := 246, attributes := #[] }, { accessFlags := 0, nameIndex := 172, descriptorIndex := 130, attributes := #[] }, { accessFlags := 0, nameIndex := 254, descriptorIndex := 246, attributes := #[] }, { accessFlags := 0, nameIndex := 257, descriptorIndex := 6, attributes := #[] }, { accessFlags := 0, nameIndex := 258, descriptorIndex := 130, attributes := #[] }] 32 2 #[] #[{ accessFlags := 26, nameIndex := 20, descriptorIndex := 21, attributes := #[] }, { accessFlags := 0, nameIndex := 27, descriptorIndex := 28, attributes := #[] }, { accessFlags := 16, nameIndex := 31, descriptorIndex := 32, attributes := #[] }, { accessFlags := 16, nameIndex := 35, descriptorIndex := 36, attributes := #[] }, { accessFlags := 16, nameIndex := 39, descriptorIndex := 40, attributes := #[] }, { accessFlags := 16, nameIndex := 48, descriptorIndex := 49, attributes := #[] }, { accessFlags := 16, nameIndex := 55, descriptorIndex := 49, attributes := #[] }, { accessFlags := 0, nameIndex := 212, descriptorIndex := 28, attributes := #[] }, { accessFlags := 2, nameIndex := 58, descriptorIndex := 59, attributes := #[] }, { accessFlags := 0, nameIndex := 77, descriptorIndex := 32, attributes := #[] }, { accessFlags := 0, nameIndex := 116, descriptorIndex := 32, attributes := #[] }, { accessFlags := 2, nameIndex := 169, descriptorIndex := 28, attributes := #[] }, { accessFlags := 2, nameIndex := 17, descriptorIndex := 12, attributes := #[] }, { accessFlags := 2, nameIndex := 24, descriptorIndex := 21, attributes := #[] }, { accessFlags := 2, nameIndex := 181, descriptorIndex := 28, attributes := #[] }])
  fields := #[{ name := "NO_IDS", type := (.array .int), accessFlags := 26, slot := 0, constantValue := 0 }, { name := "number", type := .int, accessFlags := 0, slot := 0, constantValue := 0 }, { name := "parent", type := (.object "com/example/otaniemi/otaniemi/State"), accessFlags := 16, slot := 1, constantValue := 0 }, { name := "edge", type := (.object "com/example/otaniemi/otaniemi/State$Edge"), accessFlags := 16, slot := 2, constantValue := 0 }, { name := "key", type := (.object "java/lang/String"), accessFlags := 16, slot := 3, constantValue := 0 }, { name := "loops", type := .boolean, accessFlags := 16, slot := 4, constantValue := 0 }, { name := "conditional", type := .boolean, accessFlags := 16, slot := 5, constantValue := 0 }, { name := "references", type := .int, accessFlags := 0, slot := 6, constantValue := 0 }, { name := "children", type := (.object "com/example/otaniemi/otaniemi/KeyTable"), accessFlags := 2, slot := 7, constantValue := 0 }, { name := "anyChild", type := (.object "com/example/otaniemi/otaniemi/State"), accessFlags := 0, slot := 8, constantValue := 0 }, { name := "descendants", type := (.object "com/example/otaniemi/otaniemi/State"), accessFlags := 0, slot := 9, constantValue := 0 }, { name := "predicateDepth", type := .int, accessFlags := 2, slot := 10, constantValue := 0 }, { name := "predicateParts", type := (.object "com/example/otaniemi/otaniemi/State$PredicateParts"), accessFlags := 2, slot := 11, constantValue := 0 }, { name := "ids", type := (.array .int), accessFlags := 2, slot := 12, constantValue := 0 }, { name := "idCount", type := .int, accessFlags := 2, slot := 13, constantValue := 0 }]
  methods := #[k2m0, k2m1, k2m2, k2m3, k2m4, k2m5, k2m6]
  instanceTypes := #[.int, (.object "com/example/otaniemi/otaniemi/State"), (.object "com/example/otaniemi/otaniemi/State$Edge"), (.object "java/lang/String"), .boolean, .boolean, .int, (.object "com/example/otaniemi/otaniemi/KeyTable"), (.object "com/example/otaniemi/otaniemi/State"), (.object "com/example/otaniemi/otaniemi/State"), .int, (.object "com/example/otaniemi/otaniemi/State$PredicateParts"), (.array .int), .int]
  staticTypes := #[(.array .int)]
  resolved := ((((((Array.replicate 269 none).set! 7 (some (.field 3 0))).set! 8 (some (.cls 3))).set! 131 (some (.method ⟨3, 0⟩))).set! 201 (some (.field 3 10))).set! 204 (some (.field 3 11)))
  statics := some 0 }

def pool3 : Array CpInfo := pool [(1, .methodref 2 3), (0, .class_ 4), (0, .nameAndType 5 6), (0, u "java/lang/Object"), (0, u "<init>"), (0, u "()V"), (1, .class_ 10), (1, u "com/example/otaniemi/otaniemi/State$PredicateParts"), (0, u "attributes"), (0, u "Lcom/example/otaniemi/otaniemi/KeyTable;"), (2, u "anyAttribute"), (0, u "Lcom/example/otaniemi/otaniemi/State;"), (2, u "text"), (2, u "guards"), (0, u "Ljava/util/List;"), (2, u "condition"), (0, u "Lcom/example/otaniemi/otaniemi/Condition;"), (2, u "test"), (0, u "Lcom/example/otaniemi/otaniemi/ValueCheck;"), (2, u "counted"), (0, u "Z"), (3, u "NONE"), (0, u "Lcom/example/otaniemi/otaniemi/State$PredicateParts;"), (2, u "guardsByCondition"), (0, u "guardIndex"), (0, u "I"), (0, u "guardDepth"), (0, u "nearestLoop"), (9, .class_ 58), (0, u "com/example/otaniemi/otaniemi/State")] 2

def k3c0 : Code := { maxStack := 1, maxLocals := 1, code := prog_78_method_1_code, exceptionTable := #[], attributes := #[] }
def k3m0 : Method := { name := "<init>", desc := "()V", sig := { parameters := [], returnType := none }, accessFlags := 2, code := some k3c0 }
/-- com/example/otaniemi/otaniemi/State$PredicateParts -/
def k3 : Class := { plain "com/example/otaniemi/otaniemi/State$PredicateParts" (some 0) with
  accessFlags := 32
  interfaces := #[]
  cf := some (fileOf pool3 8 #[.nestHost 57] #[{ accessFlags := 2, nameIndex := 5, descriptorIndex := 6, attributes := #[] }] 32 2 #[] #[{ accessFlags := 26, nameIndex := 39, descriptorIndex := 40, attributes := #[] }, { accessFlags := 2, nameIndex := 11, descriptorIndex := 12, attributes := #[] }, { accessFlags := 2, nameIndex := 15, descriptorIndex := 16, attributes := #[] }, { accessFlags := 2, nameIndex := 19, descriptorIndex := 16, attributes := #[] }, { accessFlags := 2, nameIndex := 22, descriptorIndex := 23, attributes := #[] }, { accessFlags := 2, nameIndex := 43, descriptorIndex := 12, attributes := #[] }, { accessFlags := 2, nameIndex := 44, descriptorIndex := 45, attributes := #[] }, { accessFlags := 2, nameIndex := 46, descriptorIndex := 45, attributes := #[] }, { accessFlags := 2, nameIndex := 26, descriptorIndex := 27, attributes := #[] }, { accessFlags := 2, nameIndex := 30, descriptorIndex := 31, attributes := #[] }, { accessFlags := 2, nameIndex := 34, descriptorIndex := 35, attributes := #[] }, { accessFlags := 2, nameIndex := 47, descriptorIndex := 16, attributes := #[] }])
  fields := #[{ name := "NONE", type := (.object "com/example/otaniemi/otaniemi/State$PredicateParts"), accessFlags := 26, slot := 0, constantValue := 0 }, { name := "attributes", type := (.object "com/example/otaniemi/otaniemi/KeyTable"), accessFlags := 2, slot := 0, constantValue := 0 }, { name := "anyAttribute", type := (.object "com/example/otaniemi/otaniemi/State"), accessFlags := 2, slot := 1, constantValue := 0 }, { name := "text", type := (.object "com/example/otaniemi/otaniemi/State"), accessFlags := 2, slot := 2, constantValue := 0 }, { name := "guards", type := (.object "java/util/List"), accessFlags := 2, slot := 3, constantValue := 0 }, { name := "guardsByCondition", type := (.object "com/example/otaniemi/otaniemi/KeyTable"), accessFlags := 2, slot := 4, constantValue := 0 }, { name := "guardIndex", type := .int, accessFlags := 2, slot := 5, constantValue := 0 }, { name := "guardDepth", type := .int, accessFlags := 2, slot := 6, constantValue := 0 }, { name := "condition", type := (.object "com/example/otaniemi/otaniemi/Condition"), accessFlags := 2, slot := 7, constantValue := 0 }, { name := "test", type := (.object "com/example/otaniemi/otaniemi/ValueCheck"), accessFlags := 2, slot := 8, constantValue := 0 }, { name := "counted", type := .boolean, accessFlags := 2, slot := 9, constantValue := 0 }, { name := "nearestLoop", type := (.object "com/example/otaniemi/otaniemi/State"), accessFlags := 2, slot := 10, constantValue := 0 }]
  methods := #[k3m0]
  instanceTypes := #[(.object "com/example/otaniemi/otaniemi/KeyTable"), (.object "com/example/otaniemi/otaniemi/State"), (.object "com/example/otaniemi/otaniemi/State"), (.object "java/util/List"), (.object "com/example/otaniemi/otaniemi/KeyTable"), .int, .int, (.object "com/example/otaniemi/otaniemi/Condition"), (.object "com/example/otaniemi/otaniemi/ValueCheck"), .boolean, (.object "com/example/otaniemi/otaniemi/State")]
  staticTypes := #[(.object "com/example/otaniemi/otaniemi/State$PredicateParts")]
  resolved := Array.replicate 61 none
  statics := some 1 }

def pool4 : Array CpInfo := pool [(1, .class_ 2), (0, u "java/lang/constant/Constable"), (0, .class_ 4), (0, u "java/lang/Object")] 6

/-- java/lang/constant/Constable -/
def k4 : Class := { plain "java/lang/constant/Constable" (some 0) with
  accessFlags := 1537
  interfaces := #[]
  cf := some (fileOf pool4 1 #[] #[] 1537 3 #[] #[])
  fields := #[]
  methods := #[]
  instanceTypes := #[]
  staticTypes := #[]
  resolved := Array.replicate 11 none
  statics := none }

def pool5 : Array CpInfo := pool [(1, .class_ 2), (0, u "java/lang/Comparable"), (0, .class_ 4), (0, u "java/lang/Object")] 7

/-- java/lang/Comparable -/
def k5 : Class := { plain "java/lang/Comparable" (some 0) with
  accessFlags := 1537
  interfaces := #[]
  cf := some (fileOf pool5 1 #[] #[] 1537 3 #[] #[])
  fields := #[]
  methods := #[]
  instanceTypes := #[]
  staticTypes := #[]
  resolved := Array.replicate 12 none
  statics := none }

def pool6 : Array CpInfo := pool [(1, .class_ 2), (0, u "java/io/Serializable"), (0, .class_ 4), (0, u "java/lang/Object")] 2

/-- java/io/Serializable -/
def k6 : Class := { plain "java/io/Serializable" (some 0) with
  accessFlags := 1537
  interfaces := #[]
  cf := some (fileOf pool6 1 #[] #[] 1537 3 #[] #[])
  fields := #[]
  methods := #[]
  instanceTypes := #[]
  staticTypes := #[]
  resolved := Array.replicate 7 none
  statics := none }

def pool7 : Array CpInfo := pool [(2, .class_ 4), (1, u "java/lang/Enum"), (0, u "name"), (0, u "Ljava/lang/String;"), (2, u "ordinal"), (0, u "I"), (1, .class_ 14), (1, u "java/lang/Object"), (4, u "hash"), (86, .class_ 108), (1, u "java/lang/Enum$EnumDesc"), (2, .class_ 112), (0, u "java/lang/constant/Constable"), (0, .class_ 114), (0, u "java/lang/Comparable"), (0, .class_ 116), (0, u "java/io/Serializable")] 87

/-- java/lang/Enum -/
def k7 : Class := { plain "java/lang/Enum" (some 0) with
  accessFlags := 1057
  interfaces := #[4, 5, 6]
  cf := some (fileOf pool7 2 #[.nestMembers #[106]] #[] 1057 12 #[111, 113, 115] #[{ accessFlags := 18, nameIndex := 5, descriptorIndex := 6, attributes := #[] }, { accessFlags := 18, nameIndex := 9, descriptorIndex := 10, attributes := #[] }, { accessFlags := 2, nameIndex := 19, descriptorIndex := 10, attributes := #[] }])
  fields := #[{ name := "name", type := (.object "java/lang/String"), accessFlags := 18, slot := 0, constantValue := 0 }, { name := "ordinal", type := .int, accessFlags := 18, slot := 1, constantValue := 0 }, { name := "hash", type := .int, accessFlags := 2, slot := 2, constantValue := 0 }]
  methods := #[]
  instanceTypes := #[(.object "java/lang/String"), .int, .int]
  staticTypes := #[]
  resolved := Array.replicate 204 none
  statics := none }

def pool8 : Array CpInfo := pool [(1, .class_ 2), (0, u "com/example/otaniemi/otaniemi/State$Edge"), (2, u "CHILD"), (0, u "Lcom/example/otaniemi/otaniemi/State$Edge;"), (2, u "ANY_CHILD"), (2, u "DESCENDANTS"), (2, u "ATTRIBUTE"), (2, u "ANY_ATTRIBUTE"), (2, u "TEXT"), (2, u "GUARD"), (2, u "$VALUES"), (0, u "[Lcom/example/otaniemi/otaniemi/State$Edge;"), (6, .class_ 37), (1, u "java/lang/Enum"), (30, .class_ 69), (0, u "com/example/otaniemi/otaniemi/State")] 2

/-- com/example/otaniemi/otaniemi/State$Edge -/
def k8 : Class := { plain "com/example/otaniemi/otaniemi/State$Edge" (some 7) with
  accessFlags := 16432
  interfaces := #[]
  cf := some (fileOf pool8 1 #[.nestHost 68] #[] 16432 35 #[] #[{ accessFlags := 16409, nameIndex := 5, descriptorIndex := 6, attributes := #[] }, { accessFlags := 16409, nameIndex := 9, descriptorIndex := 6, attributes := #[] }, { accessFlags := 16409, nameIndex := 12, descriptorIndex := 6, attributes := #[] }, { accessFlags := 16409, nameIndex := 15, descriptorIndex := 6, attributes := #[] }, { accessFlags := 16409, nameIndex := 18, descriptorIndex := 6, attributes := #[] }, { accessFlags := 16409, nameIndex := 21, descriptorIndex := 6, attributes := #[] }, { accessFlags := 16409, nameIndex := 24, descriptorIndex := 6, attributes := #[] }, { accessFlags := 4122, nameIndex := 27, descriptorIndex := 28, attributes := #[] }])
  fields := #[{ name := "CHILD", type := (.object "com/example/otaniemi/otaniemi/State$Edge"), accessFlags := 16409, slot := 0, constantValue := 0 }, { name := "ANY_CHILD", type := (.object "com/example/otaniemi/otaniemi/State$Edge"), accessFlags := 16409, slot := 1, constantValue := 0 }, { name := "DESCENDANTS", type := (.object "com/example/otaniemi/otaniemi/State$Edge"), accessFlags := 16409, slot := 2, constantValue := 0 }, { name := "ATTRIBUTE", type := (.object "com/example/otaniemi/otaniemi/State$Edge"), accessFlags := 16409, slot := 3, constantValue := 0 }, { name := "ANY_ATTRIBUTE", type := (.object "com/example/otaniemi/otaniemi/State$Edge"), accessFlags := 16409, slot := 4, constantValue := 0 }, { name := "TEXT", type := (.object "com/example/otaniemi/otaniemi/State$Edge"), accessFlags := 16409, slot := 5, constantValue := 0 }, { name := "GUARD", type := (.object "com/example/otaniemi/otaniemi/State$Edge"), accessFlags := 16409, slot := 6, constantValue := 0 }, { name := "$VALUES", type := (.array (.object "com/example/otaniemi/otaniemi/State$Edge")), accessFlags := 4122, slot := 7, constantValue := 0 }]
  methods := #[]
  instanceTypes := #[(.object "java/lang/String"), .int, .int]
  staticTypes := #[(.object "com/example/otaniemi/otaniemi/State$Edge"), (.object "com/example/otaniemi/otaniemi/State$Edge"), (.object "com/example/otaniemi/otaniemi/State$Edge"), (.object "com/example/otaniemi/otaniemi/State$Edge"), (.object "com/example/otaniemi/otaniemi/State$Edge"), (.object "com/example/otaniemi/otaniemi/State$Edge"), (.object "com/example/otaniemi/otaniemi/State$Edge"), (.array (.object "com/example/otaniemi/otaniemi/State$Edge"))]
  resolved := Array.replicate 72 none
  statics := some 2 }

def pool9 : Array CpInfo := pool [(1, .methodref 2 3), (0, .class_ 4), (0, .nameAndType 5 6), (0, u "java/lang/Object"), (0, u "<init>"), (0, u "()V"), (0, .class_ 8), (0, u "com/example/otaniemi/otaniemi/State"), (0, .fieldref 10 11), (0, .class_ 12), (0, .nameAndType 13 14), (0, u "com/example/otaniemi/otaniemi/Pending"), (0, u "found"), (0, u "[Lcom/example/otaniemi/otaniemi/State;"), (0, .fieldref 10 16), (0, .nameAndType 17 18), (0, u "foundCount"), (0, u "I"), (0, .fieldref 10 20), (0, .nameAndType 21 22), (0, u "values"), (0, u "[J"), (3, u "()Z"), (0, .methodref 10 28), (0, .nameAndType 29 30), (0, u "add"), (0, u "(Lcom/example/otaniemi/otaniemi/State;J)V"), (2, u "(Lcom/example/otaniemi/otaniemi/State;)V"), (23, u "number"), (20, .methodref 10 79), (0, .nameAndType 80 81), (0, u "indexOf"), (0, u "(Lcom/example/otaniemi/otaniemi/State;)I"), (12, u "(I)Z"), (0, .methodref 7 96), (0, .nameAndType 97 26), (0, u "isCounted"), (0, .methodref 10 99), (0, .nameAndType 100 6), (0, u "keepValues"), (0, .methodref 10 102), (0, .nameAndType 103 104), (0, u "merged"), (0, u "(Lcom/example/otaniemi/otaniemi/State;JJ)J"), (3, u "(I)V"), (0, .fieldref 7 110), (0, .nameAndType 57 18), (0, .methodref 10 112), (0, .nameAndType 113 114), (0, u "move"), (0, u "(II)V"), (0, .methodref 10 116), (0, .nameAndType 117 118), (0, u "put"), (0, u "(ILcom/example/otaniemi/otaniemi/State;JJ)V"), (6, .fieldref 10 126), (0, .nameAndType 127 128), (0, u "passed"), (0, u "Lcom/example/otaniemi/otaniemi/Pending$Passed;"), (1, .class_ 132), (1, u "com/example/otaniemi/otaniemi/Pending$Passed"), (1, u "J"), (32, .methodref 7 168), (0, .nameAndType 169 94), (0, u "isEndAbove"), (14, u "NONE"), (0, u "Lcom/example/otaniemi/otaniemi/Pending;"), (0, u "NO_NODE"), (8, u "getSoleEnd"), (0, u "()Lcom/example/otaniemi/otaniemi/State;"), (7, u "keepEndsAbove")] 9

def k9c0 : Code := { maxStack := 2, maxLocals := 1, code := prog_64_method_1_code, exceptionTable := #[], attributes := #[] }
def k9m0 : Method := { name := "<init>", desc := "()V", sig := { parameters := [], returnType := none }, accessFlags := 0, code := some k9c0 }
def k9c1 : Code := { maxStack := 4, maxLocals := 2, code := prog_64_method_4_code, exceptionTable := #[], attributes := #[] }
def k9m1 : Method := { name := "getSoleEnd", desc := "()Lcom/example/otaniemi/otaniemi/State;", sig := { parameters := [], returnType := some (.object "com/example/otaniemi/otaniemi/State") }, accessFlags := 0, code := some k9c1 }
def k9c2 : Code := { maxStack := 2, maxLocals := 4, code := prog_64_method_9_code, exceptionTable := #[], attributes := #[] }
def k9m2 : Method := { name := "indexOf", desc := "(Lcom/example/otaniemi/otaniemi/State;)I", sig := { parameters := [(.object "com/example/otaniemi/otaniemi/State")], returnType := some .int }, accessFlags := 2, code := some k9c2 }
def k9c3 : Code := { maxStack := 4, maxLocals := 2, code := prog_64_method_10_code, exceptionTable := #[], attributes := #[] }
def k9m3 : Method := { name := "add", desc := "(Lcom/example/otaniemi/otaniemi/State;)V", sig := { parameters := [(.object "com/example/otaniemi/otaniemi/State")], returnType := none }, accessFlags := 0, code := some k9c3 }
def k9c4 : Code := { maxStack := 7, maxLocals := 5, code := prog_64_method_11_code, exceptionTable := #[], attributes := #[] }
def k9m4 : Method := { name := "add", desc := "(Lcom/example/otaniemi/otaniemi/State;J)V", sig := { parameters := [(.object "com/example/otaniemi/otaniemi/State"), .long], returnType := none }, accessFlags := 2, code := some k9c4 }
def k9c5 : Code := { maxStack := 4, maxLocals := 5, code := prog_64_method_14_code, exceptionTable := #[], attributes := #[] }
def k9m5 : Method := { name := "merged", desc := "(Lcom/example/otaniemi/otaniemi/State;JJ)J", sig := { parameters := [(.object "com/example/otaniemi/otaniemi/State"), .long, .long], returnType := some .long }, accessFlags := 10, code := some k9c5 }
def k9c6 : Code := { maxStack := 7, maxLocals := 3, code := prog_64_method_15_code, exceptionTable := #[], attributes := #[] }
def k9m6 : Method := { name := "move", desc := "(II)V", sig := { parameters := [.int, .int], returnType := none }, accessFlags := 2, code := some k9c6 }
def k9c7 : Code := { maxStack := 4, maxLocals := 7, code := prog_64_method_16_code, exceptionTable := #[], attributes := #[] }
def k9m7 : Method := { name := "put", desc := "(ILcom/example/otaniemi/otaniemi/State;JJ)V", sig := { parameters := [.int, (.object "com/example/otaniemi/otaniemi/State"), .long, .long], returnType := none }, accessFlags := 2, code := some k9c7 }
def k9c8 : Code := { maxStack := 3, maxLocals := 4, code := prog_64_method_17_code, exceptionTable := #[], attributes := #[] }
def k9m8 : Method := { name := "keepEndsAbove", desc := "(I)V", sig := { parameters := [.int], returnType := none }, accessFlags := 0, code := some k9c8 }
def k9c9 : Code := { maxStack := 2, maxLocals := 1, code := prog_64_method_18_code, exceptionTable := #[], attributes := #[] }
def k9m9 : Method := { name := "keepValues", desc := "()V", sig := { parameters := [], returnType := none }, accessFlags := 2, code := some k9c9 }
/-- com/example/otaniemi/otaniemi/Pending -/
def k9 : Class := { plain "com/example/otaniemi/otaniemi/Pending" (some 0) with
  accessFlags := 32
  interfaces := #[]
  cf := some (fileOf pool9 10 #[.nestMembers #[130]] #[{ accessFlags := 0, nameIndex := 5, descriptorIndex := 6, attributes := #[] }, { accessFlags := 0, nameIndex := 195, descriptorIndex := 196, attributes := #[] }, { accessFlags := 2, nameIndex := 80, descriptorIndex := 81, attributes := #[] }, { accessFlags := 0, nameIndex := 29, descriptorIndex := 33, attributes := #[] }, { accessFlags := 2, nameIndex := 29, descriptorIndex := 30, attributes := #[] }, { accessFlags := 10, nameIndex := 103, descriptorIndex := 104, attributes := #[] }, { accessFlags := 2, nameIndex := 113, descriptorIndex := 114, attributes := #[] }, { accessFlags := 2, nameIndex := 117, descriptorIndex := 118, attributes := #[] }, { accessFlags := 0, nameIndex := 204, descriptorIndex := 108, attributes := #[] }, { accessFlags := 2, nameIndex := 100, descriptorIndex := 6, attributes := #[] }] 32 2 #[] #[{ accessFlags := 24, nameIndex := 186, descriptorIndex := 134, attributes := #[] }, { accessFlags := 24, nameIndex := 184, descriptorIndex := 185, attributes := #[] }, { accessFlags := 2, nameIndex := 13, descriptorIndex := 14, attributes := #[] }, { accessFlags := 2, nameIndex := 21, descriptorIndex := 22, attributes := #[] }, { accessFlags := 2, nameIndex := 17, descriptorIndex := 18, attributes := #[] }, { accessFlags := 2, nameIndex := 127, descriptorIndex := 128, attributes := #[] }])
  fields := #[{ name := "NO_NODE", type := .long, accessFlags := 24, slot := 0, constantValue := 0 }, { name := "NONE", type := (.object "com/example/otaniemi/otaniemi/Pending"), accessFlags := 24, slot := 1, constantValue := 0 }, { name := "found", type := (.array (.object "com/example/otaniemi/otaniemi/State")), accessFlags := 2, slot := 0, constantValue := 0 }, { name := "values", type := (.array .long), accessFlags := 2, slot := 1, constantValue := 0 }, { name := "foundCount", type := .int, accessFlags := 2, slot := 2, constantValue := 0 }, { name := "passed", type := (.object "com/example/otaniemi/otaniemi/Pending$Passed"), accessFlags := 2, slot := 3, constantValue := 0 }]
  methods := #[k9m0, k9m1, k9m2, k9m3, k9m4, k9m5, k9m6, k9m7, k9m8, k9m9]
  instanceTypes := #[(.array (.object "com/example/otaniemi/otaniemi/State")), (.array .long), .int, (.object "com/example/otaniemi/otaniemi/Pending$Passed")]
  staticTypes := #[.long, (.object "com/example/otaniemi/otaniemi/Pending")]
  resolved := Array.replicate 214 none
  statics := none }

def pool10 : Array CpInfo := pool [(1, .class_ 2), (0, u "java/lang/Math"), (1, .class_ 6), (1, u "java/lang/Object"), (0, u "<init>"), (0, u "()V"), (89, .class_ 100), (1, u "java/lang/Math$RandomNumberGeneratorHolder"), (71, u "negativeZeroFloatBits"), (0, u "J"), (2, u "negativeZeroDoubleBits"), (21, u "max"), (2, u "min"), (43, u "$assertionsDisabled"), (0, u "Z"), (88, u "(II)I"), (2, u "twoToTheDoubleScaleDown"), (0, u "D"), (4, u "twoToTheDoubleScaleUp"), (9, u "E"), (3, u "PI"), (2, u "TAU"), (2, u "DEGREES_TO_RADIANS"), (0, u "RADIANS_TO_DEGREES")] 94

def k10m0 : Method := { name := "<init>", desc := "()V", sig := { parameters := [], returnType := none }, accessFlags := 2, code := none }
def k10c1 : Code := { maxStack := 2, maxLocals := 2, code := jdk_29_method_65_code, exceptionTable := #[], attributes := #[] }
def k10m1 : Method := { name := "max", desc := "(II)I", sig := { parameters := [.int, .int], returnType := some .int }, accessFlags := 9, code := some k10c1 }
def k10c2 : Code := { maxStack := 2, maxLocals := 2, code := jdk_29_method_69_code, exceptionTable := #[], attributes := #[] }
def k10m2 : Method := { name := "min", desc := "(II)I", sig := { parameters := [.int, .int], returnType := some .int }, accessFlags := 9, code := some k10c2 }
/-- java/lang/Math -/
def k10 : Class := { plain "java/lang/Math" (some 0) with
  accessFlags := 49
  interfaces := #[]
  cf := some (fileOf pool10 1 #[.nestMembers #[98]] #[{ accessFlags := 2, nameIndex := 7, descriptorIndex := 8, attributes := #[] }, { accessFlags := 9, nameIndex := 198, descriptorIndex := 335, attributes := #[] }, { accessFlags := 9, nameIndex := 201, descriptorIndex := 335, attributes := #[] }] 49 4 #[] #[{ accessFlags := 25, nameIndex := 354, descriptorIndex := 339, attributes := #[] }, { accessFlags := 25, nameIndex := 358, descriptorIndex := 339, attributes := #[] }, { accessFlags := 25, nameIndex := 361, descriptorIndex := 339, attributes := #[] }, { accessFlags := 26, nameIndex := 364, descriptorIndex := 339, attributes := #[] }, { accessFlags := 26, nameIndex := 365, descriptorIndex := 339, attributes := #[] }, { accessFlags := 26, nameIndex := 172, descriptorIndex := 173, attributes := #[] }, { accessFlags := 26, nameIndex := 176, descriptorIndex := 173, attributes := #[] }, { accessFlags := 8, nameIndex := 344, descriptorIndex := 339, attributes := #[] }, { accessFlags := 8, nameIndex := 338, descriptorIndex := 339, attributes := #[] }, { accessFlags := 4120, nameIndex := 245, descriptorIndex := 246, attributes := #[] }])
  fields := #[{ name := "E", type := .double, accessFlags := 25, slot := 0, constantValue := 0 }, { name := "PI", type := .double, accessFlags := 25, slot := 1, constantValue := 0 }, { name := "TAU", type := .double, accessFlags := 25, slot := 2, constantValue := 0 }, { name := "DEGREES_TO_RADIANS", type := .double, accessFlags := 26, slot := 3, constantValue := 0 }, { name := "RADIANS_TO_DEGREES", type := .double, accessFlags := 26, slot := 4, constantValue := 0 }, { name := "negativeZeroFloatBits", type := .long, accessFlags := 26, slot := 5, constantValue := 0 }, { name := "negativeZeroDoubleBits", type := .long, accessFlags := 26, slot := 6, constantValue := 0 }, { name := "twoToTheDoubleScaleUp", type := .double, accessFlags := 8, slot := 7, constantValue := 0 }, { name := "twoToTheDoubleScaleDown", type := .double, accessFlags := 8, slot := 8, constantValue := 0 }, { name := "$assertionsDisabled", type := .boolean, accessFlags := 4120, slot := 9, constantValue := 0 }]
  methods := #[k10m0, k10m1, k10m2]
  instanceTypes := #[]
  staticTypes := #[.double, .double, .double, .double, .double, .long, .long, .double, .double, .boolean]
  resolved := Array.replicate 460 none
  statics := none }

def pool11 : Array CpInfo := pool [(2, .class_ 4), (1, u "java/lang/Object"), (0, u "<init>"), (0, u "()V"), (7, .class_ 16), (1, u "java/util/Arrays"), (57, .class_ 76), (1, u "java/util/Arrays$NaturalOrder"), (36, .class_ 115), (1, u "java/util/Arrays$LegacyMergeSort"), (1, u "Z"), (32, .methodref 151 152), (0, .class_ 153), (0, .nameAndType 154 155), (0, u "java/lang/System"), (0, u "arraycopy"), (0, u "(Ljava/lang/Object;ILjava/lang/Object;II)V"), (146, u "copyOf"), (1, .methodref 305 306), (0, .class_ 307), (0, .nameAndType 308 309), (0, u "java/lang/Math"), (0, u "min"), (0, u "(II)I"), (65, .class_ 376), (0, u "java/util/Arrays$ArrayList"), (68, u "$assertionsDisabled"), (269, u "MIN_ARRAY_SORT_GRAN"), (0, u "I"), (2, u "INSERTIONSORT_THRESHOLD"), (151, u "([II)[I"), (103, .class_ 976), (0, u "java/util/Arrays$ArrayItr")] 52

def k11m0 : Method := { name := "<init>", desc := "()V", sig := { parameters := [], returnType := none }, accessFlags := 2, code := none }
def k11c1 : Code := { maxStack := 6, maxLocals := 3, code := jdk_65_method_123_code, exceptionTable := #[], attributes := #[] }
def k11m1 : Method := { name := "copyOf", desc := "([II)[I", sig := { parameters := [(.array .int), .int], returnType := some (.array .int) }, accessFlags := 9, code := some k11c1 }
/-- java/util/Arrays -/
def k11 : Class := { plain "java/util/Arrays" (some 0) with
  accessFlags := 49
  interfaces := #[]
  cf := some (fileOf pool11 14 #[.nestMembers #[975, 375, 113, 74]] #[{ accessFlags := 2, nameIndex := 5, descriptorIndex := 6, attributes := #[] }, { accessFlags := 9, nameIndex := 302, descriptorIndex := 871, attributes := #[] }] 49 2 #[] #[{ accessFlags := 26, nameIndex := 715, descriptorIndex := 716, attributes := #[] }, { accessFlags := 26, nameIndex := 719, descriptorIndex := 716, attributes := #[] }, { accessFlags := 4120, nameIndex := 445, descriptorIndex := 117, attributes := #[] }])
  fields := #[{ name := "MIN_ARRAY_SORT_GRAN", type := .int, accessFlags := 26, slot := 0, constantValue := 0 }, { name := "INSERTIONSORT_THRESHOLD", type := .int, accessFlags := 26, slot := 1, constantValue := 0 }, { name := "$assertionsDisabled", type := .boolean, accessFlags := 4120, slot := 2, constantValue := 0 }]
  methods := #[k11m0, k11m1]
  instanceTypes := #[]
  staticTypes := #[.int, .int, .boolean]
  resolved := Array.replicate 1029 none
  statics := none }

def pool12 : Array CpInfo := pool [(2, .class_ 4), (1, u "java/lang/Object"), (0, u "<init>"), (0, u "()V"), (1, .class_ 10), (1, u "java/lang/System"), (0, u "allowSecurityManager"), (0, u "I"), (16, u "cons"), (0, u "Ljava/io/Console;"), (77, .class_ 110), (1, u "java/lang/System$CallersHolder"), (43, u "initialErrStream"), (0, u "Ljava/io/PrintStream;"), (19, u "security"), (0, u "Ljava/lang/SecurityManager;"), (31, .class_ 209), (0, u "java/lang/System$1"), (7, u "props"), (0, u "Ljava/util/Properties;"), (2, u "lineSeparator"), (0, u "Ljava/lang/String;"), (96, .class_ 321), (1, u "java/lang/System$LoggerFinder"), (5, .class_ 328), (0, u "java/lang/System$Logger"), (67, u "err"), (2, u "out"), (91, u "notSupportedJnuEncoding"), (15, u "in"), (17, u "initialIn"), (0, u "Ljava/io/InputStream;"), (35, u "bootLayer"), (0, u "Ljava/lang/ModuleLayer;"), (99, .class_ 664), (0, u "java/lang/System$2"), (9, u "NEVER"), (2, u "MAYBE"), (49, u "arraycopy"), (0, u "(Ljava/lang/Object;ILjava/lang/Object;II)V"), (72, .class_ 802), (0, u "java/lang/System$Logger$Level")] 31

def k12m0 : Method := { name := "<init>", desc := "()V", sig := { parameters := [], returnType := none }, accessFlags := 2, code := none }
def k12m1 : Method := { name := "arraycopy", desc := "(Ljava/lang/Object;ILjava/lang/Object;II)V", sig := { parameters := [(.object "java/lang/Object"), .int, (.object "java/lang/Object"), .int, .int], returnType := none }, accessFlags := 265, code := none }
/-- java/lang/System -/
def k12 : Class := { plain "java/lang/System" (some 0) with
  accessFlags := 49
  interfaces := #[]
  cf := some (fileOf pool12 8 #[.nestMembers #[319, 327, 801, 108, 663, 208]] #[{ accessFlags := 2, nameIndex := 5, descriptorIndex := 6, attributes := #[] }, { accessFlags := 265, nameIndex := 727, descriptorIndex := 728, attributes := #[] }] 49 2 #[] #[{ accessFlags := 25, nameIndex := 507, descriptorIndex := 526, attributes := #[] }, { accessFlags := 25, nameIndex := 399, descriptorIndex := 155, attributes := #[] }, { accessFlags := 25, nameIndex := 396, descriptorIndex := 155, attributes := #[] }, { accessFlags := 10, nameIndex := 525, descriptorIndex := 526, attributes := #[] }, { accessFlags := 26, nameIndex := 674, descriptorIndex := 12, attributes := #[] }, { accessFlags := 26, nameIndex := 677, descriptorIndex := 12, attributes := #[] }, { accessFlags := 10, nameIndex := 11, descriptorIndex := 12, attributes := #[] }, { accessFlags := 74, nameIndex := 175, descriptorIndex := 176, attributes := #[] }, { accessFlags := 10, nameIndex := 491, descriptorIndex := 222, attributes := #[] }, { accessFlags := 74, nameIndex := 29, descriptorIndex := 30, attributes := #[] }, { accessFlags := 74, nameIndex := 154, descriptorIndex := 155, attributes := #[] }, { accessFlags := 10, nameIndex := 217, descriptorIndex := 218, attributes := #[] }, { accessFlags := 10, nameIndex := 221, descriptorIndex := 222, attributes := #[] }, { accessFlags := 8, nameIndex := 562, descriptorIndex := 563, attributes := #[] }])
  fields := #[{ name := "in", type := (.object "java/io/InputStream"), accessFlags := 25, slot := 0, constantValue := 0 }, { name := "out", type := (.object "java/io/PrintStream"), accessFlags := 25, slot := 1, constantValue := 0 }, { name := "err", type := (.object "java/io/PrintStream"), accessFlags := 25, slot := 2, constantValue := 0 }, { name := "initialIn", type := (.object "java/io/InputStream"), accessFlags := 10, slot := 3, constantValue := 0 }, { name := "NEVER", type := .int, accessFlags := 26, slot := 4, constantValue := 0 }, { name := "MAYBE", type := .int, accessFlags := 26, slot := 5, constantValue := 0 }, { name := "allowSecurityManager", type := .int, accessFlags := 10, slot := 6, constantValue := 0 }, { name := "security", type := (.object "java/lang/SecurityManager"), accessFlags := 74, slot := 7, constantValue := 0 }, { name := "notSupportedJnuEncoding", type := (.object "java/lang/String"), accessFlags := 10, slot := 8, constantValue := 0 }, { name := "cons", type := (.object "java/io/Console"), accessFlags := 74, slot := 9, constantValue := 0 }, { name := "initialErrStream", type := (.object "java/io/PrintStream"), accessFlags := 74, slot := 10, constantValue := 0 }, { name := "props", type := (.object "java/util/Properties"), accessFlags := 10, slot := 11, constantValue := 0 }, { name := "lineSeparator", type := (.object "java/lang/String"), accessFlags := 10, slot := 12, constantValue := 0 }, { name := "bootLayer", type := (.object "java/lang/ModuleLayer"), accessFlags := 8, slot := 13, constantValue := 0 }]
  methods := #[k12m0, k12m1]
  instanceTypes := #[]
  staticTypes := #[(.object "java/io/InputStream"), (.object "java/io/PrintStream"), (.object "java/io/PrintStream"), (.object "java/io/InputStream"), .int, .int, .int, (.object "java/lang/SecurityManager"), (.object "java/lang/String"), (.object "java/io/Console"), (.object "java/io/PrintStream"), (.object "java/util/Properties"), (.object "java/lang/String"), (.object "java/lang/ModuleLayer")]
  resolved := Array.replicate 834 none
  statics := none }

def pool13 : Array CpInfo := pool [(1, u "java/lang/Cloneable"), (0, .class_ 1), (0, u "java/lang/Object"), (0, .class_ 3)] 3

/-- java/lang/Cloneable -/
def k13 : Class := { plain "java/lang/Cloneable" (some 0) with
  accessFlags := 1537
  interfaces := #[]
  cf := some (fileOf pool13 2 #[] #[] 1537 4 #[] #[])
  fields := #[]
  methods := #[]
  instanceTypes := #[]
  staticTypes := #[]
  resolved := Array.replicate 8 none
  statics := none }

/-- the primitive byte -/
def k14 : Class := { plain "byte" none with kind := .primitive 'B', accessFlags := 0x411 }
/-- [B -/
def k15 : Class := { plain "[B" (some 0) with kind := .array 14 .byte, interfaces := #[13, 6], accessFlags := 1041 }

/-- the primitive int -/
def k16 : Class := { plain "int" none with kind := .primitive 'I', accessFlags := 0x411 }
/-- [I -/
def k17 : Class := { plain "[I" (some 0) with kind := .array 16 .int, interfaces := #[13, 6], accessFlags := 1041 }

/-- the primitive long -/
def k18 : Class := { plain "long" none with kind := .primitive 'J', accessFlags := 0x411 }
/-- [J -/
def k19 : Class := { plain "[J" (some 0) with kind := .array 18 .long, interfaces := #[13, 6], accessFlags := 1041 }

/-- [Lcom/example/otaniemi/otaniemi/State; -/
def k20 : Class := { plain "[Lcom/example/otaniemi/otaniemi/State;" (some 0) with kind := .array 2 (.object "com/example/otaniemi/otaniemi/State"), interfaces := #[13, 6], accessFlags := 1041 }

def heap : Heap := #[{ cls := 2, slots := #[.ref 4], vm := .statics 2 },
  { cls := 3, slots := #[.ref 3], vm := .statics 3 },
  { cls := 8, slots := #[.null, .null, .ref 5, .null, .null, .null, .ref 6, .null], vm := .statics 8 },
  { cls := 3, slots := #[.null, .null, .null, .null, .null, .int 0, .int 0, .null, .null, .int 0, .null], vm := .none },
  { cls := 17, slots := #[], vm := .none },
  { cls := 8, slots := #[.null, .int 0, .int 0], vm := .none },
  { cls := 8, slots := #[.null, .int 0, .int 0], vm := .none }]
def classes : Array Class := #[k0, k1, k2, k3, k4, k5, k6, k7, k8, k9, k10, k11, k12, k13, k14, k15, k16, k17, k18, k19, k20]
def interned : List (Array UInt16 × Addr) := []
def slotsUsed : Nat := 27
def theMethod : MethodId := ⟨1, 1⟩
def args0 : Array Value := #[.int 5, .int 300, .int 7, .int 9]
def aboutOver (below : List Frame) : State where
  vm := { classes := classes, interned := interned.toArray }
  heap := heap
  slotsUsed := slotsUsed
  threads := #[{ frames := .invoking theMethod args0 :: below }]
def below0 : List Frame := [.native { method := ⟨0, 0⟩, args := #[] }]
def about1 : State := aboutOver below0
def p0 : Program := .bare "" "" ""
def e0 : Env := launch0.env 0 0 0
theorem w_frames : about1.frames = Frame.invoking theMethod args0 :: below0 := rfl
set_option maxRecDepth 65536 in
theorem w_args : argsFit about1.vm theMethod args0 = true := by decide +kernel
set_option maxRecDepth 65536 in
theorem w_heap : heapFits about1 = true := by decide +kernel
set_option maxRecDepth 65536 in
theorem w_runnable : about1.curStatus? = some .runnable := by decide +kernel
set_option maxRecDepth 65536 in
theorem w_alone : about1.alone = true := by decide +kernel
set_option maxRecDepth 65536 in
theorem w_named : about1.methodNamed? x = some theMethod := by decide +kernel
set_option maxRecDepth 65536 in
theorem w_hears : about1.hears theMethod below0 = true := by decide +kernel
set_option maxRecDepth 65536 in
theorem w_ripe : about1.ripe theMethod args0 below0 = true := by decide +kernel
theorem w_running : about1.status = .running := rfl
set_option maxRecDepth 65536 in
theorem w_room : about1.hasRoom e0.platform room_1 = true :=
  launch0.hasRoom_least _ room_1 (by decide +kernel) (by decide +kernel) (by decide +kernel) (by decide +kernel) (by decide +kernel) (by decide +kernel)
theorem allAtoms_all (ts : List Jvm.Cond) (a : Array Jvm.Value) (st : Jvm.State) : (allAtoms ts).before a st = ts.all (fun c => c.before a st) := by
  induction ts with
  | nil => rfl
  | cons c t ih =>
    show (Jvm.Cond.and c (allAtoms t)).before a st = _
    rw [Jvm.Cond.before_and, ih, List.all_cons]
def words1 : List Jvm.Cond := Jvm.Cond.code x code maxLocals ret :: tables_1
/-- a 'code' word, met by the world's own term for the bytes: nothing is compared byte by byte -/
theorem code_word {y : MethodName} {bytes : ByteArray} {mx : Nat} {rt : Option FieldType} {a : Array Value} {s : State} {m : MethodId} {meth : Method} {c : Code} (h1 : s.methodNamed? y = some m) (h2 : s.vm.method? m = some meth) (h3 : meth.code = some c) (h4 : c.code = bytes)
    (h5 : (c.maxLocals == mx && c.exceptionTable.isEmpty && decide (c.maxStack ≤ mostOperands) && decide (meth.sig.returnType = rt) && !meth.locks && decide (parseMethodDescriptor y.desc = some meth.sig)) = true) : (Jvm.Cond.code y bytes mx rt).before a s = true := by
  simp only [Bool.and_eq_true, beq_iff_eq, Bool.not_eq_true', decide_eq_true_eq] at h5
  obtain ⟨⟨⟨⟨⟨g1, g2⟩, g3⟩, g4⟩, g5⟩, g6⟩ := h5
  simp [Cond.before, Cond.holds, Cond.value, h1, h2, h3, h4, g1, g2, g3, g4, g5, g6]
def isCode : Jvm.Cond → Bool
  | .code _ _ _ _ => true
  | _ => false
theorem all_split {L : List Jvm.Cond} {P : Jvm.Cond → Bool} (h1 : L.all (fun c => isCode c || P c) = true) (h2 : ∀ c ∈ L.filter isCode, P c = true) : L.all P = true := by
  refine List.all_eq_true.mpr fun c hc => ?_
  have h := List.all_eq_true.mp h1 c hc
  rcases Bool.eq_false_or_eq_true (isCode c) with hi | hi
  · exact h2 c (List.mem_filter.mpr ⟨hc, hi⟩)
  · simpa [hi] using h
set_option maxRecDepth 65536 in
theorem w_c0 : (Jvm.Cond.code x code maxLocals ret).before args0 about1 = true := code_word (m := ⟨1, 1⟩) (meth := k1m1) (c := k1c1) (by decide +kernel) rfl rfl rfl (by decide +kernel)
set_option maxRecDepth 65536 in
theorem w_c1 : (Jvm.Cond.code ({ cls := "com/example/otaniemi/otaniemi/State", name := "<init>", desc := "(ILcom/example/otaniemi/otaniemi/State;Lcom/example/otaniemi/otaniemi/State$Edge;Ljava/lang/String;)V" } : Jvm.MethodName) prog_76_method_1_code (5 : Nat) (Option.none : Option Jvm.ClassFile.FieldType)).before args0 about1 = true := code_word (m := ⟨2, 0⟩) (meth := k2m0) (c := k2c0) (by decide +kernel) rfl rfl rfl (by decide +kernel)
set_option maxRecDepth 65536 in
theorem w_c2 : (Jvm.Cond.code ({ cls := "java/lang/Object", name := "<init>", desc := "()V" } : Jvm.MethodName) object_method_1_code (1 : Nat) (Option.none : Option Jvm.ClassFile.FieldType)).before args0 about1 = true := code_word (m := ⟨0, 0⟩) (meth := k0m0) (c := k0c0) (by decide +kernel) rfl rfl rfl (by decide +kernel)
set_option maxRecDepth 65536 in
theorem w_c3 : (Jvm.Cond.code ({ cls := "com/example/otaniemi/otaniemi/State", name := "countNodes", desc := "()V" } : Jvm.MethodName) prog_76_method_34_code (3 : Nat) (Option.none : Option Jvm.ClassFile.FieldType)).before args0 about1 = true := code_word (m := ⟨2, 5⟩) (meth := k2m5) (c := k2c5) (by decide +kernel) rfl rfl rfl (by decide +kernel)
set_option maxRecDepth 65536 in
theorem w_c4 : (Jvm.Cond.code ({ cls := "com/example/otaniemi/otaniemi/State", name := "ownParts", desc := "()Lcom/example/otaniemi/otaniemi/State$PredicateParts;" } : Jvm.MethodName) prog_76_method_16_code (1 : Nat) (Option.some (Jvm.ClassFile.FieldType.object "com/example/otaniemi/otaniemi/State$PredicateParts"))).before args0 about1 = true := code_word (m := ⟨2, 1⟩) (meth := k2m1) (c := k2c1) (by decide +kernel) rfl rfl rfl (by decide +kernel)
set_option maxRecDepth 65536 in
theorem w_c5 : (Jvm.Cond.code ({ cls := "com/example/otaniemi/otaniemi/State$PredicateParts", name := "<init>", desc := "()V" } : Jvm.MethodName) prog_78_method_1_code (1 : Nat) (Option.none : Option Jvm.ClassFile.FieldType)).before args0 about1 = true := code_word (m := ⟨3, 0⟩) (meth := k3m0) (c := k3c0) (by decide +kernel) rfl rfl rfl (by decide +kernel)
set_option maxRecDepth 65536 in
theorem w_c6 : (Jvm.Cond.code ({ cls := "com/example/otaniemi/otaniemi/Pending", name := "<init>", desc := "()V" } : Jvm.MethodName) prog_64_method_1_code (1 : Nat) (Option.none : Option Jvm.ClassFile.FieldType)).before args0 about1 = true := code_word (m := ⟨9, 0⟩) (meth := k9m0) (c := k9c0) (by decide +kernel) rfl rfl rfl (by decide +kernel)
set_option maxRecDepth 65536 in
theorem w_c7 : (Jvm.Cond.code ({ cls := "com/example/otaniemi/otaniemi/PendingGetSoleEndPinLaw", name := "addChoice", desc := "(Lcom/example/otaniemi/otaniemi/Pending;ILcom/example/otaniemi/otaniemi/State;Lcom/example/otaniemi/otaniemi/State;)V" } : Jvm.MethodName) method_3_code (4 : Nat) (Option.none : Option Jvm.ClassFile.FieldType)).before args0 about1 = true := code_word (m := ⟨1, 2⟩) (meth := k1m2) (c := k1c2) (by decide +kernel) rfl rfl rfl (by decide +kernel)
set_option maxRecDepth 65536 in
theorem w_c8 : (Jvm.Cond.code ({ cls := "com/example/otaniemi/otaniemi/Pending", name := "getSoleEnd", desc := "()Lcom/example/otaniemi/otaniemi/State;" } : Jvm.MethodName) prog_64_method_4_code (2 : Nat) (Option.some (Jvm.ClassFile.FieldType.object "com/example/otaniemi/otaniemi/State"))).before args0 about1 = true := code_word (m := ⟨9, 1⟩) (meth := k9m1) (c := k9c1) (by decide +kernel) rfl rfl rfl (by decide +kernel)
set_option maxRecDepth 65536 in
theorem w_c9 : (Jvm.Cond.code ({ cls := "com/example/otaniemi/otaniemi/State", name := "addId", desc := "(I)Z" } : Jvm.MethodName) prog_76_method_31_code (2 : Nat) (Option.some Jvm.ClassFile.FieldType.boolean)).before args0 about1 = true := code_word (m := ⟨2, 4⟩) (meth := k2m4) (c := k2c4) (by decide +kernel) rfl rfl rfl (by decide +kernel)
set_option maxRecDepth 65536 in
theorem w_c10 : (Jvm.Cond.code ({ cls := "java/lang/Math", name := "max", desc := "(II)I" } : Jvm.MethodName) jdk_29_method_65_code (2 : Nat) (Option.some Jvm.ClassFile.FieldType.int)).before args0 about1 = true := code_word (m := ⟨10, 1⟩) (meth := k10m1) (c := k10c1) (by decide +kernel) rfl rfl rfl (by decide +kernel)
set_option maxRecDepth 65536 in
theorem w_c11 : (Jvm.Cond.code ({ cls := "java/util/Arrays", name := "copyOf", desc := "([II)[I" } : Jvm.MethodName) jdk_65_method_123_code (3 : Nat) (Option.some (Jvm.ClassFile.FieldType.array Jvm.ClassFile.FieldType.int))).before args0 about1 = true := code_word (m := ⟨11, 1⟩) (meth := k11m1) (c := k11c1) (by decide +kernel) rfl rfl rfl (by decide +kernel)
set_option maxRecDepth 65536 in
theorem w_c12 : (Jvm.Cond.code ({ cls := "java/lang/Math", name := "min", desc := "(II)I" } : Jvm.MethodName) jdk_29_method_69_code (2 : Nat) (Option.some Jvm.ClassFile.FieldType.int)).before args0 about1 = true := code_word (m := ⟨10, 2⟩) (meth := k10m2) (c := k10c2) (by decide +kernel) rfl rfl rfl (by decide +kernel)
set_option maxRecDepth 65536 in
theorem w_c13 : (Jvm.Cond.code ({ cls := "com/example/otaniemi/otaniemi/Pending", name := "add", desc := "(Lcom/example/otaniemi/otaniemi/State;)V" } : Jvm.MethodName) prog_64_method_10_code (2 : Nat) (Option.none : Option Jvm.ClassFile.FieldType)).before args0 about1 = true := code_word (m := ⟨9, 3⟩) (meth := k9m3) (c := k9c3) (by decide +kernel) rfl rfl rfl (by decide +kernel)
set_option maxRecDepth 65536 in
theorem w_c14 : (Jvm.Cond.code ({ cls := "com/example/otaniemi/otaniemi/State", name := "isCounted", desc := "()Z" } : Jvm.MethodName) prog_76_method_35_code (1 : Nat) (Option.some Jvm.ClassFile.FieldType.boolean)).before args0 about1 = true := code_word (m := ⟨2, 6⟩) (meth := k2m6) (c := k2c6) (by decide +kernel) rfl rfl rfl (by decide +kernel)
set_option maxRecDepth 65536 in
theorem w_c15 : (Jvm.Cond.code ({ cls := "com/example/otaniemi/otaniemi/Pending", name := "add", desc := "(Lcom/example/otaniemi/otaniemi/State;J)V" } : Jvm.MethodName) prog_64_method_11_code (5 : Nat) (Option.none : Option Jvm.ClassFile.FieldType)).before args0 about1 = true := code_word (m := ⟨9, 4⟩) (meth := k9m4) (c := k9c4) (by decide +kernel) rfl rfl rfl (by decide +kernel)
set_option maxRecDepth 65536 in
theorem w_c16 : (Jvm.Cond.code ({ cls := "com/example/otaniemi/otaniemi/Pending", name := "indexOf", desc := "(Lcom/example/otaniemi/otaniemi/State;)I" } : Jvm.MethodName) prog_64_method_9_code (4 : Nat) (Option.some Jvm.ClassFile.FieldType.int)).before args0 about1 = true := code_word (m := ⟨9, 2⟩) (meth := k9m2) (c := k9c2) (by decide +kernel) rfl rfl rfl (by decide +kernel)
set_option maxRecDepth 65536 in
theorem w_c17 : (Jvm.Cond.code ({ cls := "com/example/otaniemi/otaniemi/Pending", name := "put", desc := "(ILcom/example/otaniemi/otaniemi/State;JJ)V" } : Jvm.MethodName) prog_64_method_16_code (7 : Nat) (Option.none : Option Jvm.ClassFile.FieldType)).before args0 about1 = true := code_word (m := ⟨9, 7⟩) (meth := k9m7) (c := k9c7) (by decide +kernel) rfl rfl rfl (by decide +kernel)
set_option maxRecDepth 65536 in
theorem w_c18 : (Jvm.Cond.code ({ cls := "com/example/otaniemi/otaniemi/Pending", name := "keepValues", desc := "()V" } : Jvm.MethodName) prog_64_method_18_code (1 : Nat) (Option.none : Option Jvm.ClassFile.FieldType)).before args0 about1 = true := code_word (m := ⟨9, 9⟩) (meth := k9m9) (c := k9c9) (by decide +kernel) rfl rfl rfl (by decide +kernel)
set_option maxRecDepth 65536 in
theorem w_c19 : (Jvm.Cond.code ({ cls := "com/example/otaniemi/otaniemi/Pending", name := "merged", desc := "(Lcom/example/otaniemi/otaniemi/State;JJ)J" } : Jvm.MethodName) prog_64_method_14_code (5 : Nat) (Option.some Jvm.ClassFile.FieldType.long)).before args0 about1 = true := code_word (m := ⟨9, 5⟩) (meth := k9m5) (c := k9c5) (by decide +kernel) rfl rfl rfl (by decide +kernel)
set_option maxRecDepth 65536 in
theorem w_c20 : (Jvm.Cond.code ({ cls := "com/example/otaniemi/otaniemi/Pending", name := "keepEndsAbove", desc := "(I)V" } : Jvm.MethodName) prog_64_method_17_code (4 : Nat) (Option.none : Option Jvm.ClassFile.FieldType)).before args0 about1 = true := code_word (m := ⟨9, 8⟩) (meth := k9m8) (c := k9c8) (by decide +kernel) rfl rfl rfl (by decide +kernel)
set_option maxRecDepth 65536 in
theorem w_c21 : (Jvm.Cond.code ({ cls := "com/example/otaniemi/otaniemi/State", name := "isEndAbove", desc := "(I)Z" } : Jvm.MethodName) prog_76_method_25_code (2 : Nat) (Option.some Jvm.ClassFile.FieldType.boolean)).before args0 about1 = true := code_word (m := ⟨2, 2⟩) (meth := k2m2) (c := k2c2) (by decide +kernel) rfl rfl rfl (by decide +kernel)
set_option maxRecDepth 65536 in
theorem w_c22 : (Jvm.Cond.code ({ cls := "com/example/otaniemi/otaniemi/State", name := "hasIds", desc := "()Z" } : Jvm.MethodName) prog_76_method_26_code (1 : Nat) (Option.some Jvm.ClassFile.FieldType.boolean)).before args0 about1 = true := code_word (m := ⟨2, 3⟩) (meth := k2m3) (c := k2c3) (by decide +kernel) rfl rfl rfl (by decide +kernel)
set_option maxRecDepth 65536 in
theorem w_c23 : (Jvm.Cond.code ({ cls := "com/example/otaniemi/otaniemi/Pending", name := "move", desc := "(II)V" } : Jvm.MethodName) prog_64_method_15_code (3 : Nat) (Option.none : Option Jvm.ClassFile.FieldType)).before args0 about1 = true := code_word (m := ⟨9, 6⟩) (meth := k9m6) (c := k9c6) (by decide +kernel) rfl rfl rfl (by decide +kernel)
def codes1 : List Jvm.Cond := [Jvm.Cond.code x code maxLocals ret, Jvm.Cond.code ({ cls := "com/example/otaniemi/otaniemi/State", name := "<init>", desc := "(ILcom/example/otaniemi/otaniemi/State;Lcom/example/otaniemi/otaniemi/State$Edge;Ljava/lang/String;)V" } : Jvm.MethodName) prog_76_method_1_code (5 : Nat) (Option.none : Option Jvm.ClassFile.FieldType), Jvm.Cond.code ({ cls := "java/lang/Object", name := "<init>", desc := "()V" } : Jvm.MethodName) object_method_1_code (1 : Nat) (Option.none : Option Jvm.ClassFile.FieldType), Jvm.Cond.code ({ cls := "com/example/otaniemi/otaniemi/State", name := "countNodes", desc := "()V" } : Jvm.MethodName) prog_76_method_34_code (3 : Nat) (Option.none : Option Jvm.ClassFile.FieldType), Jvm.Cond.code ({ cls := "com/example/otaniemi/otaniemi/State", name := "ownParts", desc := "()Lcom/example/otaniemi/otaniemi/State$PredicateParts;" } : Jvm.MethodName) prog_76_method_16_code (1 : Nat) (Option.some (Jvm.ClassFile.FieldType.object "com/example/otaniemi/otaniemi/State$PredicateParts")), Jvm.Cond.code ({ cls := "com/example/otaniemi/otaniemi/State$PredicateParts", name := "<init>", desc := "()V" } : Jvm.MethodName) prog_78_method_1_code (1 : Nat) (Option.none : Option Jvm.ClassFile.FieldType), Jvm.Cond.code ({ cls := "com/example/otaniemi/otaniemi/Pending", name := "<init>", desc := "()V" } : Jvm.MethodName) prog_64_method_1_code (1 : Nat) (Option.none : Option Jvm.ClassFile.FieldType), Jvm.Cond.code ({ cls := "com/example/otaniemi/otaniemi/PendingGetSoleEndPinLaw", name := "addChoice", desc := "(Lcom/example/otaniemi/otaniemi/Pending;ILcom/example/otaniemi/otaniemi/State;Lcom/example/otaniemi/otaniemi/State;)V" } : Jvm.MethodName) method_3_code (4 : Nat) (Option.none : Option Jvm.ClassFile.FieldType), Jvm.Cond.code ({ cls := "com/example/otaniemi/otaniemi/Pending", name := "getSoleEnd", desc := "()Lcom/example/otaniemi/otaniemi/State;" } : Jvm.MethodName) prog_64_method_4_code (2 : Nat) (Option.some (Jvm.ClassFile.FieldType.object "com/example/otaniemi/otaniemi/State")), Jvm.Cond.code ({ cls := "com/example/otaniemi/otaniemi/State", name := "addId", desc := "(I)Z" } : Jvm.MethodName) prog_76_method_31_code (2 : Nat) (Option.some Jvm.ClassFile.FieldType.boolean), Jvm.Cond.code ({ cls := "java/lang/Math", name := "max", desc := "(II)I" } : Jvm.MethodName) jdk_29_method_65_code (2 : Nat) (Option.some Jvm.ClassFile.FieldType.int), Jvm.Cond.code ({ cls := "java/util/Arrays", name := "copyOf", desc := "([II)[I" } : Jvm.MethodName) jdk_65_method_123_code (3 : Nat) (Option.some (Jvm.ClassFile.FieldType.array Jvm.ClassFile.FieldType.int)), Jvm.Cond.code ({ cls := "java/lang/Math", name := "min", desc := "(II)I" } : Jvm.MethodName) jdk_29_method_69_code (2 : Nat) (Option.some Jvm.ClassFile.FieldType.int), Jvm.Cond.code ({ cls := "com/example/otaniemi/otaniemi/Pending", name := "add", desc := "(Lcom/example/otaniemi/otaniemi/State;)V" } : Jvm.MethodName) prog_64_method_10_code (2 : Nat) (Option.none : Option Jvm.ClassFile.FieldType), Jvm.Cond.code ({ cls := "com/example/otaniemi/otaniemi/State", name := "isCounted", desc := "()Z" } : Jvm.MethodName) prog_76_method_35_code (1 : Nat) (Option.some Jvm.ClassFile.FieldType.boolean), Jvm.Cond.code ({ cls := "com/example/otaniemi/otaniemi/Pending", name := "add", desc := "(Lcom/example/otaniemi/otaniemi/State;J)V" } : Jvm.MethodName) prog_64_method_11_code (5 : Nat) (Option.none : Option Jvm.ClassFile.FieldType), Jvm.Cond.code ({ cls := "com/example/otaniemi/otaniemi/Pending", name := "indexOf", desc := "(Lcom/example/otaniemi/otaniemi/State;)I" } : Jvm.MethodName) prog_64_method_9_code (4 : Nat) (Option.some Jvm.ClassFile.FieldType.int), Jvm.Cond.code ({ cls := "com/example/otaniemi/otaniemi/Pending", name := "put", desc := "(ILcom/example/otaniemi/otaniemi/State;JJ)V" } : Jvm.MethodName) prog_64_method_16_code (7 : Nat) (Option.none : Option Jvm.ClassFile.FieldType), Jvm.Cond.code ({ cls := "com/example/otaniemi/otaniemi/Pending", name := "keepValues", desc := "()V" } : Jvm.MethodName) prog_64_method_18_code (1 : Nat) (Option.none : Option Jvm.ClassFile.FieldType), Jvm.Cond.code ({ cls := "com/example/otaniemi/otaniemi/Pending", name := "merged", desc := "(Lcom/example/otaniemi/otaniemi/State;JJ)J" } : Jvm.MethodName) prog_64_method_14_code (5 : Nat) (Option.some Jvm.ClassFile.FieldType.long), Jvm.Cond.code ({ cls := "com/example/otaniemi/otaniemi/Pending", name := "keepEndsAbove", desc := "(I)V" } : Jvm.MethodName) prog_64_method_17_code (4 : Nat) (Option.none : Option Jvm.ClassFile.FieldType), Jvm.Cond.code ({ cls := "com/example/otaniemi/otaniemi/State", name := "isEndAbove", desc := "(I)Z" } : Jvm.MethodName) prog_76_method_25_code (2 : Nat) (Option.some Jvm.ClassFile.FieldType.boolean), Jvm.Cond.code ({ cls := "com/example/otaniemi/otaniemi/State", name := "hasIds", desc := "()Z" } : Jvm.MethodName) prog_76_method_26_code (1 : Nat) (Option.some Jvm.ClassFile.FieldType.boolean), Jvm.Cond.code ({ cls := "com/example/otaniemi/otaniemi/Pending", name := "move", desc := "(II)V" } : Jvm.MethodName) prog_64_method_15_code (3 : Nat) (Option.none : Option Jvm.ClassFile.FieldType)]
set_option maxRecDepth 65536 in
theorem codes_eq : words1.filter isCode = codes1 := rfl
theorem w_codes : ∀ c ∈ words1.filter isCode, c.before args0 about1 = true := by
  rw [codes_eq]
  intro c hc
  simp only [codes1, List.mem_cons, List.not_mem_nil, or_false] at hc
  rcases hc with rfl | rfl | rfl | rfl | rfl | rfl | rfl | rfl | rfl | rfl | rfl | rfl | rfl | rfl | rfl | rfl | rfl | rfl | rfl | rfl | rfl | rfl | rfl | rfl
  · exact w_c0
  · exact w_c1
  · exact w_c2
  · exact w_c3
  · exact w_c4
  · exact w_c5
  · exact w_c6
  · exact w_c7
  · exact w_c8
  · exact w_c9
  · exact w_c10
  · exact w_c11
  · exact w_c12
  · exact w_c13
  · exact w_c14
  · exact w_c15
  · exact w_c16
  · exact w_c17
  · exact w_c18
  · exact w_c19
  · exact w_c20
  · exact w_c21
  · exact w_c22
  · exact w_c23
set_option maxRecDepth 65536 in
theorem w_t1 : (words1.take 24).all (fun c => isCode c || c.before args0 about1) = true := by decide +kernel
set_option maxRecDepth 65536 in
theorem w_t2 : ((words1.drop 24).take 24).all (fun c => isCode c || c.before args0 about1) = true := by decide +kernel
set_option maxRecDepth 65536 in
theorem w_t3 : (((words1.drop 24).drop 24).take 24).all (fun c => isCode c || c.before args0 about1) = true := by decide +kernel
set_option maxRecDepth 65536 in
theorem w_t4 : ((((words1.drop 24).drop 24).drop 24).take 24).all (fun c => isCode c || c.before args0 about1) = true := by decide +kernel
set_option maxRecDepth 65536 in
theorem w_t5 : (((((words1.drop 24).drop 24).drop 24).drop 24).take 24).all (fun c => isCode c || c.before args0 about1) = true := by decide +kernel
set_option maxRecDepth 65536 in
theorem w_t6 : ((((((words1.drop 24).drop 24).drop 24).drop 24).drop 24).take 24).all (fun c => isCode c || c.before args0 about1) = true := by decide +kernel
set_option maxRecDepth 65536 in
theorem w_t7 : ((((((words1.drop 24).drop 24).drop 24).drop 24).drop 24).drop 24).all (fun c => isCode c || c.before args0 about1) = true := by decide +kernel
theorem w_tables : (allAtoms (Jvm.Cond.code x code maxLocals ret :: tables_1)).before args0 about1 = true := by
  rw [allAtoms_all]
  show words1.all (fun c => c.before args0 about1) = true
  refine all_split ?_ w_codes
  rw [← List.take_append_drop 24 words1, List.all_append, w_t1, ← List.take_append_drop 24 (words1.drop 24), List.all_append, w_t2, ← List.take_append_drop 24 ((words1.drop 24).drop 24), List.all_append, w_t3, ← List.take_append_drop 24 (((words1.drop 24).drop 24).drop 24), List.all_append, w_t4, ← List.take_append_drop 24 ((((words1.drop 24).drop 24).drop 24).drop 24), List.all_append, w_t5, ← List.take_append_drop 24 (((((words1.drop 24).drop 24).drop 24).drop 24).drop 24), List.all_append, w_t6, w_t7]
  rfl
set_option maxRecDepth 65536 in
theorem w_case : (Jvm.Cond.and given_1 narrow_1).before args0 about1 = true := by decide +kernel
theorem w_applies : (headSpec (Jvm.Cond.code x code maxLocals ret :: tables_1) room_1).applies x e0.platform about1 = true :=
  (Spec.applies_iff w_frames).mpr ⟨w_running, w_runnable, w_alone, w_named, w_hears, w_ripe, w_room, w_tables⟩
theorem atStart : AtStart classFile x code maxLocals ret World_1 tables_1 room_1 Calls_1 rest_1 Pre_1 launch0 p0 e0 about1 theMethod args0 below0 :=
  ⟨lists_1, trivial, launch0.admits_env _ _ _, launch0.least_env, fairChoices_fair.cas, fairChoices_fair.clock, w_frames, w_args, w_heap, w_applies, trivial, trivial, w_case⟩
end start1
theorem witness_1 : WitnessClaimed_1 := ⟨start1.p0, start1.e0, start1.about1, start1.theMethod, start1.args0, start1.below0, start1.atStart⟩
end Jvm.Pilot.@@N@@
