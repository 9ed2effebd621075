import JvmDerived
import JvmDerived.Pilot.@@N@@Statement
import JvmDerived.Pilot.@@N@@Code
set_option linter.unusedVariables false
set_option linter.unusedSimpArgs false
namespace Jvm.RoadKit
open Sem ClassFile Op Lib Jvm.Stand Jvm.Free Jvm.LawKit
section New
variable {p : Program} {l : Launch} {e : Env} {R : Room} {s : State} {m : MethodId} {args : Array Value} {below : List Frame} {meth : Method} {c : Code} {T : State} {locs : List Loc} {cells slots : Nat}
theorem retI (X : Stand p l e R s m args below meth c T locs cells slots) (hx : p.tables.exec = Jvm.exec) {pc : Nat} {Ls : Array Slot} {z : Int32} {rest : List Value} (hret : meth.sig.returnType = some .int) (hd : decode c.code pc = .ok (.ireturn, 1)) {fs : List Frame}
    (hl : ∀ (f : JFrame) (acts : List Action), f.method = m → f.locked = none → f.entered = [] → (doReturn e (T.setTop f) acts (some (.int z))).1 = T.setFrames fs) : Steps p.tables e below (T.setTop (mkF m pc Ls (.int z :: rest))) (T.setFrames fs) := by
  have hm' : T.vm.method? m = some meth := X.method'
  have hn : narrow .int (.int z) = .int z := rfl
  show Steps p.tables e below (T.setTop { method := m, pc := pc, locals := Ls, stack := _ :: rest, locked := none }) _
  jvm_step X.here [X.here.top, hx, hd, hm', hret, hn]
  first | (intro acts; rw [hl _ acts rfl rfl rfl]) | rw [hl _ _ rfl rfl rfl]
  exact Steps.refl _
end New
end Jvm.RoadKit
namespace Jvm.Pilot.@@N@@
open Jvm Jvm.ClassFile Sem Op Lib Jvm.Free Jvm.Stand Jvm.LawKit Jvm.RoadKit Bundle Jvm.Pilot.@@N@@.Jvm.D
section OwnGo
variable {p : Program} {l : Launch} {e : Env} {R : Room} {s : State} {m : MethodId} {args : Array Value} {below : List Frame} {meth : Method} {c : Code} {T : State} {locs : List Loc} {cells slots : Nat} {Q : Option Value → Heap → List Loc → Prop} {ck sk : Nat}
/-- from the state S the body comes to its end, and what it returns and leaves meets Q -/
def own_Go (p : Program) (e : Env) (below : List Frame) (s : State) (Q : Option Value → Heap → List Loc → Prop) (ck sk : Nat) (S : State) : Prop :=
  ∃ s₂ o, Steps p.tables e below S s₂ ∧ s₂.status = .running ∧ Ended s₂ below o ∧ ∃ v L, o = .returned v ∧ Q v s₂.heap L ∧ FrameEnd s o s₂ L ck sk
theorem own_go {S S' : State} (st : ∀ t, Steps p.tables e below S' t → Steps p.tables e below S t) (k : own_Go p e below s Q ck sk S') : own_Go p e below s Q ck sk S := by
  obtain ⟨a, b, h, r⟩ := k; exact ⟨a, b, st _ h, r⟩
theorem own_goT {S S' : State} (st : Steps p.tables e below S S') (k : own_Go p e below s Q ck sk S') : own_Go p e below s Q ck sk S := own_go (fun _ h => st.trans h) k
theorem own_retI (X : Stand p l e R s m args below meth c T locs cells slots) (hx : p.tables.exec = Jvm.exec) (hlk : meth.locks = false) {pc : Nat} {Ls : Array Slot} {z : Int32} {rest : List Value} (hret : meth.sig.returnType = some .int) (hd : decode c.code pc = .ok (.ireturn, 1)) (hc : cells ≤ ck) (hs : slots ≤ sk)
    (q : Q (some (.int z)) T.heap locs) : own_Go p e below s Q ck sk (T.setTop (mkF m pc Ls (.int z :: rest))) := by
  obtain ⟨fs, hr, hrun, hended, hW, hsame⟩ := X.leave (v := some (.int z)) (fun h => by rw [hret] at h; cases h) hlk
  exact ⟨_, _, retI X hx hret hd hr, hrun, hended, _, _, rfl, q, ⟨_, rfl⟩, hW, hsame.mono hc hs⟩
theorem own_retN (X : Stand p l e R s m args below meth c T locs cells slots) (hx : p.tables.exec = Jvm.exec) (hlk : meth.locks = false) {t : FieldType} {pc : Nat} {Ls : Array Slot} {z : Int32} {rest : List Value} (ht : t = .boolean ∨ t = .byte ∨ t = .char ∨ t = .short) (hret : meth.sig.returnType = some t) (hd : decode c.code pc = .ok (.ireturn, 1)) (hc : cells ≤ ck) (hs : slots ≤ sk)
    (q : Q (some (.int (nar t z))) T.heap locs) : own_Go p e below s Q ck sk (T.setTop (mkF m pc Ls (.int z :: rest))) := by
  obtain ⟨fs, hr, hrun, hended, hW, hsame⟩ := X.leave (v := some (.int (nar t z))) (fun h => by rw [hret] at h; cases h) hlk
  exact ⟨_, _, retN X hx hret ht hd hr, hrun, hended, _, _, rfl, q, ⟨_, rfl⟩, hW, hsame.mono hc hs⟩
theorem own_ret0 (X : Stand p l e R s m args below meth c T locs cells slots) (hx : p.tables.exec = Jvm.exec) (hlk : meth.locks = false) {pc : Nat} {Ls : Array Slot} (hret : meth.sig.returnType = none) (hd : decode c.code pc = .ok (.return_, 1)) (hc : cells ≤ ck) (hs : slots ≤ sk)
    (q : Q none T.heap locs) : own_Go p e below s Q ck sk (T.setTop (mkF m pc Ls [])) := by
  obtain ⟨fs, hr, hrun, hended, hW, hsame⟩ := X.leave (v := none) (fun _ => rfl) hlk
  exact ⟨_, _, X.returnOut hx hret hd hr, hrun, hended, _, _, rfl, q, ⟨_, rfl⟩, hW, hsame.mono hc hs⟩
theorem own_retA (X : Stand p l e R s m args below meth c T locs cells slots) (hx : p.tables.exec = Jvm.exec) (hlk : meth.locks = false) {t : FieldType} {pc : Nat} {Ls : Array Slot} {w : Value} (hw : w.isRef = true) (ht : t.isReference = true) (hret : meth.sig.returnType = some t) (hd : decode c.code pc = .ok (.areturn, 1)) (hc : cells ≤ ck) (hs : slots ≤ sk)
    (q : Q (some w) T.heap locs) : own_Go p e below s Q ck sk (T.setTop (mkF m pc Ls [w])) := by
  obtain ⟨fs, hr, hrun, hended, hW, hsame⟩ := X.leave (v := some w) (fun h => by rw [hret] at h; cases h) hlk
  exact ⟨_, _, X.areturnOut hx hw hret ht hd hr, hrun, hended, _, _, rfl, q, ⟨_, rfl⟩, hW, hsame.mono hc hs⟩
theorem own_retJ (X : Stand p l e R s m args below meth c T locs cells slots) (hx : p.tables.exec = Jvm.exec) (hlk : meth.locks = false) {pc : Nat} {Ls : Array Slot} {w : Int64} (hret : meth.sig.returnType = some .long) (hd : decode c.code pc = .ok (.lreturn, 1)) (hc : cells ≤ ck) (hs : slots ≤ sk)
    (q : Q (some (.long w)) T.heap locs) : own_Go p e below s Q ck sk (T.setTop (mkF m pc Ls [.long w])) := by
  obtain ⟨fs, hr, hrun, hended, hW, hsame⟩ := X.leave (v := some (.long w)) (fun h => by rw [hret] at h; cases h) hlk
  exact ⟨_, _, X.lreturnOut hx hret hd hr, hrun, hended, _, _, rfl, q, ⟨_, rfl⟩, hW, hsame.mono hc hs⟩
end OwnGo
theorem own_retD {p : Program} {l : Launch} {e : Env} {R : Room} {s : State} {m : MethodId} {args : Array Value} {below : List Frame} {meth : Method} {c : Code} {T : State} {locs : List Loc} {cells slots : Nat} {Q : Option Value → Heap → List Loc → Prop} {ck sk : Nat} (X : Stand p l e R s m args below meth c T locs cells slots) (hx : p.tables.exec = Jvm.exec) (hlk : meth.locks = false) {pc : Nat} {Ls : Array Slot} {w : UInt64} (hret : meth.sig.returnType = some .double) (hd : decode c.code pc = .ok (.dreturn, 1)) (hc : cells ≤ ck) (hs : slots ≤ sk)
    (q : Q (some (.double w)) T.heap locs) : own_Go p e below s Q ck sk (T.setTop (mkF m pc Ls [.double w])) := by
  obtain ⟨fs, hr, hrun, hended, hW, hsame⟩ := X.leave (v := some (.double w)) (fun h => by rw [hret] at h; cases h) hlk
  exact ⟨_, _, retOut X hx hret rfl (Or.inr (Or.inr (Or.inl ⟨rfl, rfl, _, rfl⟩))) hd hr, hrun, hended, _, _, rfl, q, ⟨_, rfl⟩, hW, hsame.mono hc hs⟩
theorem own_leq {x y : Int64} (h : x = y) : lcmpW x y = 0 := (lw_eq x y).mpr h
theorem own_lne {x y : Int64} (h : ¬ x = y) : ¬ lcmpW x y = 0 := fun q => h ((lw_eq x y).mp q)
theorem own_llt {x y : Int64} (h : x < y) : lcmpW x y < 0 := (lw_lt x y).mpr h
theorem own_lnlt {x y : Int64} (h : ¬ x < y) : ¬ lcmpW x y < 0 := fun q => h ((lw_lt x y).mp q)
theorem own_lgt {x y : Int64} (h : y < x) : 0 < lcmpW x y := (lw_gt x y).mpr h
theorem own_lngt {x y : Int64} (h : ¬ y < x) : ¬ 0 < lcmpW x y := fun q => h ((lw_gt x y).mp q)
theorem own_ltr {x y : Int32} {k : Int} (h : x < y) (e : y.toInt = k) : x.toInt < k := by rw [← e]; exact Int32.lt_iff_toInt_lt.mp h
theorem own_ltl {x y : Int32} {k : Int} (h : x < y) (e : x.toInt = k) : k < y.toInt := by rw [← e]; exact Int32.lt_iff_toInt_lt.mp h
theorem own_nltr {x y : Int32} {k : Int} (h : ¬ x < y) (e : y.toInt = k) : k ≤ x.toInt := by rw [← e]; exact Int.not_lt.mp fun q => h (Int32.lt_iff_toInt_lt.mpr q)
theorem own_nltl {x y : Int32} {k : Int} (h : ¬ x < y) (e : x.toInt = k) : y.toInt ≤ k := by rw [← e]; exact Int.not_lt.mp fun q => h (Int32.lt_iff_toInt_lt.mpr q)
theorem own_eqr {x y : Int32} {k : Int} (h : x = y) (e : y.toInt = k) : x.toInt = k := by rw [← e, h]
theorem own_neqr {x y : Int32} {k : Int} (h : ¬ x = y) (e : y.toInt = k) : ¬ x.toInt = k := by rw [← e]; exact fun q => h (Int32.toInt_inj.mp q)
theorem own_selP {s : State} {args : Array Value} {y : MethodName} {n : Nat} (wi : (Jvm.Cond.instantiable y.cls n).before args s = true) (wp : (Jvm.Cond.privateMethod y).before args s = true) (wn : (Jvm.Cond.instanceMethod y).before args s = true) (hy : y.cls ≠ "java/lang/invoke/MethodHandle" ∧ y.cls ≠ "java/lang/invoke/VarHandle") : (Jvm.Cond.selects y.cls y y).before args s = true := by
  obtain ⟨c, k, h1, h2, -, h4, -⟩ := Cond.instantiable_spec wi
  exact Jvm.Stand.selects_self_of_private h1 h2 (Bool.or_eq_false_iff.mp h4).1 (Cond.privateMethod_at wp) wn hy
theorem own_eqInt {t : Term} {k : Int32} {args : Array Value} {s : State} (h : (Jvm.Cond.eq t (Term.int k)).value args s none s [] = some true) : t.eval args s none [] s = some (.int k) := by
  have hk : (Term.int k).eval args s none [] s = some (.int k) := rfl
  cases ht : t.eval args s none [] s with
  | none => simp [Jvm.Cond.value, ht] at h
  | some v => cases v <;> simp [Jvm.Cond.value, ht, hk] at h; rw [h]
def own_of (p q : Int32) (a_WAITING a_SETTLED a_IN_TRANSACTION a_SHUT_OUT : Addr) : Addr := if p = 0 then (if q = 0 then a_WAITING else a_IN_TRANSACTION) else (if q = 0 then a_SHUT_OUT else a_SETTLED)
theorem d1_0 : decode prog_4_method_4_code 0 = .ok (.iload_n 0, 1) := by decide +kernel
theorem d1_1 : decode prog_4_method_4_code 1 = .ok (.ifCond .eq 20, 3) := by decide +kernel
theorem d1_21 : decode prog_4_method_4_code 21 = .ok (.iload_n 1, 1) := by decide +kernel
theorem d1_22 : decode prog_4_method_4_code 22 = .ok (.ifCond .eq 9, 3) := by decide +kernel
theorem d1_31 : decode prog_4_method_4_code 31 = .ok (.getstatic 3, 3) := by decide +kernel
theorem d1_34 : decode prog_4_method_4_code 34 = .ok (.astore_n 2, 1) := by decide +kernel
theorem d1_35 : decode prog_4_method_4_code 35 = .ok (.aload_n 2, 1) := by decide +kernel
theorem d1_36 : decode prog_4_method_4_code 36 = .ok (.areturn, 1) := by decide +kernel
theorem d1_25 : decode prog_4_method_4_code 25 = .ok (.getstatic 7, 3) := by decide +kernel
theorem d1_28 : decode prog_4_method_4_code 28 = .ok (.goto 6, 3) := by decide +kernel
theorem d1_4 : decode prog_4_method_4_code 4 = .ok (.iload_n 1, 1) := by decide +kernel
theorem d1_5 : decode prog_4_method_4_code 5 = .ok (.ifCond .eq 9, 3) := by decide +kernel
theorem d1_14 : decode prog_4_method_4_code 14 = .ok (.getstatic 10, 3) := by decide +kernel
theorem d1_17 : decode prog_4_method_4_code 17 = .ok (.astore_n 2, 1) := by decide +kernel
theorem d1_18 : decode prog_4_method_4_code 18 = .ok (.goto 17, 3) := by decide +kernel
theorem d1_8 : decode prog_4_method_4_code 8 = .ok (.getstatic 13, 3) := by decide +kernel
theorem d1_11 : decode prog_4_method_4_code 11 = .ok (.goto 6, 3) := by decide +kernel
theorem pn_17 : plainName "com/example/enact/enact/Dialect$Standing" = true := by first | (simp [plainName, overriddenIn]; done) | decide +kernel
theorem ef_rm1 (m : MethodId) (x0 : Int32) (x1 : Int32) : entryFrame m #[(.int x0), (.int x1)] 3 = mkF m 0 #[.val (.int x0), .val (.int x1), .unset] [] := by first | (simp [entryFrame, mkF, argsToLocals, Value.category]; done) | rfl
def Q_rm1 (Z : State) (p0 p1 : Int32) (a_WAITING a_SETTLED a_IN_TRANSACTION a_SHUT_OUT : Addr) (h0 : Heap) (n0 : Nat) (v : Option Value) (h : Heap) (L : List Loc) : Prop := v = some (.ref (own_of p0 p1 a_WAITING a_SETTLED a_IN_TRANSACTION a_SHUT_OUT)) ∧ h = h0 ∧ L = []
set_option maxRecDepth 65536 in
set_option maxHeartbeats 40000000 in
theorem rm1 (l : Launch) (Z : State) (a0 : Array Value) (hw : ∀ d ∈ tables_1, d.before a0 Z = true) (ws : List Jvm.Cond) (p0 p1 : Int32) (a_WAITING a_SETTLED a_IN_TRANSACTION a_SHUT_OUT : Addr) (h0 : Heap) (n0 : Nat) (Z0 : n0 ≤ h0.size) (S_WAITING : Sta Z h0 "com/example/enact/enact/Dialect$Standing" "WAITING" "Lcom/example/enact/enact/Dialect$Standing;" (.ref a_WAITING)) (S_SETTLED : Sta Z h0 "com/example/enact/enact/Dialect$Standing" "SETTLED" "Lcom/example/enact/enact/Dialect$Standing;" (.ref a_SETTLED)) (S_IN_TRANSACTION : Sta Z h0 "com/example/enact/enact/Dialect$Standing" "IN_TRANSACTION" "Lcom/example/enact/enact/Dialect$Standing;" (.ref a_IN_TRANSACTION)) (S_SHUT_OUT : Sta Z h0 "com/example/enact/enact/Dialect$Standing" "SHUT_OUT" "Lcom/example/enact/enact/Dialect$Standing;" (.ref a_SHUT_OUT)) :
    MetFree l (⟨"com/example/enact/enact/Dialect$Standing", "of", "(ZZ)Lcom/example/enact/enact/Dialect$Standing;"⟩ : MethodName) (head1 (Jvm.Cond.code (⟨"com/example/enact/enact/Dialect$Standing", "of", "(ZZ)Lcom/example/enact/enact/Dialect$Standing;"⟩ : MethodName) prog_4_method_4_code 3 (some (.object "com/example/enact/enact/Dialect$Standing")) :: ws) ({ frames := 0, cells := 0, slots := 0, locals := 0 } : Room)) (fun a U => a = #[(.int p0), (.int p1)] ∧ Z.Warmed39 U.vm ∧ U.heap = h0) (fun _ _ _ _ _ => True) (fun _ U o U' => ∃ v L, o = .returned v ∧ Q_rm1 Z p0 p1 a_WAITING a_SETTLED a_IN_TRANSACTION a_SHUT_OUT h0 n0 v U'.heap L ∧ FrameEnd U o U' L ({ frames := 0, cells := 0, slots := 0, locals := 0 } : Room).cells ({ frames := 0, cells := 0, slots := 0, locals := 0 } : Room).slots) := by
  refine MetFree.of_bodySF (plainFor_of_name pn_17) hisR ?_
  intro p e s m args below meth c s₁ Bd hml0 hP hK
  obtain ⟨rfl, hZ, hh⟩ := hP
  have hx := Bd.exec
  have hby := Bd.bytes
  have hlk := Bd.notSynchronized
  have hml : c.maxLocals = 3 := hml0
  have hown : s.vm.findClass "com/example/enact/enact/Dialect$Standing" = some m.cls := findClass_of_methodNamed Bd.named
  have hnm := (name_of_methodNamed Bd.named Bd.method).1
  have X0 : Stand p l e ({ frames := 0, cells := 0, slots := 0, locals := 0 } : Room) s m #[(.int p0), (.int p1)] below meth c s₁ [] 0 0 := Stand.of_body Bd
  have e0 : s₁.heap = h0 := by rw [← hh, Bd.state]; rfl
  have N0 := Fr.nil n0
  change own_Go p e below s (Q_rm1 Z p0 p1 a_WAITING a_SETTLED a_IN_TRANSACTION a_SHUT_OUT h0 n0) ({ frames := 0, cells := 0, slots := 0, locals := 0 } : Room).cells ({ frames := 0, cells := 0, slots := 0, locals := 0 } : Room).slots _
  refine own_go (S' := (s₁.setTop (mkF m 0 #[.val (.int p0), .val (.int p1), .unset] []))) (fun _ k => castTop (ef_rm1 m p0 p1) k) ?_
  refine own_go (S' := (s₁.setTop (mkF m 1 #[.val (.int p0), .val (.int p1), .unset] [(.int p0)]))) (fun _ k => XS.iloadN X0.here hx rfl (hb hby d1_0) rfl k) ?_
  by_cases b1_1 : p0 = (0 : Int32)
  · refine own_go (S' := (s₁.setTop (mkF m 22 #[.val (.int p0), .val (.int p1), .unset] [(.int p1)]))) (fun _ k => XS.ifYes X0.here hx rfl (pc0 := 1) (pc' := 21) rfl (hb hby d1_1) rfl ((if0 _ _).trans (teq b1_1).1) (by decide) (by decide) (XS.iloadN X0.here hx rfl (hb hby d1_21) rfl k)) ?_
    by_cases b22_2 : p1 = (0 : Int32)
    · refine own_go (S' := (s₁.setTop (mkF m 31 #[.val (.int p0), .val (.int p1), .unset] []))) (fun _ k => XS.ifYes X0.here hx rfl (pc0 := 22) (pc' := 31) rfl (hb hby d1_22) rfl ((if0 _ _).trans (teq b22_2).1) (by decide) (by decide) k) ?_
      obtain ⟨T3, X3, e3, st3⟩ := getS2 X0 hx hZ hown (host := "") (Or.inl (hw _ (List.mem_of_getElem? (i := 4) rfl))) Via.refl e0 S_WAITING (g := (mkF m 31 #[.val (.int p0), .val (.int p1), .unset] [])) rfl (hb hby d1_31)
      refine own_go (S' := (T3.setTop (mkF m 34 #[.val (.int p0), .val (.int p1), .unset] [(.ref a_WAITING)]))) st3 ?_
      refine own_go (S' := (T3.setTop (mkF m 36 #[.val (.int p0), .val (.int p1), .val (.ref a_WAITING)] [(.ref a_WAITING)]))) (fun _ k => XS.astoreN X3.here hx rfl (hb hby d1_34) rfl rfl (l' := #[.val (.int p0), .val (.int p1), .val (.ref a_WAITING)]) rfl (XS.aloadN X3.here hx rfl (hb hby d1_35) rfl rfl k)) ?_
      refine own_retA X3 hx hlk (rfl) rfl Bd.returns (hb hby d1_36) (by decide) (by decide) ?_
      exact ⟨by simp only [own_of, b1_1, b22_2, if_true, if_false], e3, rfl⟩
    · refine own_go (S' := (s₁.setTop (mkF m 25 #[.val (.int p0), .val (.int p1), .unset] []))) (fun _ k => XS.ifNo X0.here hx rfl (hb hby d1_22) rfl ((if0 _ _).trans (feq b22_2).1) k) ?_
      obtain ⟨T4, X4, e4, st4⟩ := getS2 X0 hx hZ hown (host := "") (Or.inl (hw _ (List.mem_of_getElem? (i := 22) rfl))) Via.refl e0 S_IN_TRANSACTION (g := (mkF m 25 #[.val (.int p0), .val (.int p1), .unset] [])) rfl (hb hby d1_25)
      refine own_go (S' := (T4.setTop (mkF m 28 #[.val (.int p0), .val (.int p1), .unset] [(.ref a_IN_TRANSACTION)]))) st4 ?_
      refine own_go (S' := (T4.setTop (mkF m 36 #[.val (.int p0), .val (.int p1), .val (.ref a_IN_TRANSACTION)] [(.ref a_IN_TRANSACTION)]))) (fun _ k => XS.goto X4.here hx rfl (pc0 := 28) (pc' := 34) rfl (hb hby d1_28) (by decide) (by decide) (XS.astoreN X4.here hx rfl (hb hby d1_34) rfl rfl (l' := #[.val (.int p0), .val (.int p1), .val (.ref a_IN_TRANSACTION)]) rfl (XS.aloadN X4.here hx rfl (hb hby d1_35) rfl rfl k))) ?_
      refine own_retA X4 hx hlk (rfl) rfl Bd.returns (hb hby d1_36) (by decide) (by decide) ?_
      exact ⟨by simp only [own_of, b1_1, b22_2, if_true, if_false], e4, rfl⟩
  · refine own_go (S' := (s₁.setTop (mkF m 5 #[.val (.int p0), .val (.int p1), .unset] [(.int p1)]))) (fun _ k => XS.ifNo X0.here hx rfl (hb hby d1_1) rfl ((if0 _ _).trans (feq b1_1).1) (XS.iloadN X0.here hx rfl (hb hby d1_4) rfl k)) ?_
    by_cases b5_5 : p1 = (0 : Int32)
    · refine own_go (S' := (s₁.setTop (mkF m 14 #[.val (.int p0), .val (.int p1), .unset] []))) (fun _ k => XS.ifYes X0.here hx rfl (pc0 := 5) (pc' := 14) rfl (hb hby d1_5) rfl ((if0 _ _).trans (teq b5_5).1) (by decide) (by decide) k) ?_
      obtain ⟨T6, X6, e6, st6⟩ := getS2 X0 hx hZ hown (host := "") (Or.inl (hw _ (List.mem_of_getElem? (i := 24) rfl))) Via.refl e0 S_SHUT_OUT (g := (mkF m 14 #[.val (.int p0), .val (.int p1), .unset] [])) rfl (hb hby d1_14)
      refine own_go (S' := (T6.setTop (mkF m 17 #[.val (.int p0), .val (.int p1), .unset] [(.ref a_SHUT_OUT)]))) st6 ?_
      refine own_go (S' := (T6.setTop (mkF m 36 #[.val (.int p0), .val (.int p1), .val (.ref a_SHUT_OUT)] [(.ref a_SHUT_OUT)]))) (fun _ k => XS.astoreN X6.here hx rfl (hb hby d1_17) rfl rfl (l' := #[.val (.int p0), .val (.int p1), .val (.ref a_SHUT_OUT)]) rfl (XS.goto X6.here hx rfl (pc0 := 18) (pc' := 35) rfl (hb hby d1_18) (by decide) (by decide) (XS.aloadN X6.here hx rfl (hb hby d1_35) rfl rfl k))) ?_
      refine own_retA X6 hx hlk (rfl) rfl Bd.returns (hb hby d1_36) (by decide) (by decide) ?_
      exact ⟨by simp only [own_of, b1_1, b5_5, if_true, if_false], e6, rfl⟩
    · refine own_go (S' := (s₁.setTop (mkF m 8 #[.val (.int p0), .val (.int p1), .unset] []))) (fun _ k => XS.ifNo X0.here hx rfl (hb hby d1_5) rfl ((if0 _ _).trans (feq b5_5).1) k) ?_
      obtain ⟨T7, X7, e7, st7⟩ := getS2 X0 hx hZ hown (host := "") (Or.inl (hw _ (List.mem_of_getElem? (i := 20) rfl))) Via.refl e0 S_SETTLED (g := (mkF m 8 #[.val (.int p0), .val (.int p1), .unset] [])) rfl (hb hby d1_8)
      refine own_go (S' := (T7.setTop (mkF m 11 #[.val (.int p0), .val (.int p1), .unset] [(.ref a_SETTLED)]))) st7 ?_
      refine own_go (S' := (T7.setTop (mkF m 36 #[.val (.int p0), .val (.int p1), .val (.ref a_SETTLED)] [(.ref a_SETTLED)]))) (fun _ k => XS.goto X7.here hx rfl (pc0 := 11) (pc' := 17) rfl (hb hby d1_11) (by decide) (by decide) (XS.astoreN X7.here hx rfl (hb hby d1_17) rfl rfl (l' := #[.val (.int p0), .val (.int p1), .val (.ref a_SETTLED)]) rfl (XS.goto X7.here hx rfl (pc0 := 18) (pc' := 35) rfl (hb hby d1_18) (by decide) (by decide) (XS.aloadN X7.here hx rfl (hb hby d1_35) rfl rfl k)))) ?_
      refine own_retA X7 hx hlk (rfl) rfl Bd.returns (hb hby d1_36) (by decide) (by decide) ?_
      exact ⟨by simp only [own_of, b1_1, b5_5, if_true, if_false], e7, rfl⟩
theorem d2_0 : decode prog_4_method_5_code 0 = .ok (.aload_n 0, 1) := by decide +kernel
theorem d2_1 : decode prog_4_method_5_code 1 = .ok (.getfield 35, 3) := by decide +kernel
theorem d2_4 : decode prog_4_method_5_code 4 = .ok (.ireturn, 1) := by decide +kernel
theorem ef_rm2 (m : MethodId) (x0 : Addr) : entryFrame m #[(.ref x0)] 1 = mkF m 0 #[.val (.ref x0)] [] := by first | (simp [entryFrame, mkF, argsToLocals, Value.category]; done) | rfl
def Q_rm2 (Z : State) (b0 : Addr) (k : Int32) (h0 : Heap) (n0 : Nat) (v : Option Value) (h : Heap) (L : List Loc) : Prop := v = some (.int (nar .boolean k)) ∧ h = h0 ∧ L = []
set_option maxRecDepth 65536 in
set_option maxHeartbeats 40000000 in
theorem rm2 (l : Launch) (Z : State) (a0 : Array Value) (hw : ∀ d ∈ tables_1, d.before a0 Z = true) (ws : List Jvm.Cond) (b0 : Addr) (k : Int32) (h0 : Heap) (n0 : Nat) (Z0 : n0 ≤ h0.size) (F : Fld Z h0 b0 "com/example/enact/enact/Dialect$Standing" "settled" "Z" (.int k)) :
    MetFree l (⟨"com/example/enact/enact/Dialect$Standing", "settled", "()Z"⟩ : MethodName) (head1 (Jvm.Cond.code (⟨"com/example/enact/enact/Dialect$Standing", "settled", "()Z"⟩ : MethodName) prog_4_method_5_code 1 (some .boolean) :: ws) ({ frames := 0, cells := 0, slots := 0, locals := 0 } : Room)) (fun a U => a = #[(.ref b0)] ∧ Z.Warmed39 U.vm ∧ U.heap = h0) (fun _ _ _ _ _ => True) (fun _ U o U' => ∃ v L, o = .returned v ∧ Q_rm2 Z b0 k h0 n0 v U'.heap L ∧ FrameEnd U o U' L ({ frames := 0, cells := 0, slots := 0, locals := 0 } : Room).cells ({ frames := 0, cells := 0, slots := 0, locals := 0 } : Room).slots) := by
  refine MetFree.of_bodySF (plainFor_of_name pn_17) hisR ?_
  intro p e s m args below meth c s₁ Bd hml0 hP hK
  obtain ⟨rfl, hZ, hh⟩ := hP
  have hx := Bd.exec
  have hby := Bd.bytes
  have hlk := Bd.notSynchronized
  have hml : c.maxLocals = 1 := hml0
  have hown : s.vm.findClass "com/example/enact/enact/Dialect$Standing" = some m.cls := findClass_of_methodNamed Bd.named
  have hnm := (name_of_methodNamed Bd.named Bd.method).1
  have X0 : Stand p l e ({ frames := 0, cells := 0, slots := 0, locals := 0 } : Room) s m #[(.ref b0)] below meth c s₁ [] 0 0 := Stand.of_body Bd
  have e0 : s₁.heap = h0 := by rw [← hh, Bd.state]; rfl
  have N0 := Fr.nil n0
  change own_Go p e below s (Q_rm2 Z b0 k h0 n0) ({ frames := 0, cells := 0, slots := 0, locals := 0 } : Room).cells ({ frames := 0, cells := 0, slots := 0, locals := 0 } : Room).slots _
  refine own_go (S' := (s₁.setTop (mkF m 0 #[.val (.ref b0)] []))) (fun _ k => castTop (ef_rm2 m b0) k) ?_
  refine own_go (S' := (s₁.setTop (mkF m 1 #[.val (.ref b0)] [(.ref b0)]))) (fun _ k => XS.aloadN X0.here hx rfl (hb hby d2_0) rfl rfl k) ?_
  obtain ⟨T1, X1, e1, st1⟩ := getF X0 hx hZ hown (host := "") (Or.inl (hw _ (List.mem_of_getElem? (i := 11) rfl))) Via.refl e0 F (g := (mkF m 1 #[.val (.ref b0)] [(.ref b0)])) rfl rfl (hb hby d2_1)
  refine own_go (S' := (T1.setTop (mkF m 4 #[.val (.ref b0)] [(.int k)]))) st1 ?_
  refine own_retN (t := .boolean) X1 hx hlk (by simp) Bd.returns (hb hby d2_4) (by decide) (by decide) ?_
  exact ⟨rfl, e1, rfl⟩
theorem d3_0 : decode prog_4_method_6_code 0 = .ok (.aload_n 0, 1) := by decide +kernel
theorem d3_1 : decode prog_4_method_6_code 1 = .ok (.getfield 39, 3) := by decide +kernel
theorem d3_4 : decode prog_4_method_6_code 4 = .ok (.ireturn, 1) := by decide +kernel
theorem ef_rm3 (m : MethodId) (x0 : Addr) : entryFrame m #[(.ref x0)] 1 = mkF m 0 #[.val (.ref x0)] [] := by first | (simp [entryFrame, mkF, argsToLocals, Value.category]; done) | rfl
def Q_rm3 (Z : State) (b0 : Addr) (k : Int32) (h0 : Heap) (n0 : Nat) (v : Option Value) (h : Heap) (L : List Loc) : Prop := v = some (.int (nar .boolean k)) ∧ h = h0 ∧ L = []
set_option maxRecDepth 65536 in
set_option maxHeartbeats 40000000 in
theorem rm3 (l : Launch) (Z : State) (a0 : Array Value) (hw : ∀ d ∈ tables_1, d.before a0 Z = true) (ws : List Jvm.Cond) (b0 : Addr) (k : Int32) (h0 : Heap) (n0 : Nat) (Z0 : n0 ≤ h0.size) (F : Fld Z h0 b0 "com/example/enact/enact/Dialect$Standing" "counts" "Z" (.int k)) :
    MetFree l (⟨"com/example/enact/enact/Dialect$Standing", "counts", "()Z"⟩ : MethodName) (head1 (Jvm.Cond.code (⟨"com/example/enact/enact/Dialect$Standing", "counts", "()Z"⟩ : MethodName) prog_4_method_6_code 1 (some .boolean) :: ws) ({ frames := 0, cells := 0, slots := 0, locals := 0 } : Room)) (fun a U => a = #[(.ref b0)] ∧ Z.Warmed39 U.vm ∧ U.heap = h0) (fun _ _ _ _ _ => True) (fun _ U o U' => ∃ v L, o = .returned v ∧ Q_rm3 Z b0 k h0 n0 v U'.heap L ∧ FrameEnd U o U' L ({ frames := 0, cells := 0, slots := 0, locals := 0 } : Room).cells ({ frames := 0, cells := 0, slots := 0, locals := 0 } : Room).slots) := by
  refine MetFree.of_bodySF (plainFor_of_name pn_17) hisR ?_
  intro p e s m args below meth c s₁ Bd hml0 hP hK
  obtain ⟨rfl, hZ, hh⟩ := hP
  have hx := Bd.exec
  have hby := Bd.bytes
  have hlk := Bd.notSynchronized
  have hml : c.maxLocals = 1 := hml0
  have hown : s.vm.findClass "com/example/enact/enact/Dialect$Standing" = some m.cls := findClass_of_methodNamed Bd.named
  have hnm := (name_of_methodNamed Bd.named Bd.method).1
  have X0 : Stand p l e ({ frames := 0, cells := 0, slots := 0, locals := 0 } : Room) s m #[(.ref b0)] below meth c s₁ [] 0 0 := Stand.of_body Bd
  have e0 : s₁.heap = h0 := by rw [← hh, Bd.state]; rfl
  have N0 := Fr.nil n0
  change own_Go p e below s (Q_rm3 Z b0 k h0 n0) ({ frames := 0, cells := 0, slots := 0, locals := 0 } : Room).cells ({ frames := 0, cells := 0, slots := 0, locals := 0 } : Room).slots _
  refine own_go (S' := (s₁.setTop (mkF m 0 #[.val (.ref b0)] []))) (fun _ k => castTop (ef_rm3 m b0) k) ?_
  refine own_go (S' := (s₁.setTop (mkF m 1 #[.val (.ref b0)] [(.ref b0)]))) (fun _ k => XS.aloadN X0.here hx rfl (hb hby d3_0) rfl rfl k) ?_
  obtain ⟨T1, X1, e1, st1⟩ := getF X0 hx hZ hown (host := "") (Or.inl (hw _ (List.mem_of_getElem? (i := 18) rfl))) Via.refl e0 F (g := (mkF m 1 #[.val (.ref b0)] [(.ref b0)])) rfl rfl (hb hby d3_1)
  refine own_go (S' := (T1.setTop (mkF m 4 #[.val (.ref b0)] [(.int k)]))) st1 ?_
  refine own_retN (t := .boolean) X1 hx hlk (by simp) Bd.returns (hb hby d3_4) (by decide) (by decide) ?_
  exact ⟨rfl, e1, rfl⟩
theorem pd_24 : parseMethodDescriptor "(ZZ)Lcom/example/enact/enact/Dialect$Standing;" = some ⟨[.boolean, .boolean], some (.object "com/example/enact/enact/Dialect$Standing")⟩ := by decide +kernel
theorem pd_25 : parseMethodDescriptor "()Z" = some ⟨[], some .boolean⟩ := by decide +kernel
theorem pn_26 : plainName "com/example/enact/enact/StandingOfPinLaw" = true := by first | (simp [plainName, overriddenIn]; done) | decide +kernel
theorem ef_rm0 (m : MethodId) (x0 : Int32) : entryFrame m #[(.int x0)] maxLocals = mkF m 0 #[.val (.int x0), .unset, .unset, .unset] [] := by first | (simp [entryFrame, mkF, argsToLocals, Value.category, maxLocals]; done) | rfl
def Q_rm0 (Z : State) (i0 : Int32) (a_WAITING a_SETTLED a_IN_TRANSACTION a_SHUT_OUT : Addr) (h0 : Heap) (n0 : Nat) (v : Option Value) (h : Heap) (L : List Loc) : Prop := v = some (.int 1) ∧ Fr n0 L
set_option maxRecDepth 65536 in
set_option maxHeartbeats 40000000 in
theorem rm0 (l : Launch) (Z : State) (a0 : Array Value) (hw : ∀ d ∈ tables_1, d.before a0 Z = true) (ws : List Jvm.Cond) (i0 : Int32) (a_WAITING a_SETTLED a_IN_TRANSACTION a_SHUT_OUT : Addr) (h0 : Heap) (n0 : Nat) (Z0 : n0 ≤ h0.size) (S_WAITING : Sta Z h0 "com/example/enact/enact/Dialect$Standing" "WAITING" "Lcom/example/enact/enact/Dialect$Standing;" (.ref a_WAITING)) (S_SETTLED : Sta Z h0 "com/example/enact/enact/Dialect$Standing" "SETTLED" "Lcom/example/enact/enact/Dialect$Standing;" (.ref a_SETTLED)) (S_IN_TRANSACTION : Sta Z h0 "com/example/enact/enact/Dialect$Standing" "IN_TRANSACTION" "Lcom/example/enact/enact/Dialect$Standing;" (.ref a_IN_TRANSACTION)) (S_SHUT_OUT : Sta Z h0 "com/example/enact/enact/Dialect$Standing" "SHUT_OUT" "Lcom/example/enact/enact/Dialect$Standing;" (.ref a_SHUT_OUT)) (E_WAITING : Exa Z h0 a_WAITING "com/example/enact/enact/Dialect$Standing") (E_SETTLED : Exa Z h0 a_SETTLED "com/example/enact/enact/Dialect$Standing") (E_IN_TRANSACTION : Exa Z h0 a_IN_TRANSACTION "com/example/enact/enact/Dialect$Standing") (E_SHUT_OUT : Exa Z h0 a_SHUT_OUT "com/example/enact/enact/Dialect$Standing") (F_WAITING_settled : Fld Z h0 a_WAITING "com/example/enact/enact/Dialect$Standing" "settled" "Z" (.int (0 : Int32))) (F_WAITING_counts : Fld Z h0 a_WAITING "com/example/enact/enact/Dialect$Standing" "counts" "Z" (.int (0 : Int32))) (F_SETTLED_settled : Fld Z h0 a_SETTLED "com/example/enact/enact/Dialect$Standing" "settled" "Z" (.int (1 : Int32))) (F_SETTLED_counts : Fld Z h0 a_SETTLED "com/example/enact/enact/Dialect$Standing" "counts" "Z" (.int (1 : Int32))) (F_IN_TRANSACTION_settled : Fld Z h0 a_IN_TRANSACTION "com/example/enact/enact/Dialect$Standing" "settled" "Z" (.int (0 : Int32))) (F_IN_TRANSACTION_counts : Fld Z h0 a_IN_TRANSACTION "com/example/enact/enact/Dialect$Standing" "counts" "Z" (.int (1 : Int32))) (F_SHUT_OUT_settled : Fld Z h0 a_SHUT_OUT "com/example/enact/enact/Dialect$Standing" "settled" "Z" (.int (1 : Int32))) (F_SHUT_OUT_counts : Fld Z h0 a_SHUT_OUT "com/example/enact/enact/Dialect$Standing" "counts" "Z" (.int (0 : Int32))) :
    MetFree l x (head1 (Jvm.Cond.code x code maxLocals ret :: ws) room_1) (fun a U => a = #[(.int i0)] ∧ Z.Warmed39 U.vm ∧ U.heap = h0) (fun _ _ _ _ _ => True) (fun _ U o U' => ∃ v L, o = .returned v ∧ Q_rm0 Z i0 a_WAITING a_SETTLED a_IN_TRANSACTION a_SHUT_OUT h0 n0 v U'.heap L ∧ FrameEnd U o U' L room_1.cells room_1.slots) := by
  refine MetFree.of_bodySF (plainFor_of_name pn_26) hisR ?_
  intro p e s m args below meth c s₁ Bd hml0 hP hK
  obtain ⟨rfl, hZ, hh⟩ := hP
  have hx := Bd.exec
  have hby := Bd.bytes
  have hlk := Bd.notSynchronized
  have hml : c.maxLocals = 4 := hml0
  have hown : s.vm.findClass "com/example/enact/enact/StandingOfPinLaw" = some m.cls := findClass_of_methodNamed Bd.named
  have hnm := (name_of_methodNamed Bd.named Bd.method).1
  have X0 : Stand p l e room_1 s m #[(.int i0)] below meth c s₁ [] 0 0 := Stand.of_body Bd
  have e0 : s₁.heap = h0 := by rw [← hh, Bd.state]; rfl
  have N0 := Fr.nil n0
  change own_Go p e below s (Q_rm0 Z i0 a_WAITING a_SETTLED a_IN_TRANSACTION a_SHUT_OUT h0 n0) room_1.cells room_1.slots _
  refine own_go (S' := (s₁.setTop (mkF m 0 #[.val (.int i0), .unset, .unset, .unset] []))) (fun _ k => castTop (ef_rm0 m i0) k) ?_
  refine own_go (S' := (s₁.setTop (mkF m 3 #[.val (.int i0), .unset, .unset, .unset] [(.int (i0 &&& (1 : Int32)))]))) (fun _ k => XS.iloadN X0.here hx rfl (hb hby at_0) rfl (XS.iconst X0.here hx rfl (hb hby at_1) (XS.iand X0.here hx rfl (hb hby at_2) rfl k))) ?_
  by_cases k0 : (i0 &&& (1 : Int32)) = (0 : Int32)
  · refine own_go (S' := (s₁.setTop (mkF m 15 #[.val (.int i0), .val (.int (0 : Int32)), .unset, .unset] [(.int (i0 &&& (2 : Int32)))]))) (fun _ k => XS.ifYes X0.here hx rfl (pc0 := 3) (pc' := 10) rfl (hb hby at_3) rfl ((if0 _ _).trans (teq k0).1) (by decide) (by decide) (XS.iconst X0.here hx rfl (hb hby at_10) (XS.istoreN X0.here hx rfl (hb hby at_11) rfl (l' := #[.val (.int i0), .val (.int (0 : Int32)), .unset, .unset]) rfl (XS.iloadN X0.here hx rfl (hb hby at_12) rfl (XS.iconst X0.here hx rfl (hb hby at_13) (XS.iand X0.here hx rfl (hb hby at_14) rfl k)))))) ?_
    by_cases k1 : (i0 &&& (2 : Int32)) = (0 : Int32)
    · refine own_go (S' := (s₁.setTop (mkF m 26 #[.val (.int i0), .val (.int (0 : Int32)), .val (.int (0 : Int32)), .unset] [(.int (0 : Int32)), (.int (0 : Int32))]))) (fun _ k => XS.ifYes X0.here hx rfl (pc0 := 15) (pc' := 22) rfl (hb hby at_15) rfl ((if0 _ _).trans (teq k1).1) (by decide) (by decide) (XS.iconst X0.here hx rfl (hb hby at_22) (XS.istoreN X0.here hx rfl (hb hby at_23) rfl (l' := #[.val (.int i0), .val (.int (0 : Int32)), .val (.int (0 : Int32)), .unset]) rfl (XS.iloadN X0.here hx rfl (hb hby at_24) rfl (XS.iloadN X0.here hx rfl (hb hby at_25) rfl k))))) ?_
      obtain ⟨v1, _, ⟨T1, L1, k1, n1⟩, -, X1, ⟨Lc1, hQ1, l1, y1, z1⟩, st1⟩ := Jvm.LawKit.callS X0 hx (y := (⟨"com/example/enact/enact/Dialect$Standing", "of", "(ZZ)Lcom/example/enact/enact/Dialect$Standing;"⟩ : MethodName)) hown (mvT hZ (hw _ (List.mem_of_getElem? (i := 0) rfl))) (mvT hZ (hw _ (List.mem_of_getElem? (i := 1) rfl))) (mvT hZ (hw _ (List.mem_of_getElem? (i := 2) rfl))) (mvT hZ (hw _ (List.mem_of_getElem? (i := 3) rfl))) (by decide) (backOf (W := 0) (rm1 l Z a0 hw [] (0 : Int32) (0 : Int32) a_WAITING a_SETTLED a_IN_TRANSACTION a_SHUT_OUT h0 n0 Z0 S_WAITING S_SETTLED S_IN_TRANSACTION S_SHUT_OUT) hZ (hw _ (List.mem_of_getElem? (i := 3) rfl)) (hw _ (List.mem_of_getElem? (i := 2) rfl)) (by decide) (by decide)) (g := (mkF m 26 #[.val (.int i0), .val (.int (0 : Int32)), .val (.int (0 : Int32)), .unset] [(.int (0 : Int32)), (.int (0 : Int32))])) rfl (by rw [hml]; rfl) (argsL := [(.int (0 : Int32)), (.int (0 : Int32))]) (rest := []) (lenOf pd_24 rfl) rfl (by show 2 * 0 + _ ≤ _; exact Nat.le_of_eq rfl) (hb hby at_26) (fun _ _ => ⟨rfl, e0, (by decide : 0 + 0 ≤ _), (by decide : 0 + 0 ≤ _)⟩)
      dsimp only [Pt.U, Pt.locs, Pt.cells, Pt.slots] at X1 l1 y1 z1 st1 hQ1
      subst l1 y1 z1
      obtain ⟨hv1, eh1, rfl⟩ := hQ1
      rw [show own_of (0 : Int32) (0 : Int32) a_WAITING a_SETTLED a_IN_TRANSACTION a_SHUT_OUT = a_WAITING from by first | rfl | (simp [own_of]; done) | decide] at hv1
      subst hv1
      refine own_go (S' := (T1.setTop (mkF m 29 #[.val (.int i0), .val (.int (0 : Int32)), .val (.int (0 : Int32)), .unset] [(.ref a_WAITING)]))) st1 ?_
      refine own_go (S' := (T1.setTop (mkF m 35 #[.val (.int i0), .val (.int (0 : Int32)), .val (.int (0 : Int32)), .val (.ref a_WAITING)] [(.ref a_WAITING)]))) (fun _ k => XS.astoreN X1.here hx rfl (hb hby at_29) rfl rfl (l' := #[.val (.int i0), .val (.int (0 : Int32)), .val (.int (0 : Int32)), .val (.ref a_WAITING)]) rfl (XS.aloadN X1.here hx rfl (hb hby at_30) rfl rfl (XS.ifnullNo X1.here hx rfl (hb hby at_31) rfl (XS.aloadN X1.here hx rfl (hb hby at_34) rfl rfl k)))) ?_
      obtain ⟨cq2, kq2, q2a, q2b, q2c⟩ := isOf hZ eh1 E_WAITING
      obtain ⟨v2, _, ⟨T2, L2, k2, n2⟩, -, X2, ⟨Lc2, hQ2, l2, y2, z2⟩, st2⟩ := X1.virtualBack hx (y := (⟨"com/example/enact/enact/Dialect$Standing", "settled", "()Z"⟩ : MethodName)) (z := (⟨"com/example/enact/enact/Dialect$Standing", "settled", "()Z"⟩ : MethodName)) hown (mvT hZ (hw _ (List.mem_of_getElem? (i := 6) rfl))) (mvT hZ (hw _ (List.mem_of_getElem? (i := 7) rfl))) (notFace_of_selects (args := #[]) (mvT hZ (hw _ (List.mem_of_getElem? (i := 9) rfl)))) (mvT hZ (hw _ (List.mem_of_getElem? (i := 9) rfl))) (mvT hZ (hw _ (List.mem_of_getElem? (i := 8) rfl))) (by decide) (backOf (W := 0) (rm2 l Z a0 hw [] a_WAITING (0 : Int32) h0 n0 Z0 F_WAITING_settled) hZ (hw _ (List.mem_of_getElem? (i := 10) rfl)) (hw _ (List.mem_of_getElem? (i := 2) rfl)) (by decide) (by decide)) q2a q2c (g := (mkF m 35 #[.val (.int i0), .val (.int (0 : Int32)), .val (.int (0 : Int32)), .val (.ref a_WAITING)] [(.ref a_WAITING)])) rfl (by rw [hml]; rfl) (Steps.refl _) (argsL := []) (rest := []) (lenOf pd_25 rfl) rfl (by show 2 * 0 + _ ≤ _; exact Nat.le_of_eq rfl) (hb hby at_35) (fun _ _ => ⟨rfl, eh1, (by decide : 0 + 0 ≤ _), (by decide : 0 + 0 ≤ _)⟩)
      dsimp only [Pt.U, Pt.locs, Pt.cells, Pt.slots] at X2 l2 y2 z2 st2 hQ2
      subst l2 y2 z2
      obtain ⟨rfl, eh2, rfl⟩ := hQ2
      refine own_goT (S' := (T2.setTop (mkF m 38 #[.val (.int i0), .val (.int (0 : Int32)), .val (.int (0 : Int32)), .val (.ref a_WAITING)] [(.int (nar .boolean (0 : Int32)))]))) st2 ?_
      refine own_go (S' := (T2.setTop (mkF m 43 #[.val (.int i0), .val (.int (0 : Int32)), .val (.int (0 : Int32)), .val (.ref a_WAITING)] [(.ref a_WAITING)]))) (fun _ k => XS.iloadN X2.here hx rfl (hb hby at_38) rfl (XS.icmpNo X2.here hx rfl (hb hby at_39) rfl (teq (by decide : nar .boolean (0 : Int32) = (0 : Int32))).2 (XS.aloadN X2.here hx rfl (hb hby at_42) rfl rfl k))) ?_
      obtain ⟨cq3, kq3, q3a, q3b, q3c⟩ := isOf hZ eh2 E_WAITING
      obtain ⟨v3, _, ⟨T3, L3, k3, n3⟩, -, X3, ⟨Lc3, hQ3, l3, y3, z3⟩, st3⟩ := X2.virtualBack hx (y := (⟨"com/example/enact/enact/Dialect$Standing", "counts", "()Z"⟩ : MethodName)) (z := (⟨"com/example/enact/enact/Dialect$Standing", "counts", "()Z"⟩ : MethodName)) hown (mvT hZ (hw _ (List.mem_of_getElem? (i := 13) rfl))) (mvT hZ (hw _ (List.mem_of_getElem? (i := 14) rfl))) (notFace_of_selects (args := #[]) (mvT hZ (hw _ (List.mem_of_getElem? (i := 16) rfl)))) (mvT hZ (hw _ (List.mem_of_getElem? (i := 16) rfl))) (mvT hZ (hw _ (List.mem_of_getElem? (i := 15) rfl))) (by decide) (backOf (W := 0) (rm3 l Z a0 hw [] a_WAITING (0 : Int32) h0 n0 Z0 F_WAITING_counts) hZ (hw _ (List.mem_of_getElem? (i := 17) rfl)) (hw _ (List.mem_of_getElem? (i := 2) rfl)) (by decide) (by decide)) q3a q3c (g := (mkF m 43 #[.val (.int i0), .val (.int (0 : Int32)), .val (.int (0 : Int32)), .val (.ref a_WAITING)] [(.ref a_WAITING)])) rfl (by rw [hml]; rfl) (Steps.refl _) (argsL := []) (rest := []) (lenOf pd_25 rfl) rfl (by show 2 * 0 + _ ≤ _; exact Nat.le_of_eq rfl) (hb hby at_43) (fun _ _ => ⟨rfl, eh2, (by decide : 0 + 0 ≤ _), (by decide : 0 + 0 ≤ _)⟩)
      dsimp only [Pt.U, Pt.locs, Pt.cells, Pt.slots] at X3 l3 y3 z3 st3 hQ3
      subst l3 y3 z3
      obtain ⟨rfl, eh3, rfl⟩ := hQ3
      refine own_goT (S' := (T3.setTop (mkF m 46 #[.val (.int i0), .val (.int (0 : Int32)), .val (.int (0 : Int32)), .val (.ref a_WAITING)] [(.int (nar .boolean (0 : Int32)))]))) st3 ?_
      refine own_go (S' := (T3.setTop (mkF m 55 #[.val (.int i0), .val (.int (0 : Int32)), .val (.int (0 : Int32)), .val (.ref a_WAITING)] [(.int (1 : Int32))]))) (fun _ k => XS.iloadN X3.here hx rfl (hb hby at_46) rfl (XS.icmpNo X3.here hx rfl (hb hby at_47) rfl (teq (by decide : nar .boolean (0 : Int32) = (0 : Int32))).2 (XS.iconst X3.here hx rfl (hb hby at_50) (XS.goto X3.here hx rfl (pc0 := 51) (pc' := 55) rfl (hb hby at_51) (by decide) (by decide) k)))) ?_
      refine own_retN (t := .boolean) X3 hx hlk (by simp) Bd.returns (hb hby at_55) (by decide) (by decide) ?_
      exact ⟨rfl, by simpa using N0⟩
    · refine own_go (S' := (s₁.setTop (mkF m 26 #[.val (.int i0), .val (.int (0 : Int32)), .val (.int (1 : Int32)), .unset] [(.int (1 : Int32)), (.int (0 : Int32))]))) (fun _ k => XS.ifNo X0.here hx rfl (hb hby at_15) rfl ((if0 _ _).trans (feq k1).1) (XS.iconst X0.here hx rfl (hb hby at_18) (XS.goto X0.here hx rfl (pc0 := 19) (pc' := 23) rfl (hb hby at_19) (by decide) (by decide) (XS.istoreN X0.here hx rfl (hb hby at_23) rfl (l' := #[.val (.int i0), .val (.int (0 : Int32)), .val (.int (1 : Int32)), .unset]) rfl (XS.iloadN X0.here hx rfl (hb hby at_24) rfl (XS.iloadN X0.here hx rfl (hb hby at_25) rfl k)))))) ?_
      obtain ⟨v4, _, ⟨T4, L4, k4, n4⟩, -, X4, ⟨Lc4, hQ4, l4, y4, z4⟩, st4⟩ := Jvm.LawKit.callS X0 hx (y := (⟨"com/example/enact/enact/Dialect$Standing", "of", "(ZZ)Lcom/example/enact/enact/Dialect$Standing;"⟩ : MethodName)) hown (mvT hZ (hw _ (List.mem_of_getElem? (i := 0) rfl))) (mvT hZ (hw _ (List.mem_of_getElem? (i := 1) rfl))) (mvT hZ (hw _ (List.mem_of_getElem? (i := 2) rfl))) (mvT hZ (hw _ (List.mem_of_getElem? (i := 3) rfl))) (by decide) (backOf (W := 0) (rm1 l Z a0 hw [] (0 : Int32) (1 : Int32) a_WAITING a_SETTLED a_IN_TRANSACTION a_SHUT_OUT h0 n0 Z0 S_WAITING S_SETTLED S_IN_TRANSACTION S_SHUT_OUT) hZ (hw _ (List.mem_of_getElem? (i := 3) rfl)) (hw _ (List.mem_of_getElem? (i := 2) rfl)) (by decide) (by decide)) (g := (mkF m 26 #[.val (.int i0), .val (.int (0 : Int32)), .val (.int (1 : Int32)), .unset] [(.int (1 : Int32)), (.int (0 : Int32))])) rfl (by rw [hml]; rfl) (argsL := [(.int (0 : Int32)), (.int (1 : Int32))]) (rest := []) (lenOf pd_24 rfl) rfl (by show 2 * 0 + _ ≤ _; exact Nat.le_of_eq rfl) (hb hby at_26) (fun _ _ => ⟨rfl, e0, (by decide : 0 + 0 ≤ _), (by decide : 0 + 0 ≤ _)⟩)
      dsimp only [Pt.U, Pt.locs, Pt.cells, Pt.slots] at X4 l4 y4 z4 st4 hQ4
      subst l4 y4 z4
      obtain ⟨hv4, eh4, rfl⟩ := hQ4
      rw [show own_of (0 : Int32) (1 : Int32) a_WAITING a_SETTLED a_IN_TRANSACTION a_SHUT_OUT = a_IN_TRANSACTION from by first | rfl | (simp [own_of]; done) | decide] at hv4
      subst hv4
      refine own_go (S' := (T4.setTop (mkF m 29 #[.val (.int i0), .val (.int (0 : Int32)), .val (.int (1 : Int32)), .unset] [(.ref a_IN_TRANSACTION)]))) st4 ?_
      refine own_go (S' := (T4.setTop (mkF m 35 #[.val (.int i0), .val (.int (0 : Int32)), .val (.int (1 : Int32)), .val (.ref a_IN_TRANSACTION)] [(.ref a_IN_TRANSACTION)]))) (fun _ k => XS.astoreN X4.here hx rfl (hb hby at_29) rfl rfl (l' := #[.val (.int i0), .val (.int (0 : Int32)), .val (.int (1 : Int32)), .val (.ref a_IN_TRANSACTION)]) rfl (XS.aloadN X4.here hx rfl (hb hby at_30) rfl rfl (XS.ifnullNo X4.here hx rfl (hb hby at_31) rfl (XS.aloadN X4.here hx rfl (hb hby at_34) rfl rfl k)))) ?_
      obtain ⟨cq5, kq5, q5a, q5b, q5c⟩ := isOf hZ eh4 E_IN_TRANSACTION
      obtain ⟨v5, _, ⟨T5, L5, k5, n5⟩, -, X5, ⟨Lc5, hQ5, l5, y5, z5⟩, st5⟩ := X4.virtualBack hx (y := (⟨"com/example/enact/enact/Dialect$Standing", "settled", "()Z"⟩ : MethodName)) (z := (⟨"com/example/enact/enact/Dialect$Standing", "settled", "()Z"⟩ : MethodName)) hown (mvT hZ (hw _ (List.mem_of_getElem? (i := 6) rfl))) (mvT hZ (hw _ (List.mem_of_getElem? (i := 7) rfl))) (notFace_of_selects (args := #[]) (mvT hZ (hw _ (List.mem_of_getElem? (i := 9) rfl)))) (mvT hZ (hw _ (List.mem_of_getElem? (i := 9) rfl))) (mvT hZ (hw _ (List.mem_of_getElem? (i := 8) rfl))) (by decide) (backOf (W := 0) (rm2 l Z a0 hw [] a_IN_TRANSACTION (0 : Int32) h0 n0 Z0 F_IN_TRANSACTION_settled) hZ (hw _ (List.mem_of_getElem? (i := 10) rfl)) (hw _ (List.mem_of_getElem? (i := 2) rfl)) (by decide) (by decide)) q5a q5c (g := (mkF m 35 #[.val (.int i0), .val (.int (0 : Int32)), .val (.int (1 : Int32)), .val (.ref a_IN_TRANSACTION)] [(.ref a_IN_TRANSACTION)])) rfl (by rw [hml]; rfl) (Steps.refl _) (argsL := []) (rest := []) (lenOf pd_25 rfl) rfl (by show 2 * 0 + _ ≤ _; exact Nat.le_of_eq rfl) (hb hby at_35) (fun _ _ => ⟨rfl, eh4, (by decide : 0 + 0 ≤ _), (by decide : 0 + 0 ≤ _)⟩)
      dsimp only [Pt.U, Pt.locs, Pt.cells, Pt.slots] at X5 l5 y5 z5 st5 hQ5
      subst l5 y5 z5
      obtain ⟨rfl, eh5, rfl⟩ := hQ5
      refine own_goT (S' := (T5.setTop (mkF m 38 #[.val (.int i0), .val (.int (0 : Int32)), .val (.int (1 : Int32)), .val (.ref a_IN_TRANSACTION)] [(.int (nar .boolean (0 : Int32)))]))) st5 ?_
      refine own_go (S' := (T5.setTop (mkF m 43 #[.val (.int i0), .val (.int (0 : Int32)), .val (.int (1 : Int32)), .val (.ref a_IN_TRANSACTION)] [(.ref a_IN_TRANSACTION)]))) (fun _ k => XS.iloadN X5.here hx rfl (hb hby at_38) rfl (XS.icmpNo X5.here hx rfl (hb hby at_39) rfl (teq (by decide : nar .boolean (0 : Int32) = (0 : Int32))).2 (XS.aloadN X5.here hx rfl (hb hby at_42) rfl rfl k))) ?_
      obtain ⟨cq6, kq6, q6a, q6b, q6c⟩ := isOf hZ eh5 E_IN_TRANSACTION
      obtain ⟨v6, _, ⟨T6, L6, k6, n6⟩, -, X6, ⟨Lc6, hQ6, l6, y6, z6⟩, st6⟩ := X5.virtualBack hx (y := (⟨"com/example/enact/enact/Dialect$Standing", "counts", "()Z"⟩ : MethodName)) (z := (⟨"com/example/enact/enact/Dialect$Standing", "counts", "()Z"⟩ : MethodName)) hown (mvT hZ (hw _ (List.mem_of_getElem? (i := 13) rfl))) (mvT hZ (hw _ (List.mem_of_getElem? (i := 14) rfl))) (notFace_of_selects (args := #[]) (mvT hZ (hw _ (List.mem_of_getElem? (i := 16) rfl)))) (mvT hZ (hw _ (List.mem_of_getElem? (i := 16) rfl))) (mvT hZ (hw _ (List.mem_of_getElem? (i := 15) rfl))) (by decide) (backOf (W := 0) (rm3 l Z a0 hw [] a_IN_TRANSACTION (1 : Int32) h0 n0 Z0 F_IN_TRANSACTION_counts) hZ (hw _ (List.mem_of_getElem? (i := 17) rfl)) (hw _ (List.mem_of_getElem? (i := 2) rfl)) (by decide) (by decide)) q6a q6c (g := (mkF m 43 #[.val (.int i0), .val (.int (0 : Int32)), .val (.int (1 : Int32)), .val (.ref a_IN_TRANSACTION)] [(.ref a_IN_TRANSACTION)])) rfl (by rw [hml]; rfl) (Steps.refl _) (argsL := []) (rest := []) (lenOf pd_25 rfl) rfl (by show 2 * 0 + _ ≤ _; exact Nat.le_of_eq rfl) (hb hby at_43) (fun _ _ => ⟨rfl, eh5, (by decide : 0 + 0 ≤ _), (by decide : 0 + 0 ≤ _)⟩)
      dsimp only [Pt.U, Pt.locs, Pt.cells, Pt.slots] at X6 l6 y6 z6 st6 hQ6
      subst l6 y6 z6
      obtain ⟨rfl, eh6, rfl⟩ := hQ6
      refine own_goT (S' := (T6.setTop (mkF m 46 #[.val (.int i0), .val (.int (0 : Int32)), .val (.int (1 : Int32)), .val (.ref a_IN_TRANSACTION)] [(.int (nar .boolean (1 : Int32)))]))) st6 ?_
      refine own_go (S' := (T6.setTop (mkF m 55 #[.val (.int i0), .val (.int (0 : Int32)), .val (.int (1 : Int32)), .val (.ref a_IN_TRANSACTION)] [(.int (1 : Int32))]))) (fun _ k => XS.iloadN X6.here hx rfl (hb hby at_46) rfl (XS.icmpNo X6.here hx rfl (hb hby at_47) rfl (teq (by decide : nar .boolean (1 : Int32) = (1 : Int32))).2 (XS.iconst X6.here hx rfl (hb hby at_50) (XS.goto X6.here hx rfl (pc0 := 51) (pc' := 55) rfl (hb hby at_51) (by decide) (by decide) k)))) ?_
      refine own_retN (t := .boolean) X6 hx hlk (by simp) Bd.returns (hb hby at_55) (by decide) (by decide) ?_
      exact ⟨rfl, by simpa using N0⟩
  · refine own_go (S' := (s₁.setTop (mkF m 15 #[.val (.int i0), .val (.int (1 : Int32)), .unset, .unset] [(.int (i0 &&& (2 : Int32)))]))) (fun _ k => XS.ifNo X0.here hx rfl (hb hby at_3) rfl ((if0 _ _).trans (feq k0).1) (XS.iconst X0.here hx rfl (hb hby at_6) (XS.goto X0.here hx rfl (pc0 := 7) (pc' := 11) rfl (hb hby at_7) (by decide) (by decide) (XS.istoreN X0.here hx rfl (hb hby at_11) rfl (l' := #[.val (.int i0), .val (.int (1 : Int32)), .unset, .unset]) rfl (XS.iloadN X0.here hx rfl (hb hby at_12) rfl (XS.iconst X0.here hx rfl (hb hby at_13) (XS.iand X0.here hx rfl (hb hby at_14) rfl k))))))) ?_
    by_cases k1 : (i0 &&& (2 : Int32)) = (0 : Int32)
    · refine own_go (S' := (s₁.setTop (mkF m 26 #[.val (.int i0), .val (.int (1 : Int32)), .val (.int (0 : Int32)), .unset] [(.int (0 : Int32)), (.int (1 : Int32))]))) (fun _ k => XS.ifYes X0.here hx rfl (pc0 := 15) (pc' := 22) rfl (hb hby at_15) rfl ((if0 _ _).trans (teq k1).1) (by decide) (by decide) (XS.iconst X0.here hx rfl (hb hby at_22) (XS.istoreN X0.here hx rfl (hb hby at_23) rfl (l' := #[.val (.int i0), .val (.int (1 : Int32)), .val (.int (0 : Int32)), .unset]) rfl (XS.iloadN X0.here hx rfl (hb hby at_24) rfl (XS.iloadN X0.here hx rfl (hb hby at_25) rfl k))))) ?_
      obtain ⟨v7, _, ⟨T7, L7, k7, n7⟩, -, X7, ⟨Lc7, hQ7, l7, y7, z7⟩, st7⟩ := Jvm.LawKit.callS X0 hx (y := (⟨"com/example/enact/enact/Dialect$Standing", "of", "(ZZ)Lcom/example/enact/enact/Dialect$Standing;"⟩ : MethodName)) hown (mvT hZ (hw _ (List.mem_of_getElem? (i := 0) rfl))) (mvT hZ (hw _ (List.mem_of_getElem? (i := 1) rfl))) (mvT hZ (hw _ (List.mem_of_getElem? (i := 2) rfl))) (mvT hZ (hw _ (List.mem_of_getElem? (i := 3) rfl))) (by decide) (backOf (W := 0) (rm1 l Z a0 hw [] (1 : Int32) (0 : Int32) a_WAITING a_SETTLED a_IN_TRANSACTION a_SHUT_OUT h0 n0 Z0 S_WAITING S_SETTLED S_IN_TRANSACTION S_SHUT_OUT) hZ (hw _ (List.mem_of_getElem? (i := 3) rfl)) (hw _ (List.mem_of_getElem? (i := 2) rfl)) (by decide) (by decide)) (g := (mkF m 26 #[.val (.int i0), .val (.int (1 : Int32)), .val (.int (0 : Int32)), .unset] [(.int (0 : Int32)), (.int (1 : Int32))])) rfl (by rw [hml]; rfl) (argsL := [(.int (1 : Int32)), (.int (0 : Int32))]) (rest := []) (lenOf pd_24 rfl) rfl (by show 2 * 0 + _ ≤ _; exact Nat.le_of_eq rfl) (hb hby at_26) (fun _ _ => ⟨rfl, e0, (by decide : 0 + 0 ≤ _), (by decide : 0 + 0 ≤ _)⟩)
      dsimp only [Pt.U, Pt.locs, Pt.cells, Pt.slots] at X7 l7 y7 z7 st7 hQ7
      subst l7 y7 z7
      obtain ⟨hv7, eh7, rfl⟩ := hQ7
      rw [show own_of (1 : Int32) (0 : Int32) a_WAITING a_SETTLED a_IN_TRANSACTION a_SHUT_OUT = a_SHUT_OUT from by first | rfl | (simp [own_of]; done) | decide] at hv7
      subst hv7
      refine own_go (S' := (T7.setTop (mkF m 29 #[.val (.int i0), .val (.int (1 : Int32)), .val (.int (0 : Int32)), .unset] [(.ref a_SHUT_OUT)]))) st7 ?_
      refine own_go (S' := (T7.setTop (mkF m 35 #[.val (.int i0), .val (.int (1 : Int32)), .val (.int (0 : Int32)), .val (.ref a_SHUT_OUT)] [(.ref a_SHUT_OUT)]))) (fun _ k => XS.astoreN X7.here hx rfl (hb hby at_29) rfl rfl (l' := #[.val (.int i0), .val (.int (1 : Int32)), .val (.int (0 : Int32)), .val (.ref a_SHUT_OUT)]) rfl (XS.aloadN X7.here hx rfl (hb hby at_30) rfl rfl (XS.ifnullNo X7.here hx rfl (hb hby at_31) rfl (XS.aloadN X7.here hx rfl (hb hby at_34) rfl rfl k)))) ?_
      obtain ⟨cq8, kq8, q8a, q8b, q8c⟩ := isOf hZ eh7 E_SHUT_OUT
      obtain ⟨v8, _, ⟨T8, L8, k8, n8⟩, -, X8, ⟨Lc8, hQ8, l8, y8, z8⟩, st8⟩ := X7.virtualBack hx (y := (⟨"com/example/enact/enact/Dialect$Standing", "settled", "()Z"⟩ : MethodName)) (z := (⟨"com/example/enact/enact/Dialect$Standing", "settled", "()Z"⟩ : MethodName)) hown (mvT hZ (hw _ (List.mem_of_getElem? (i := 6) rfl))) (mvT hZ (hw _ (List.mem_of_getElem? (i := 7) rfl))) (notFace_of_selects (args := #[]) (mvT hZ (hw _ (List.mem_of_getElem? (i := 9) rfl)))) (mvT hZ (hw _ (List.mem_of_getElem? (i := 9) rfl))) (mvT hZ (hw _ (List.mem_of_getElem? (i := 8) rfl))) (by decide) (backOf (W := 0) (rm2 l Z a0 hw [] a_SHUT_OUT (1 : Int32) h0 n0 Z0 F_SHUT_OUT_settled) hZ (hw _ (List.mem_of_getElem? (i := 10) rfl)) (hw _ (List.mem_of_getElem? (i := 2) rfl)) (by decide) (by decide)) q8a q8c (g := (mkF m 35 #[.val (.int i0), .val (.int (1 : Int32)), .val (.int (0 : Int32)), .val (.ref a_SHUT_OUT)] [(.ref a_SHUT_OUT)])) rfl (by rw [hml]; rfl) (Steps.refl _) (argsL := []) (rest := []) (lenOf pd_25 rfl) rfl (by show 2 * 0 + _ ≤ _; exact Nat.le_of_eq rfl) (hb hby at_35) (fun _ _ => ⟨rfl, eh7, (by decide : 0 + 0 ≤ _), (by decide : 0 + 0 ≤ _)⟩)
      dsimp only [Pt.U, Pt.locs, Pt.cells, Pt.slots] at X8 l8 y8 z8 st8 hQ8
      subst l8 y8 z8
      obtain ⟨rfl, eh8, rfl⟩ := hQ8
      refine own_goT (S' := (T8.setTop (mkF m 38 #[.val (.int i0), .val (.int (1 : Int32)), .val (.int (0 : Int32)), .val (.ref a_SHUT_OUT)] [(.int (nar .boolean (1 : Int32)))]))) st8 ?_
      refine own_go (S' := (T8.setTop (mkF m 43 #[.val (.int i0), .val (.int (1 : Int32)), .val (.int (0 : Int32)), .val (.ref a_SHUT_OUT)] [(.ref a_SHUT_OUT)]))) (fun _ k => XS.iloadN X8.here hx rfl (hb hby at_38) rfl (XS.icmpNo X8.here hx rfl (hb hby at_39) rfl (teq (by decide : nar .boolean (1 : Int32) = (1 : Int32))).2 (XS.aloadN X8.here hx rfl (hb hby at_42) rfl rfl k))) ?_
      obtain ⟨cq9, kq9, q9a, q9b, q9c⟩ := isOf hZ eh8 E_SHUT_OUT
      obtain ⟨v9, _, ⟨T9, L9, k9, n9⟩, -, X9, ⟨Lc9, hQ9, l9, y9, z9⟩, st9⟩ := X8.virtualBack hx (y := (⟨"com/example/enact/enact/Dialect$Standing", "counts", "()Z"⟩ : MethodName)) (z := (⟨"com/example/enact/enact/Dialect$Standing", "counts", "()Z"⟩ : MethodName)) hown (mvT hZ (hw _ (List.mem_of_getElem? (i := 13) rfl))) (mvT hZ (hw _ (List.mem_of_getElem? (i := 14) rfl))) (notFace_of_selects (args := #[]) (mvT hZ (hw _ (List.mem_of_getElem? (i := 16) rfl)))) (mvT hZ (hw _ (List.mem_of_getElem? (i := 16) rfl))) (mvT hZ (hw _ (List.mem_of_getElem? (i := 15) rfl))) (by decide) (backOf (W := 0) (rm3 l Z a0 hw [] a_SHUT_OUT (0 : Int32) h0 n0 Z0 F_SHUT_OUT_counts) hZ (hw _ (List.mem_of_getElem? (i := 17) rfl)) (hw _ (List.mem_of_getElem? (i := 2) rfl)) (by decide) (by decide)) q9a q9c (g := (mkF m 43 #[.val (.int i0), .val (.int (1 : Int32)), .val (.int (0 : Int32)), .val (.ref a_SHUT_OUT)] [(.ref a_SHUT_OUT)])) rfl (by rw [hml]; rfl) (Steps.refl _) (argsL := []) (rest := []) (lenOf pd_25 rfl) rfl (by show 2 * 0 + _ ≤ _; exact Nat.le_of_eq rfl) (hb hby at_43) (fun _ _ => ⟨rfl, eh8, (by decide : 0 + 0 ≤ _), (by decide : 0 + 0 ≤ _)⟩)
      dsimp only [Pt.U, Pt.locs, Pt.cells, Pt.slots] at X9 l9 y9 z9 st9 hQ9
      subst l9 y9 z9
      obtain ⟨rfl, eh9, rfl⟩ := hQ9
      refine own_goT (S' := (T9.setTop (mkF m 46 #[.val (.int i0), .val (.int (1 : Int32)), .val (.int (0 : Int32)), .val (.ref a_SHUT_OUT)] [(.int (nar .boolean (0 : Int32)))]))) st9 ?_
      refine own_go (S' := (T9.setTop (mkF m 55 #[.val (.int i0), .val (.int (1 : Int32)), .val (.int (0 : Int32)), .val (.ref a_SHUT_OUT)] [(.int (1 : Int32))]))) (fun _ k => XS.iloadN X9.here hx rfl (hb hby at_46) rfl (XS.icmpNo X9.here hx rfl (hb hby at_47) rfl (teq (by decide : nar .boolean (0 : Int32) = (0 : Int32))).2 (XS.iconst X9.here hx rfl (hb hby at_50) (XS.goto X9.here hx rfl (pc0 := 51) (pc' := 55) rfl (hb hby at_51) (by decide) (by decide) k)))) ?_
      refine own_retN (t := .boolean) X9 hx hlk (by simp) Bd.returns (hb hby at_55) (by decide) (by decide) ?_
      exact ⟨rfl, by simpa using N0⟩
    · refine own_go (S' := (s₁.setTop (mkF m 26 #[.val (.int i0), .val (.int (1 : Int32)), .val (.int (1 : Int32)), .unset] [(.int (1 : Int32)), (.int (1 : Int32))]))) (fun _ k => XS.ifNo X0.here hx rfl (hb hby at_15) rfl ((if0 _ _).trans (feq k1).1) (XS.iconst X0.here hx rfl (hb hby at_18) (XS.goto X0.here hx rfl (pc0 := 19) (pc' := 23) rfl (hb hby at_19) (by decide) (by decide) (XS.istoreN X0.here hx rfl (hb hby at_23) rfl (l' := #[.val (.int i0), .val (.int (1 : Int32)), .val (.int (1 : Int32)), .unset]) rfl (XS.iloadN X0.here hx rfl (hb hby at_24) rfl (XS.iloadN X0.here hx rfl (hb hby at_25) rfl k)))))) ?_
      obtain ⟨v10, _, ⟨T10, L10, k10, n10⟩, -, X10, ⟨Lc10, hQ10, l10, y10, z10⟩, st10⟩ := Jvm.LawKit.callS X0 hx (y := (⟨"com/example/enact/enact/Dialect$Standing", "of", "(ZZ)Lcom/example/enact/enact/Dialect$Standing;"⟩ : MethodName)) hown (mvT hZ (hw _ (List.mem_of_getElem? (i := 0) rfl))) (mvT hZ (hw _ (List.mem_of_getElem? (i := 1) rfl))) (mvT hZ (hw _ (List.mem_of_getElem? (i := 2) rfl))) (mvT hZ (hw _ (List.mem_of_getElem? (i := 3) rfl))) (by decide) (backOf (W := 0) (rm1 l Z a0 hw [] (1 : Int32) (1 : Int32) a_WAITING a_SETTLED a_IN_TRANSACTION a_SHUT_OUT h0 n0 Z0 S_WAITING S_SETTLED S_IN_TRANSACTION S_SHUT_OUT) hZ (hw _ (List.mem_of_getElem? (i := 3) rfl)) (hw _ (List.mem_of_getElem? (i := 2) rfl)) (by decide) (by decide)) (g := (mkF m 26 #[.val (.int i0), .val (.int (1 : Int32)), .val (.int (1 : Int32)), .unset] [(.int (1 : Int32)), (.int (1 : Int32))])) rfl (by rw [hml]; rfl) (argsL := [(.int (1 : Int32)), (.int (1 : Int32))]) (rest := []) (lenOf pd_24 rfl) rfl (by show 2 * 0 + _ ≤ _; exact Nat.le_of_eq rfl) (hb hby at_26) (fun _ _ => ⟨rfl, e0, (by decide : 0 + 0 ≤ _), (by decide : 0 + 0 ≤ _)⟩)
      dsimp only [Pt.U, Pt.locs, Pt.cells, Pt.slots] at X10 l10 y10 z10 st10 hQ10
      subst l10 y10 z10
      obtain ⟨hv10, eh10, rfl⟩ := hQ10
      rw [show own_of (1 : Int32) (1 : Int32) a_WAITING a_SETTLED a_IN_TRANSACTION a_SHUT_OUT = a_SETTLED from by first | rfl | (simp [own_of]; done) | decide] at hv10
      subst hv10
      refine own_go (S' := (T10.setTop (mkF m 29 #[.val (.int i0), .val (.int (1 : Int32)), .val (.int (1 : Int32)), .unset] [(.ref a_SETTLED)]))) st10 ?_
      refine own_go (S' := (T10.setTop (mkF m 35 #[.val (.int i0), .val (.int (1 : Int32)), .val (.int (1 : Int32)), .val (.ref a_SETTLED)] [(.ref a_SETTLED)]))) (fun _ k => XS.astoreN X10.here hx rfl (hb hby at_29) rfl rfl (l' := #[.val (.int i0), .val (.int (1 : Int32)), .val (.int (1 : Int32)), .val (.ref a_SETTLED)]) rfl (XS.aloadN X10.here hx rfl (hb hby at_30) rfl rfl (XS.ifnullNo X10.here hx rfl (hb hby at_31) rfl (XS.aloadN X10.here hx rfl (hb hby at_34) rfl rfl k)))) ?_
      obtain ⟨cq11, kq11, q11a, q11b, q11c⟩ := isOf hZ eh10 E_SETTLED
      obtain ⟨v11, _, ⟨T11, L11, k11, n11⟩, -, X11, ⟨Lc11, hQ11, l11, y11, z11⟩, st11⟩ := X10.virtualBack hx (y := (⟨"com/example/enact/enact/Dialect$Standing", "settled", "()Z"⟩ : MethodName)) (z := (⟨"com/example/enact/enact/Dialect$Standing", "settled", "()Z"⟩ : MethodName)) hown (mvT hZ (hw _ (List.mem_of_getElem? (i := 6) rfl))) (mvT hZ (hw _ (List.mem_of_getElem? (i := 7) rfl))) (notFace_of_selects (args := #[]) (mvT hZ (hw _ (List.mem_of_getElem? (i := 9) rfl)))) (mvT hZ (hw _ (List.mem_of_getElem? (i := 9) rfl))) (mvT hZ (hw _ (List.mem_of_getElem? (i := 8) rfl))) (by decide) (backOf (W := 0) (rm2 l Z a0 hw [] a_SETTLED (1 : Int32) h0 n0 Z0 F_SETTLED_settled) hZ (hw _ (List.mem_of_getElem? (i := 10) rfl)) (hw _ (List.mem_of_getElem? (i := 2) rfl)) (by decide) (by decide)) q11a q11c (g := (mkF m 35 #[.val (.int i0), .val (.int (1 : Int32)), .val (.int (1 : Int32)), .val (.ref a_SETTLED)] [(.ref a_SETTLED)])) rfl (by rw [hml]; rfl) (Steps.refl _) (argsL := []) (rest := []) (lenOf pd_25 rfl) rfl (by show 2 * 0 + _ ≤ _; exact Nat.le_of_eq rfl) (hb hby at_35) (fun _ _ => ⟨rfl, eh10, (by decide : 0 + 0 ≤ _), (by decide : 0 + 0 ≤ _)⟩)
      dsimp only [Pt.U, Pt.locs, Pt.cells, Pt.slots] at X11 l11 y11 z11 st11 hQ11
      subst l11 y11 z11
      obtain ⟨rfl, eh11, rfl⟩ := hQ11
      refine own_goT (S' := (T11.setTop (mkF m 38 #[.val (.int i0), .val (.int (1 : Int32)), .val (.int (1 : Int32)), .val (.ref a_SETTLED)] [(.int (nar .boolean (1 : Int32)))]))) st11 ?_
      refine own_go (S' := (T11.setTop (mkF m 43 #[.val (.int i0), .val (.int (1 : Int32)), .val (.int (1 : Int32)), .val (.ref a_SETTLED)] [(.ref a_SETTLED)]))) (fun _ k => XS.iloadN X11.here hx rfl (hb hby at_38) rfl (XS.icmpNo X11.here hx rfl (hb hby at_39) rfl (teq (by decide : nar .boolean (1 : Int32) = (1 : Int32))).2 (XS.aloadN X11.here hx rfl (hb hby at_42) rfl rfl k))) ?_
      obtain ⟨cq12, kq12, q12a, q12b, q12c⟩ := isOf hZ eh11 E_SETTLED
      obtain ⟨v12, _, ⟨T12, L12, k12, n12⟩, -, X12, ⟨Lc12, hQ12, l12, y12, z12⟩, st12⟩ := X11.virtualBack hx (y := (⟨"com/example/enact/enact/Dialect$Standing", "counts", "()Z"⟩ : MethodName)) (z := (⟨"com/example/enact/enact/Dialect$Standing", "counts", "()Z"⟩ : MethodName)) hown (mvT hZ (hw _ (List.mem_of_getElem? (i := 13) rfl))) (mvT hZ (hw _ (List.mem_of_getElem? (i := 14) rfl))) (notFace_of_selects (args := #[]) (mvT hZ (hw _ (List.mem_of_getElem? (i := 16) rfl)))) (mvT hZ (hw _ (List.mem_of_getElem? (i := 16) rfl))) (mvT hZ (hw _ (List.mem_of_getElem? (i := 15) rfl))) (by decide) (backOf (W := 0) (rm3 l Z a0 hw [] a_SETTLED (1 : Int32) h0 n0 Z0 F_SETTLED_counts) hZ (hw _ (List.mem_of_getElem? (i := 17) rfl)) (hw _ (List.mem_of_getElem? (i := 2) rfl)) (by decide) (by decide)) q12a q12c (g := (mkF m 43 #[.val (.int i0), .val (.int (1 : Int32)), .val (.int (1 : Int32)), .val (.ref a_SETTLED)] [(.ref a_SETTLED)])) rfl (by rw [hml]; rfl) (Steps.refl _) (argsL := []) (rest := []) (lenOf pd_25 rfl) rfl (by show 2 * 0 + _ ≤ _; exact Nat.le_of_eq rfl) (hb hby at_43) (fun _ _ => ⟨rfl, eh11, (by decide : 0 + 0 ≤ _), (by decide : 0 + 0 ≤ _)⟩)
      dsimp only [Pt.U, Pt.locs, Pt.cells, Pt.slots] at X12 l12 y12 z12 st12 hQ12
      subst l12 y12 z12
      obtain ⟨rfl, eh12, rfl⟩ := hQ12
      refine own_goT (S' := (T12.setTop (mkF m 46 #[.val (.int i0), .val (.int (1 : Int32)), .val (.int (1 : Int32)), .val (.ref a_SETTLED)] [(.int (nar .boolean (1 : Int32)))]))) st12 ?_
      refine own_go (S' := (T12.setTop (mkF m 55 #[.val (.int i0), .val (.int (1 : Int32)), .val (.int (1 : Int32)), .val (.ref a_SETTLED)] [(.int (1 : Int32))]))) (fun _ k => XS.iloadN X12.here hx rfl (hb hby at_46) rfl (XS.icmpNo X12.here hx rfl (hb hby at_47) rfl (teq (by decide : nar .boolean (1 : Int32) = (1 : Int32))).2 (XS.iconst X12.here hx rfl (hb hby at_50) (XS.goto X12.here hx rfl (pc0 := 51) (pc' := 55) rfl (hb hby at_51) (by decide) (by decide) k)))) ?_
      refine own_retN (t := .boolean) X12 hx hlk (by simp) Bd.returns (hb hby at_55) (by decide) (by decide) ?_
      exact ⟨rfl, by simpa using N0⟩
set_option maxRecDepth 65536 in
set_option maxHeartbeats 40000000 in
theorem comes_1 {Post : Tables → Env → Array Value → State → Outcome → State → Prop} (hpost : ∀ tb e args s v u, (limb_1_1.after args s (.returned v) u = true ∧ limb_1_2.after args s (.returned v) u = true ∧ True) → FrameEnd s (.returned v) u (Jvm.fieldLocs frame_1_writes args s ++ Jvm.arrayLocs frame_1_arrays args s ++ Jvm.staticLocs frame_1_statics s) 0 0 → Post tb e args s (.returned v) u) :
    ArmFor flags0 classFile x code maxLocals ret World_1 tables_1 room_1 Calls_1 rest_1 Pre_1 Post := by
  intro l hfl _ _ p e ha hc hk s m args below hf hA hF happ hP
  obtain ⟨hcalls, hrest, hpre⟩ := hP
  obtain ⟨-, -, -, hnamed, -, -, -, hat⟩ := (Spec.applies_iff hf).mp happ
  obtain ⟨hg, hn⟩ := and_e (Cond.before_iff.mp (show (Jvm.Cond.and given_1 narrow_1).before args s = true from hpre))
  obtain ⟨h1, h2⟩ := and_e hg
  obtain ⟨w0, rfl⟩ : ∃ w0 : Value, args = #[w0] := by
    have hs : args.size = 1 := by simpa [Cond.value, given_1] using h1
    obtain ⟨L⟩ := args
    match L, hs with
    | [w0], _ => exact ⟨w0, rfl⟩
  have hw := fun d (hd : d ∈ tables_1) => atoms_spec (ws := Jvm.Cond.code x code maxLocals ret :: tables_1) hat d (List.mem_cons_of_mem _ hd)
  have hfit : Fit s := fun {y c} hc i hi => by
    obtain ⟨ha, rfl⟩ := Array.getElem?_eq_some_iff.mp hc
    have q := List.all_eq_true.mp ((Array.all_eq_true_iff_forall_mem.mp hF) _ (Array.getElem_mem ha)) i (List.mem_range.mpr hi)
    simpa [Array.getElem?_eq_getElem hi] using q
  obtain ⟨i0, ev0⟩ := is_v h2
  obtain rfl : w0 = (.int i0) := Option.some.inj ev0
  obtain ⟨nw0, nr0⟩ := and_e hn
  obtain ⟨nw1, nr1⟩ := and_e nr0
  obtain ⟨nw2, nr2⟩ := and_e nr1
  obtain ⟨nw3, nr3⟩ := and_e nr2
  obtain ⟨nw4, nr4⟩ := and_e nr3
  obtain ⟨nw5, nr5⟩ := and_e nr4
  obtain ⟨nw6, nr6⟩ := and_e nr5
  obtain ⟨nw7, nr7⟩ := and_e nr6
  obtain ⟨nw8, nr8⟩ := and_e nr7
  obtain ⟨nw9, nr9⟩ := and_e nr8
  obtain ⟨nw10, nr10⟩ := and_e nr9
  obtain ⟨a_WAITING, ev_WAITING⟩ := exa_v nw0
  have E_WAITING := Exa.start ev_WAITING nw0
  have S_WAITING := Sta.start ev_WAITING (Or.inr ⟨(hw _ (List.mem_of_getElem? (i := 2) rfl)), (hw _ (List.mem_of_getElem? (i := 5) rfl))⟩)
  obtain ⟨a_SETTLED, ev_SETTLED⟩ := exa_v nw3
  have E_SETTLED := Exa.start ev_SETTLED nw3
  have S_SETTLED := Sta.start ev_SETTLED (Or.inr ⟨(hw _ (List.mem_of_getElem? (i := 2) rfl)), (hw _ (List.mem_of_getElem? (i := 21) rfl))⟩)
  obtain ⟨a_IN_TRANSACTION, ev_IN_TRANSACTION⟩ := exa_v nw6
  have E_IN_TRANSACTION := Exa.start ev_IN_TRANSACTION nw6
  have S_IN_TRANSACTION := Sta.start ev_IN_TRANSACTION (Or.inr ⟨(hw _ (List.mem_of_getElem? (i := 2) rfl)), (hw _ (List.mem_of_getElem? (i := 23) rfl))⟩)
  obtain ⟨a_SHUT_OUT, ev_SHUT_OUT⟩ := exa_v nw9
  have E_SHUT_OUT := Exa.start ev_SHUT_OUT nw9
  have S_SHUT_OUT := Sta.start ev_SHUT_OUT (Or.inr ⟨(hw _ (List.mem_of_getElem? (i := 2) rfl)), (hw _ (List.mem_of_getElem? (i := 25) rfl))⟩)
  have F_WAITING_settled := Fld.start ((fld_at ev_WAITING).symm.trans (own_eqInt nw1))
  have F_WAITING_counts := Fld.start ((fld_at ev_WAITING).symm.trans (own_eqInt nw2))
  have F_SETTLED_settled := Fld.start ((fld_at ev_SETTLED).symm.trans (own_eqInt nw4))
  have F_SETTLED_counts := Fld.start ((fld_at ev_SETTLED).symm.trans (own_eqInt nw5))
  have F_IN_TRANSACTION_settled := Fld.start ((fld_at ev_IN_TRANSACTION).symm.trans (own_eqInt nw7))
  have F_IN_TRANSACTION_counts := Fld.start ((fld_at ev_IN_TRANSACTION).symm.trans (own_eqInt nw8))
  have F_SHUT_OUT_settled := Fld.start ((fld_at ev_SHUT_OUT).symm.trans (own_eqInt nw10))
  have F_SHUT_OUT_counts := Fld.start ((fld_at ev_SHUT_OUT).symm.trans (own_eqInt nr10))
  obtain ⟨n, o, h1, h2, h3, _, L, rfl, ⟨rfl, N⟩, hq⟩ := rm0 l s _ hw tables_1 i0 a_WAITING a_SETTLED a_IN_TRANSACTION a_SHUT_OUT s.heap s.heap.size (Nat.le_refl _) S_WAITING S_SETTLED S_IN_TRANSACTION S_SHUT_OUT E_WAITING E_SETTLED E_IN_TRANSACTION E_SHUT_OUT F_WAITING_settled F_WAITING_counts F_SETTLED_settled F_SETTLED_counts F_IN_TRANSACTION_settled F_IN_TRANSACTION_counts F_SHUT_OUT_settled F_SHUT_OUT_counts p e ha hc hk s m _ below hf ((Spec.applies_iff_loose hf).mp happ).1 ⟨rfl, State.Warmed39.refl s, rfl⟩ trivial
  refine ⟨n, _, h1, h2, h3, hpost _ _ _ _ _ _ ⟨Cond.after_iff.mpr rfl, Cond.after_iff.mpr (eq_i res_at (Term.int_eval (1)) rfl), trivial⟩ ⟨hq.1, hq.2.1, (hq.2.2.sift fun y hy => Or.inr (N y hy)).mono (by decide) (by decide)⟩⟩
theorem main_1_1 : Claimed_1_1 := comes_1 fun _ _ _ _ _ _ h hF => ⟨h.1, hF⟩
theorem main_1_2 : Claimed_1_2 := comes_1 fun _ _ _ _ _ _ h hF => ⟨h.2.1, hF⟩
end Jvm.Pilot.@@N@@
namespace Jvm.Pilot.@@N@@
open Jvm Jvm.ClassFile Sem Op Lib Jvm.Free Jvm.Stand Jvm.Pilot.@@N@@.Jvm.D
/-! MADE BY PROGRAM (witnessworld.py) out of the Statement's table words and the real class files: 12 classes; the members and pool entries that the words name. The judged class is class 1, her method 1. -/
namespace start1
open Jvm.ClassFile
def u (s : String) : CpInfo := .utf8 (stringToUtf16 s)
/-- a pool by its gaps: so many unusable entries, then the entry; so many at the end -/
def gap : Nat → List CpInfo → List CpInfo
  | 0, r => r
  | n + 1, r => .unusable :: gap n r
def poolList (es : List (Nat × CpInfo)) (last : Nat) : List CpInfo := es.foldr (fun e r => gap e.1 (e.2 :: r)) (gap last [])
def pool (es : List (Nat × CpInfo)) (last : Nat) : Array CpInfo := ⟨poolList es last⟩
def fileOf (pool : Array CpInfo) (this : Nat) (attrs : Array Attribute := #[]) (ms : Array MethodInfo := #[]) (fl : Nat := 33) (sup : Nat := 0) (ifs : Array Nat := #[]) (fds : Array FieldInfo := #[]) : ClassFile where
  minorVersion := 0
  majorVersion := 65
  constantPool := pool
  accessFlags := fl
  thisClass := this
  superClass := sup
  interfaces := ifs
  fields := fds
  methods := ms
  attributes := attrs
def plain (name : String) (sup : Option ClassId) : Class where
  name := name
  kind := .ordinary
  loader := none
  accessFlags := 33
  super := sup
  interfaces := #[]
  cf := none
  fields := #[]
  methods := #[]
  instanceTypes := #[]
  staticTypes := #[]
  resolved := #[]
  callSites := []
  init := .initialized
  statics := none
  mirror := none

def pool0 : Array CpInfo := pool [(5, u "<init>"), (0, u "()V"), (1, .class_ 10), (1, u "java/lang/Object")] 113

def k0m0 : Method := { name := "<init>", desc := "()V", sig := { parameters := [], returnType := none }, accessFlags := 1, code := none }
/-- java/lang/Object -/
def k0 : Class := { plain "java/lang/Object" none with
  accessFlags := 33
  interfaces := #[]
  cf := some (fileOf pool0 8 #[] #[{ accessFlags := 1, nameIndex := 5, descriptorIndex := 6, attributes := #[] }] 33 0 #[] #[])
  fields := #[]
  methods := #[k0m0]
  instanceTypes := #[]
  staticTypes := #[]
  resolved := Array.replicate 124 none
  statics := none }

def pool1 : Array CpInfo := pool [(2, .class_ 4), (1, u "java/lang/Object"), (0, u "<init>"), (0, u "()V"), (0, .methodref 8 9), (0, .class_ 10), (0, .nameAndType 11 12), (0, u "com/example/enact/enact/Dialect$Standing"), (0, u "of"), (0, u "(ZZ)Lcom/example/enact/enact/Dialect$Standing;"), (0, .methodref 8 14), (0, .nameAndType 15 16), (0, u "settled"), (0, u "()Z"), (0, .methodref 8 18), (0, .nameAndType 19 16), (0, u "counts"), (0, .class_ 21), (0, u "com/example/enact/enact/StandingOfPinLaw"), (2, u "law"), (0, u "(I)Z")] 7

def k1m0 : Method := { name := "<init>", desc := "()V", sig := { parameters := [], returnType := none }, accessFlags := 1, code := none }
def k1c1 : Code := { maxStack := 2, maxLocals := 4, code := code, exceptionTable := #[], attributes := #[] }
def k1m1 : Method := { name := "law", desc := "(I)Z", sig := { parameters := [.int], returnType := some .boolean }, accessFlags := 9, code := some k1c1 }
/-- com/example/enact/enact/StandingOfPinLaw -/
def k1 : Class := { plain "com/example/enact/enact/StandingOfPinLaw" (some 0) with
  accessFlags := 49
  interfaces := #[]
  cf := some (fileOf pool1 20 #[] #[{ accessFlags := 1, nameIndex := 5, descriptorIndex := 6, attributes := #[] }, { accessFlags := 9, nameIndex := 24, descriptorIndex := 25, attributes := #[] }] 49 2 #[] #[])
  fields := #[]
  methods := #[k1m0, k1m1]
  instanceTypes := #[]
  staticTypes := #[]
  resolved := Array.replicate 33 none
  statics := none }

def pool2 : Array CpInfo := pool [(1, .class_ 2), (0, u "java/lang/constant/Constable"), (0, .class_ 4), (0, u "java/lang/Object")] 6

/-- java/lang/constant/Constable -/
def k2 : Class := { plain "java/lang/constant/Constable" (some 0) with
  accessFlags := 1537
  interfaces := #[]
  cf := some (fileOf pool2 1 #[] #[] 1537 3 #[] #[])
  fields := #[]
  methods := #[]
  instanceTypes := #[]
  staticTypes := #[]
  resolved := Array.replicate 11 none
  statics := none }

def pool3 : Array CpInfo := pool [(1, .class_ 2), (0, u "java/lang/Comparable"), (0, .class_ 4), (0, u "java/lang/Object")] 7

/-- java/lang/Comparable -/
def k3 : Class := { plain "java/lang/Comparable" (some 0) with
  accessFlags := 1537
  interfaces := #[]
  cf := some (fileOf pool3 1 #[] #[] 1537 3 #[] #[])
  fields := #[]
  methods := #[]
  instanceTypes := #[]
  staticTypes := #[]
  resolved := Array.replicate 12 none
  statics := none }

def pool4 : Array CpInfo := pool [(1, .class_ 2), (0, u "java/io/Serializable"), (0, .class_ 4), (0, u "java/lang/Object")] 2

/-- java/io/Serializable -/
def k4 : Class := { plain "java/io/Serializable" (some 0) with
  accessFlags := 1537
  interfaces := #[]
  cf := some (fileOf pool4 1 #[] #[] 1537 3 #[] #[])
  fields := #[]
  methods := #[]
  instanceTypes := #[]
  staticTypes := #[]
  resolved := Array.replicate 7 none
  statics := none }

def pool5 : Array CpInfo := pool [(2, .class_ 4), (1, u "java/lang/Enum"), (0, u "name"), (0, u "Ljava/lang/String;"), (2, u "ordinal"), (0, u "I"), (1, .class_ 14), (1, u "java/lang/Object"), (4, u "hash"), (86, .class_ 108), (1, u "java/lang/Enum$EnumDesc"), (2, .class_ 112), (0, u "java/lang/constant/Constable"), (0, .class_ 114), (0, u "java/lang/Comparable"), (0, .class_ 116), (0, u "java/io/Serializable")] 87

/-- java/lang/Enum -/
def k5 : Class := { plain "java/lang/Enum" (some 0) with
  accessFlags := 1057
  interfaces := #[2, 3, 4]
  cf := some (fileOf pool5 2 #[.nestMembers #[106]] #[] 1057 12 #[111, 113, 115] #[{ accessFlags := 18, nameIndex := 5, descriptorIndex := 6, attributes := #[] }, { accessFlags := 18, nameIndex := 9, descriptorIndex := 10, attributes := #[] }, { accessFlags := 2, nameIndex := 19, descriptorIndex := 10, attributes := #[] }])
  fields := #[{ name := "name", type := (.object "java/lang/String"), accessFlags := 18, slot := 0, constantValue := 0 }, { name := "ordinal", type := .int, accessFlags := 18, slot := 1, constantValue := 0 }, { name := "hash", type := .int, accessFlags := 2, slot := 2, constantValue := 0 }]
  methods := #[]
  instanceTypes := #[(.object "java/lang/String"), .int, .int]
  staticTypes := #[]
  resolved := Array.replicate 204 none
  statics := none }

def pool6 : Array CpInfo := pool [(1, .class_ 2), (0, u "com/example/enact/enact/Dialect$Standing"), (0, .fieldref 1 4), (0, .nameAndType 5 6), (0, u "WAITING"), (0, u "Lcom/example/enact/enact/Dialect$Standing;"), (0, .fieldref 1 8), (0, .nameAndType 9 6), (0, u "IN_TRANSACTION"), (0, .fieldref 1 11), (0, .nameAndType 12 6), (0, u "SHUT_OUT"), (0, .fieldref 1 14), (0, .nameAndType 15 6), (0, u "SETTLED"), (2, u "$VALUES"), (0, u "[Lcom/example/enact/enact/Dialect$Standing;"), (6, .class_ 28), (1, u "java/lang/Enum"), (6, .fieldref 1 36), (0, .nameAndType 37 38), (0, u "settled"), (0, u "Z"), (0, .fieldref 1 40), (0, .nameAndType 41 38), (0, u "counts"), (18, u "of"), (0, u "(ZZ)Lcom/example/enact/enact/Dialect$Standing;"), (1, u "()Z"), (6, .class_ 71), (0, u "com/example/enact/enact/Dialect")] 2

def k6c0 : Code := { maxStack := 1, maxLocals := 3, code := prog_4_method_4_code, exceptionTable := #[], attributes := #[] }
def k6m0 : Method := { name := "of", desc := "(ZZ)Lcom/example/enact/enact/Dialect$Standing;", sig := { parameters := [.boolean, .boolean], returnType := some (.object "com/example/enact/enact/Dialect$Standing") }, accessFlags := 8, code := some k6c0 }
def k6c1 : Code := { maxStack := 1, maxLocals := 1, code := prog_4_method_5_code, exceptionTable := #[], attributes := #[] }
def k6m1 : Method := { name := "settled", desc := "()Z", sig := { parameters := [], returnType := some .boolean }, accessFlags := 0, code := some k6c1 }
def k6c2 : Code := { maxStack := 1, maxLocals := 1, code := prog_4_method_6_code, exceptionTable := #[], attributes := #[] }
def k6m2 : Method := { name := "counts", desc := "()Z", sig := { parameters := [], returnType := some .boolean }, accessFlags := 0, code := some k6c2 }
/-- com/example/enact/enact/Dialect$Standing -/
def k6 : Class := { plain "com/example/enact/enact/Dialect$Standing" (some 5) with
  accessFlags := 16433
  interfaces := #[]
  cf := some (fileOf pool6 1 #[.nestHost 70] #[{ accessFlags := 8, nameIndex := 60, descriptorIndex := 61, attributes := #[] }, { accessFlags := 0, nameIndex := 37, descriptorIndex := 63, attributes := #[] }, { accessFlags := 0, nameIndex := 41, descriptorIndex := 63, attributes := #[] }] 16433 26 #[] #[{ accessFlags := 16409, nameIndex := 5, descriptorIndex := 6, attributes := #[] }, { accessFlags := 16409, nameIndex := 9, descriptorIndex := 6, attributes := #[] }, { accessFlags := 16409, nameIndex := 12, descriptorIndex := 6, attributes := #[] }, { accessFlags := 16409, nameIndex := 15, descriptorIndex := 6, attributes := #[] }, { accessFlags := 18, nameIndex := 37, descriptorIndex := 38, attributes := #[] }, { accessFlags := 18, nameIndex := 41, descriptorIndex := 38, attributes := #[] }, { accessFlags := 4122, nameIndex := 18, descriptorIndex := 19, attributes := #[] }])
  fields := #[{ name := "WAITING", type := (.object "com/example/enact/enact/Dialect$Standing"), accessFlags := 16409, slot := 0, constantValue := 0 }, { name := "IN_TRANSACTION", type := (.object "com/example/enact/enact/Dialect$Standing"), accessFlags := 16409, slot := 1, constantValue := 0 }, { name := "SHUT_OUT", type := (.object "com/example/enact/enact/Dialect$Standing"), accessFlags := 16409, slot := 2, constantValue := 0 }, { name := "SETTLED", type := (.object "com/example/enact/enact/Dialect$Standing"), accessFlags := 16409, slot := 3, constantValue := 0 }, { name := "settled", type := .boolean, accessFlags := 18, slot := 3, constantValue := 0 }, { name := "counts", type := .boolean, accessFlags := 18, slot := 4, constantValue := 0 }, { name := "$VALUES", type := (.array (.object "com/example/enact/enact/Dialect$Standing")), accessFlags := 4122, slot := 4, constantValue := 0 }]
  methods := #[k6m0, k6m1, k6m2]
  instanceTypes := #[(.object "java/lang/String"), .int, .int, .boolean, .boolean]
  staticTypes := #[(.object "com/example/enact/enact/Dialect$Standing"), (.object "com/example/enact/enact/Dialect$Standing"), (.object "com/example/enact/enact/Dialect$Standing"), (.object "com/example/enact/enact/Dialect$Standing"), (.array (.object "com/example/enact/enact/Dialect$Standing"))]
  resolved := Array.replicate 74 none
  statics := some 0 }

def pool7 : Array CpInfo := pool [(1, u "java/lang/Cloneable"), (0, .class_ 1), (0, u "java/lang/Object"), (0, .class_ 3)] 3

/-- java/lang/Cloneable -/
def k7 : Class := { plain "java/lang/Cloneable" (some 0) with
  accessFlags := 1537
  interfaces := #[]
  cf := some (fileOf pool7 2 #[] #[] 1537 4 #[] #[])
  fields := #[]
  methods := #[]
  instanceTypes := #[]
  staticTypes := #[]
  resolved := Array.replicate 8 none
  statics := none }

/-- the primitive byte -/
def k8 : Class := { plain "byte" none with kind := .primitive 'B', accessFlags := 0x411 }
/-- [B -/
def k9 : Class := { plain "[B" (some 0) with kind := .array 8 .byte, interfaces := #[7, 4], accessFlags := 1041 }

/-- the primitive int -/
def k10 : Class := { plain "int" none with kind := .primitive 'I', accessFlags := 0x411 }
/-- [I -/
def k11 : Class := { plain "[I" (some 0) with kind := .array 10 .int, interfaces := #[7, 4], accessFlags := 1041 }

def heap : Heap := #[{ cls := 6, slots := #[.ref 1, .ref 3, .ref 4, .ref 2, .null], vm := .statics 6 },
  { cls := 6, slots := #[.null, .int 0, .int 0, .int 0, .int 0], vm := .none },
  { cls := 6, slots := #[.null, .int 0, .int 0, .int 1, .int 1], vm := .none },
  { cls := 6, slots := #[.null, .int 0, .int 0, .int 0, .int 1], vm := .none },
  { cls := 6, slots := #[.null, .int 0, .int 0, .int 1, .int 0], vm := .none }]
def classes : Array Class := #[k0, k1, k2, k3, k4, k5, k6, k7, k8, k9, k10, k11]
def interned : List (Array UInt16 × Addr) := []
def slotsUsed : Nat := 25
def theMethod : MethodId := ⟨1, 1⟩
def args0 : Array Value := #[.int 5]
def aboutOver (below : List Frame) : State where
  vm := { classes := classes, interned := interned.toArray }
  heap := heap
  slotsUsed := slotsUsed
  threads := #[{ frames := .invoking theMethod args0 :: below }]
def below0 : List Frame := [.native { method := ⟨0, 0⟩, args := #[] }]
def about1 : State := aboutOver below0
def p0 : Program := .bare "" "" ""
def e0 : Env := launch0.env 0 0 0
theorem w_frames : about1.frames = Frame.invoking theMethod args0 :: below0 := rfl
set_option maxRecDepth 65536 in
theorem w_args : argsFit about1.vm theMethod args0 = true := by decide +kernel
set_option maxRecDepth 65536 in
theorem w_heap : heapFits about1 = true := by decide +kernel
set_option maxRecDepth 65536 in
theorem w_runnable : about1.curStatus? = some .runnable := by decide +kernel
set_option maxRecDepth 65536 in
theorem w_alone : about1.alone = true := by decide +kernel
set_option maxRecDepth 65536 in
theorem w_named : about1.methodNamed? x = some theMethod := by decide +kernel
set_option maxRecDepth 65536 in
theorem w_hears : about1.hears theMethod below0 = true := by decide +kernel
set_option maxRecDepth 65536 in
theorem w_ripe : about1.ripe theMethod args0 below0 = true := by decide +kernel
theorem w_running : about1.status = .running := rfl
set_option maxRecDepth 65536 in
theorem w_room : about1.hasRoom e0.platform room_1 = true :=
  launch0.hasRoom_least _ room_1 (by decide +kernel) (by decide +kernel) (by decide +kernel) (by decide +kernel) (by decide +kernel) (by decide +kernel)
theorem allAtoms_all (ts : List Jvm.Cond) (a : Array Jvm.Value) (st : Jvm.State) : (allAtoms ts).before a st = ts.all (fun c => c.before a st) := by
  induction ts with
  | nil => rfl
  | cons c t ih =>
    show (Jvm.Cond.and c (allAtoms t)).before a st = _
    rw [Jvm.Cond.before_and, ih, List.all_cons]
def words1 : List Jvm.Cond := Jvm.Cond.code x code maxLocals ret :: tables_1
/-- a 'code' word, met by the world's own term for the bytes: nothing is compared byte by byte -/
theorem code_word {y : MethodName} {bytes : ByteArray} {mx : Nat} {rt : Option FieldType} {a : Array Value} {s : State} {m : MethodId} {meth : Method} {c : Code} (h1 : s.methodNamed? y = some m) (h2 : s.vm.method? m = some meth) (h3 : meth.code = some c) (h4 : c.code = bytes)
    (h5 : (c.maxLocals == mx && c.exceptionTable.isEmpty && decide (c.maxStack ≤ mostOperands) && decide (meth.sig.returnType = rt) && !meth.locks && decide (parseMethodDescriptor y.desc = some meth.sig)) = true) : (Jvm.Cond.code y bytes mx rt).before a s = true := by
  simp only [Bool.and_eq_true, beq_iff_eq, Bool.not_eq_true', decide_eq_true_eq] at h5
  obtain ⟨⟨⟨⟨⟨g1, g2⟩, g3⟩, g4⟩, g5⟩, g6⟩ := h5
  simp [Cond.before, Cond.holds, Cond.value, h1, h2, h3, h4, g1, g2, g3, g4, g5, g6]
def isCode : Jvm.Cond → Bool
  | .code _ _ _ _ => true
  | _ => false
theorem all_split {L : List Jvm.Cond} {P : Jvm.Cond → Bool} (h1 : L.all (fun c => isCode c || P c) = true) (h2 : ∀ c ∈ L.filter isCode, P c = true) : L.all P = true := by
  refine List.all_eq_true.mpr fun c hc => ?_
  have h := List.all_eq_true.mp h1 c hc
  rcases Bool.eq_false_or_eq_true (isCode c) with hi | hi
  · exact h2 c (List.mem_filter.mpr ⟨hc, hi⟩)
  · simpa [hi] using h
set_option maxRecDepth 65536 in
theorem w_c0 : (Jvm.Cond.code x code maxLocals ret).before args0 about1 = true := code_word (m := ⟨1, 1⟩) (meth := k1m1) (c := k1c1) (by decide +kernel) rfl rfl rfl (by decide +kernel)
set_option maxRecDepth 65536 in
theorem w_c1 : (Jvm.Cond.code ({ cls := "com/example/enact/enact/Dialect$Standing", name := "of", desc := "(ZZ)Lcom/example/enact/enact/Dialect$Standing;" } : Jvm.MethodName) prog_4_method_4_code (3 : Nat) (Option.some (Jvm.ClassFile.FieldType.object "com/example/enact/enact/Dialect$Standing"))).before args0 about1 = true := code_word (m := ⟨6, 0⟩) (meth := k6m0) (c := k6c0) (by decide +kernel) rfl rfl rfl (by decide +kernel)
set_option maxRecDepth 65536 in
theorem w_c2 : (Jvm.Cond.code ({ cls := "com/example/enact/enact/Dialect$Standing", name := "settled", desc := "()Z" } : Jvm.MethodName) prog_4_method_5_code (1 : Nat) (Option.some Jvm.ClassFile.FieldType.boolean)).before args0 about1 = true := code_word (m := ⟨6, 1⟩) (meth := k6m1) (c := k6c1) (by decide +kernel) rfl rfl rfl (by decide +kernel)
set_option maxRecDepth 65536 in
theorem w_c3 : (Jvm.Cond.code ({ cls := "com/example/enact/enact/Dialect$Standing", name := "counts", desc := "()Z" } : Jvm.MethodName) prog_4_method_6_code (1 : Nat) (Option.some Jvm.ClassFile.FieldType.boolean)).before args0 about1 = true := code_word (m := ⟨6, 2⟩) (meth := k6m2) (c := k6c2) (by decide +kernel) rfl rfl rfl (by decide +kernel)
def codes1 : List Jvm.Cond := [Jvm.Cond.code x code maxLocals ret, Jvm.Cond.code ({ cls := "com/example/enact/enact/Dialect$Standing", name := "of", desc := "(ZZ)Lcom/example/enact/enact/Dialect$Standing;" } : Jvm.MethodName) prog_4_method_4_code (3 : Nat) (Option.some (Jvm.ClassFile.FieldType.object "com/example/enact/enact/Dialect$Standing")), Jvm.Cond.code ({ cls := "com/example/enact/enact/Dialect$Standing", name := "settled", desc := "()Z" } : Jvm.MethodName) prog_4_method_5_code (1 : Nat) (Option.some Jvm.ClassFile.FieldType.boolean), Jvm.Cond.code ({ cls := "com/example/enact/enact/Dialect$Standing", name := "counts", desc := "()Z" } : Jvm.MethodName) prog_4_method_6_code (1 : Nat) (Option.some Jvm.ClassFile.FieldType.boolean)]
set_option maxRecDepth 65536 in
theorem codes_eq : words1.filter isCode = codes1 := rfl
theorem w_codes : ∀ c ∈ words1.filter isCode, c.before args0 about1 = true := by
  rw [codes_eq]
  intro c hc
  simp only [codes1, List.mem_cons, List.not_mem_nil, or_false] at hc
  rcases hc with rfl | rfl | rfl | rfl
  · exact w_c0
  · exact w_c1
  · exact w_c2
  · exact w_c3
set_option maxRecDepth 65536 in
theorem w_t1 : (words1.take 24).all (fun c => isCode c || c.before args0 about1) = true := by decide +kernel
set_option maxRecDepth 65536 in
theorem w_t2 : (words1.drop 24).all (fun c => isCode c || c.before args0 about1) = true := by decide +kernel
theorem w_tables : (allAtoms (Jvm.Cond.code x code maxLocals ret :: tables_1)).before args0 about1 = true := by
  rw [allAtoms_all]
  show words1.all (fun c => c.before args0 about1) = true
  refine all_split ?_ w_codes
  rw [← List.take_append_drop 24 words1, List.all_append, w_t1, w_t2]
  rfl
set_option maxRecDepth 65536 in
theorem w_case : (Jvm.Cond.and given_1 narrow_1).before args0 about1 = true := by decide +kernel
theorem w_applies : (headSpec (Jvm.Cond.code x code maxLocals ret :: tables_1) room_1).applies x e0.platform about1 = true :=
  (Spec.applies_iff w_frames).mpr ⟨w_running, w_runnable, w_alone, w_named, w_hears, w_ripe, w_room, w_tables⟩
theorem atStart : AtStart classFile x code maxLocals ret World_1 tables_1 room_1 Calls_1 rest_1 Pre_1 launch0 p0 e0 about1 theMethod args0 below0 :=
  ⟨lists_1, trivial, launch0.admits_env _ _ _, launch0.least_env, fairChoices_fair.cas, fairChoices_fair.clock, w_frames, w_args, w_heap, w_applies, trivial, trivial, w_case⟩
end start1
theorem witness_1 : WitnessClaimed_1 := ⟨start1.p0, start1.e0, start1.about1, start1.theMethod, start1.args0, start1.below0, start1.atStart⟩
end Jvm.Pilot.@@N@@
