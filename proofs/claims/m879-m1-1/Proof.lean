import JvmDerived
import JvmDerived.Pilot.@@N@@Statement
import JvmDerived.Pilot.@@N@@Code
set_option linter.unusedVariables false
set_option linter.unusedSimpArgs false
namespace Jvm.RoadKit
open Sem ClassFile Op Lib Jvm.Stand Jvm.Free Jvm.LawKit
section New
variable {p : Program} {l : Launch} {e : Env} {R : Room} {s : State} {m : MethodId} {args : Array Value} {below : List Frame} {meth : Method} {c : Code} {T : State} {locs : List Loc} {cells slots : Nat}
theorem retI (X : Stand p l e R s m args below meth c T locs cells slots) (hx : p.tables.exec = Jvm.exec) {pc : Nat} {Ls : Array Slot} {z : Int32} {rest : List Value} (hret : meth.sig.returnType = some .int) (hd : decode c.code pc = .ok (.ireturn, 1)) {fs : List Frame}
    (hl : ∀ (f : JFrame) (acts : List Action), f.method = m → f.locked = none → f.entered = [] → (doReturn e (T.setTop f) acts (some (.int z))).1 = T.setFrames fs) : Steps p.tables e below (T.setTop (mkF m pc Ls (.int z :: rest))) (T.setFrames fs) := by
  have hm' : T.vm.method? m = some meth := X.method'
  have hn : narrow .int (.int z) = .int z := rfl
  show Steps p.tables e below (T.setTop { method := m, pc := pc, locals := Ls, stack := _ :: rest, locked := none }) _
  jvm_step X.here [X.here.top, hx, hd, hm', hret, hn]
  first | (intro acts; rw [hl _ acts rfl rfl rfl]) | rw [hl _ _ rfl rfl rfl]
  exact Steps.refl _
end New
end Jvm.RoadKit
namespace Jvm.Pilot.@@N@@
open Jvm Jvm.ClassFile Sem Op Lib Jvm.Free Jvm.Stand Jvm.LawKit Jvm.RoadKit Bundle Jvm.Pilot.@@N@@.Jvm.D
section OwnGo
variable {p : Program} {l : Launch} {e : Env} {R : Room} {s : State} {m : MethodId} {args : Array Value} {below : List Frame} {meth : Method} {c : Code} {T : State} {locs : List Loc} {cells slots : Nat} {Q : Option Value → Heap → List Loc → Prop} {ck sk : Nat}
/-- from the state S the body comes to its end, and what it returns and leaves meets Q -/
def own_Go (p : Program) (e : Env) (below : List Frame) (s : State) (Q : Option Value → Heap → List Loc → Prop) (ck sk : Nat) (S : State) : Prop :=
  ∃ s₂ o, Steps p.tables e below S s₂ ∧ s₂.status = .running ∧ Ended s₂ below o ∧ ∃ v L, o = .returned v ∧ Q v s₂.heap L ∧ FrameEnd s o s₂ L ck sk
theorem own_go {S S' : State} (st : ∀ t, Steps p.tables e below S' t → Steps p.tables e below S t) (k : own_Go p e below s Q ck sk S') : own_Go p e below s Q ck sk S := by
  obtain ⟨a, b, h, r⟩ := k; exact ⟨a, b, st _ h, r⟩
theorem own_goT {S S' : State} (st : Steps p.tables e below S S') (k : own_Go p e below s Q ck sk S') : own_Go p e below s Q ck sk S := own_go (fun _ h => st.trans h) k
theorem own_retI (X : Stand p l e R s m args below meth c T locs cells slots) (hx : p.tables.exec = Jvm.exec) (hlk : meth.locks = false) {pc : Nat} {Ls : Array Slot} {z : Int32} {rest : List Value} (hret : meth.sig.returnType = some .int) (hd : decode c.code pc = .ok (.ireturn, 1)) (hc : cells ≤ ck) (hs : slots ≤ sk)
    (q : Q (some (.int z)) T.heap locs) : own_Go p e below s Q ck sk (T.setTop (mkF m pc Ls (.int z :: rest))) := by
  obtain ⟨fs, hr, hrun, hended, hW, hsame⟩ := X.leave (v := some (.int z)) (fun h => by rw [hret] at h; cases h) hlk
  exact ⟨_, _, retI X hx hret hd hr, hrun, hended, _, _, rfl, q, ⟨_, rfl⟩, hW, hsame.mono hc hs⟩
theorem own_retN (X : Stand p l e R s m args below meth c T locs cells slots) (hx : p.tables.exec = Jvm.exec) (hlk : meth.locks = false) {t : FieldType} {pc : Nat} {Ls : Array Slot} {z : Int32} {rest : List Value} (ht : t = .boolean ∨ t = .byte ∨ t = .char ∨ t = .short) (hret : meth.sig.returnType = some t) (hd : decode c.code pc = .ok (.ireturn, 1)) (hc : cells ≤ ck) (hs : slots ≤ sk)
    (q : Q (some (.int (nar t z))) T.heap locs) : own_Go p e below s Q ck sk (T.setTop (mkF m pc Ls (.int z :: rest))) := by
  obtain ⟨fs, hr, hrun, hended, hW, hsame⟩ := X.leave (v := some (.int (nar t z))) (fun h => by rw [hret] at h; cases h) hlk
  exact ⟨_, _, retN X hx hret ht hd hr, hrun, hended, _, _, rfl, q, ⟨_, rfl⟩, hW, hsame.mono hc hs⟩
theorem own_ret0 (X : Stand p l e R s m args below meth c T locs cells slots) (hx : p.tables.exec = Jvm.exec) (hlk : meth.locks = false) {pc : Nat} {Ls : Array Slot} (hret : meth.sig.returnType = none) (hd : decode c.code pc = .ok (.return_, 1)) (hc : cells ≤ ck) (hs : slots ≤ sk)
    (q : Q none T.heap locs) : own_Go p e below s Q ck sk (T.setTop (mkF m pc Ls [])) := by
  obtain ⟨fs, hr, hrun, hended, hW, hsame⟩ := X.leave (v := none) (fun _ => rfl) hlk
  exact ⟨_, _, X.returnOut hx hret hd hr, hrun, hended, _, _, rfl, q, ⟨_, rfl⟩, hW, hsame.mono hc hs⟩
theorem own_retA (X : Stand p l e R s m args below meth c T locs cells slots) (hx : p.tables.exec = Jvm.exec) (hlk : meth.locks = false) {t : FieldType} {pc : Nat} {Ls : Array Slot} {w : Value} (hw : w.isRef = true) (ht : t.isReference = true) (hret : meth.sig.returnType = some t) (hd : decode c.code pc = .ok (.areturn, 1)) (hc : cells ≤ ck) (hs : slots ≤ sk)
    (q : Q (some w) T.heap locs) : own_Go p e below s Q ck sk (T.setTop (mkF m pc Ls [w])) := by
  obtain ⟨fs, hr, hrun, hended, hW, hsame⟩ := X.leave (v := some w) (fun h => by rw [hret] at h; cases h) hlk
  exact ⟨_, _, X.areturnOut hx hw hret ht hd hr, hrun, hended, _, _, rfl, q, ⟨_, rfl⟩, hW, hsame.mono hc hs⟩
theorem own_retJ (X : Stand p l e R s m args below meth c T locs cells slots) (hx : p.tables.exec = Jvm.exec) (hlk : meth.locks = false) {pc : Nat} {Ls : Array Slot} {w : Int64} (hret : meth.sig.returnType = some .long) (hd : decode c.code pc = .ok (.lreturn, 1)) (hc : cells ≤ ck) (hs : slots ≤ sk)
    (q : Q (some (.long w)) T.heap locs) : own_Go p e below s Q ck sk (T.setTop (mkF m pc Ls [.long w])) := by
  obtain ⟨fs, hr, hrun, hended, hW, hsame⟩ := X.leave (v := some (.long w)) (fun h => by rw [hret] at h; cases h) hlk
  exact ⟨_, _, X.lreturnOut hx hret hd hr, hrun, hended, _, _, rfl, q, ⟨_, rfl⟩, hW, hsame.mono hc hs⟩
end OwnGo
theorem own_retD {p : Program} {l : Launch} {e : Env} {R : Room} {s : State} {m : MethodId} {args : Array Value} {below : List Frame} {meth : Method} {c : Code} {T : State} {locs : List Loc} {cells slots : Nat} {Q : Option Value → Heap → List Loc → Prop} {ck sk : Nat} (X : Stand p l e R s m args below meth c T locs cells slots) (hx : p.tables.exec = Jvm.exec) (hlk : meth.locks = false) {pc : Nat} {Ls : Array Slot} {w : UInt64} (hret : meth.sig.returnType = some .double) (hd : decode c.code pc = .ok (.dreturn, 1)) (hc : cells ≤ ck) (hs : slots ≤ sk)
    (q : Q (some (.double w)) T.heap locs) : own_Go p e below s Q ck sk (T.setTop (mkF m pc Ls [.double w])) := by
  obtain ⟨fs, hr, hrun, hended, hW, hsame⟩ := X.leave (v := some (.double w)) (fun h => by rw [hret] at h; cases h) hlk
  exact ⟨_, _, retOut X hx hret rfl (Or.inr (Or.inr (Or.inl ⟨rfl, rfl, _, rfl⟩))) hd hr, hrun, hended, _, _, rfl, q, ⟨_, rfl⟩, hW, hsame.mono hc hs⟩
theorem own_leq {x y : Int64} (h : x = y) : lcmpW x y = 0 := (lw_eq x y).mpr h
theorem own_lne {x y : Int64} (h : ¬ x = y) : ¬ lcmpW x y = 0 := fun q => h ((lw_eq x y).mp q)
theorem own_llt {x y : Int64} (h : x < y) : lcmpW x y < 0 := (lw_lt x y).mpr h
theorem own_lnlt {x y : Int64} (h : ¬ x < y) : ¬ lcmpW x y < 0 := fun q => h ((lw_lt x y).mp q)
theorem own_lgt {x y : Int64} (h : y < x) : 0 < lcmpW x y := (lw_gt x y).mpr h
theorem own_lngt {x y : Int64} (h : ¬ y < x) : ¬ 0 < lcmpW x y := fun q => h ((lw_gt x y).mp q)
theorem own_ltr {x y : Int32} {k : Int} (h : x < y) (e : y.toInt = k) : x.toInt < k := by rw [← e]; exact Int32.lt_iff_toInt_lt.mp h
theorem own_ltl {x y : Int32} {k : Int} (h : x < y) (e : x.toInt = k) : k < y.toInt := by rw [← e]; exact Int32.lt_iff_toInt_lt.mp h
theorem own_nltr {x y : Int32} {k : Int} (h : ¬ x < y) (e : y.toInt = k) : k ≤ x.toInt := by rw [← e]; exact Int.not_lt.mp fun q => h (Int32.lt_iff_toInt_lt.mpr q)
theorem own_nltl {x y : Int32} {k : Int} (h : ¬ x < y) (e : x.toInt = k) : y.toInt ≤ k := by rw [← e]; exact Int.not_lt.mp fun q => h (Int32.lt_iff_toInt_lt.mpr q)
theorem own_eqr {x y : Int32} {k : Int} (h : x = y) (e : y.toInt = k) : x.toInt = k := by rw [← e, h]
theorem own_neqr {x y : Int32} {k : Int} (h : ¬ x = y) (e : y.toInt = k) : ¬ x.toInt = k := by rw [← e]; exact fun q => h (Int32.toInt_inj.mp q)
theorem own_selP {s : State} {args : Array Value} {y : MethodName} {n : Nat} (wi : (Jvm.Cond.instantiable y.cls n).before args s = true) (wp : (Jvm.Cond.privateMethod y).before args s = true) (wn : (Jvm.Cond.instanceMethod y).before args s = true) (hy : y.cls ≠ "java/lang/invoke/MethodHandle" ∧ y.cls ≠ "java/lang/invoke/VarHandle") : (Jvm.Cond.selects y.cls y y).before args s = true := by
  obtain ⟨c, k, h1, h2, -, h4, -⟩ := Cond.instantiable_spec wi
  exact Jvm.Stand.selects_self_of_private h1 h2 (Bool.or_eq_false_iff.mp h4).1 (Cond.privateMethod_at wp) wn hy
theorem own_eqInt {t : Term} {k : Int32} {args : Array Value} {s : State} (h : (Jvm.Cond.eq t (Term.int k)).value args s none s [] = some true) : t.eval args s none [] s = some (.int k) := by
  have hk : (Term.int k).eval args s none [] s = some (.int k) := rfl
  cases ht : t.eval args s none [] s with
  | none => simp [Jvm.Cond.value, ht] at h
  | some v => cases v <;> simp [Jvm.Cond.value, ht, hk] at h; rw [h]
def own_lg (a wl wh : Addr) (n : Int32) : Int32 := if a = wl then 1 else if a = wh then (if (10 : Int32) < n then 1 else 0) else 0
theorem d1_0 : decode prog_20_method_4_code 0 = .ok (.aload_n 0, 1) := by decide +kernel
theorem d1_1 : decode prog_20_method_4_code 1 = .ok (.getstatic 9, 3) := by decide +kernel
theorem d1_4 : decode prog_20_method_4_code 4 = .ok (.if_acmp .eq 16, 3) := by decide +kernel
theorem d1_20 : decode prog_20_method_4_code 20 = .ok (.iconst 1, 1) := by decide +kernel
theorem d1_21 : decode prog_20_method_4_code 21 = .ok (.goto 4, 3) := by decide +kernel
theorem d1_25 : decode prog_20_method_4_code 25 = .ok (.ireturn, 1) := by decide +kernel
theorem d1_7 : decode prog_20_method_4_code 7 = .ok (.aload_n 0, 1) := by decide +kernel
theorem d1_8 : decode prog_20_method_4_code 8 = .ok (.getstatic 12, 3) := by decide +kernel
theorem d1_11 : decode prog_20_method_4_code 11 = .ok (.if_acmp .ne 13, 3) := by decide +kernel
theorem d1_24 : decode prog_20_method_4_code 24 = .ok (.iconst 0, 1) := by decide +kernel
theorem d1_14 : decode prog_20_method_4_code 14 = .ok (.iload_n 1, 1) := by decide +kernel
theorem d1_15 : decode prog_20_method_4_code 15 = .ok (.bipush 10, 2) := by decide +kernel
theorem d1_17 : decode prog_20_method_4_code 17 = .ok (.if_icmp .le 7, 3) := by decide +kernel
theorem pn_13 : plainName "atomwright/Elements$Backup" = true := by first | (simp [plainName, overriddenIn]; done) | decide +kernel
theorem ef_rm1 (m : MethodId) (x0 : Addr) (x1 : Int32) : entryFrame m #[(.ref x0), (.int x1)] 2 = mkF m 0 #[.val (.ref x0), .val (.int x1)] [] := by first | (simp [entryFrame, mkF, argsToLocals, Value.category]; done) | rfl
def Q_rm1 (Z : State) (a1 : Addr) (p0 : Int32) (a_LOG a_HYBRID : Addr) (h0 : Heap) (n0 : Nat) (v : Option Value) (h : Heap) (L : List Loc) : Prop := v = some (.int (own_lg a1 a_LOG a_HYBRID p0)) ∧ h = h0 ∧ L = []
set_option maxRecDepth 65536 in
set_option maxHeartbeats 40000000 in
theorem rm1 (l : Launch) (Z : State) (a0 : Array Value) (hw : ∀ d ∈ tables_1, d.before a0 Z = true) (ws : List Jvm.Cond) (a1 : Addr) (p0 : Int32) (a_LOG a_HYBRID : Addr) (h0 : Heap) (n0 : Nat) (Z0 : n0 ≤ h0.size) (S_LOG : Sta Z h0 "atomwright/Elements$Backup" "LOG" "Latomwright/Elements$Backup;" (.ref a_LOG)) (S_HYBRID : Sta Z h0 "atomwright/Elements$Backup" "HYBRID" "Latomwright/Elements$Backup;" (.ref a_HYBRID)) :
    MetFree l (⟨"atomwright/Elements$Backup", "logs", "(I)Z"⟩ : MethodName) (head1 (Jvm.Cond.code (⟨"atomwright/Elements$Backup", "logs", "(I)Z"⟩ : MethodName) prog_20_method_4_code 2 (some .boolean) :: ws) ({ frames := 0, cells := 0, slots := 0, locals := 0 } : Room)) (fun a U => a = #[(.ref a1), (.int p0)] ∧ Z.Warmed39 U.vm ∧ U.heap = h0) (fun _ _ _ _ _ => True) (fun _ U o U' => ∃ v L, o = .returned v ∧ Q_rm1 Z a1 p0 a_LOG a_HYBRID h0 n0 v U'.heap L ∧ FrameEnd U o U' L ({ frames := 0, cells := 0, slots := 0, locals := 0 } : Room).cells ({ frames := 0, cells := 0, slots := 0, locals := 0 } : Room).slots) := by
  refine MetFree.of_bodySF (plainFor_of_name pn_13) hisR ?_
  intro p e s m args below meth c s₁ Bd hml0 hP hK
  obtain ⟨rfl, hZ, hh⟩ := hP
  have hx := Bd.exec
  have hby := Bd.bytes
  have hlk := Bd.notSynchronized
  have hml : c.maxLocals = 2 := hml0
  have hown : s.vm.findClass "atomwright/Elements$Backup" = some m.cls := findClass_of_methodNamed Bd.named
  have hnm := (name_of_methodNamed Bd.named Bd.method).1
  have X0 : Stand p l e ({ frames := 0, cells := 0, slots := 0, locals := 0 } : Room) s m #[(.ref a1), (.int p0)] below meth c s₁ [] 0 0 := Stand.of_body Bd
  have e0 : s₁.heap = h0 := by rw [← hh, Bd.state]; rfl
  have N0 := Fr.nil n0
  change own_Go p e below s (Q_rm1 Z a1 p0 a_LOG a_HYBRID h0 n0) ({ frames := 0, cells := 0, slots := 0, locals := 0 } : Room).cells ({ frames := 0, cells := 0, slots := 0, locals := 0 } : Room).slots _
  refine own_go (S' := (s₁.setTop (mkF m 0 #[.val (.ref a1), .val (.int p0)] []))) (fun _ k => castTop (ef_rm1 m a1 p0) k) ?_
  refine own_go (S' := (s₁.setTop (mkF m 1 #[.val (.ref a1), .val (.int p0)] [(.ref a1)]))) (fun _ k => XS.aloadN X0.here hx rfl (hb hby d1_0) rfl rfl k) ?_
  obtain ⟨T1, X1, e1, st1⟩ := getS2 X0 hx hZ hown (host := "") (Or.inl (hw _ (List.mem_of_getElem? (i := 9) rfl))) Via.refl e0 S_LOG (g := (mkF m 1 #[.val (.ref a1), .val (.int p0)] [(.ref a1)])) rfl (hb hby d1_1)
  refine own_go (S' := (T1.setTop (mkF m 4 #[.val (.ref a1), .val (.int p0)] [(.ref a_LOG), (.ref a1)]))) st1 ?_
  by_cases q1 : a1 = a_LOG
  · refine own_go (S' := (T1.setTop (mkF m 25 #[.val (.ref a1), .val (.int p0)] [(.int (1 : Int32))]))) (fun _ k => Jvm.RoadKit.acmp (g := (mkF m 4 #[.val (.ref a1), .val (.int p0)] [(.ref a_LOG), (.ref a1)])) X1 hx rfl rfl rfl (pc0 := 4) (pc' := 20) (same := true) rfl (hb hby d1_4) rfl (decide_eq_true (congrArg Value.ref q1)) (by decide) (by decide) (XS.iconst X1.here hx rfl (hb hby d1_20) (XS.goto X1.here hx rfl (pc0 := 21) (pc' := 25) rfl (hb hby d1_21) (by decide) (by decide) k))) ?_
    refine own_retN (t := .boolean) X1 hx hlk (by simp) Bd.returns (hb hby d1_25) (by decide) (by decide) ?_
    exact ⟨congrArg (fun z => some (Value.int z)) (show (nar .boolean (1 : Int32)) = own_lg a1 a_LOG a_HYBRID p0 from by unfold own_lg; rw [if_pos q1] <;> rfl), e1, rfl⟩
  · refine own_go (S' := (T1.setTop (mkF m 8 #[.val (.ref a1), .val (.int p0)] [(.ref a1)]))) (fun _ k => Jvm.RoadKit.acmp (g := (mkF m 4 #[.val (.ref a1), .val (.int p0)] [(.ref a_LOG), (.ref a1)])) X1 hx rfl rfl rfl (pc0 := 4) (pc' := 7) (same := false) rfl (hb hby d1_4) rfl (decide_eq_false fun q => q1 (Value.ref.inj q)) (by decide) (by decide) (XS.aloadN X1.here hx rfl (hb hby d1_7) rfl rfl k)) ?_
    obtain ⟨T2, X2, e2, st2⟩ := getS2 X1 hx hZ hown (host := "") (Or.inl (hw _ (List.mem_of_getElem? (i := 11) rfl))) Via.refl e1 S_HYBRID (g := (mkF m 8 #[.val (.ref a1), .val (.int p0)] [(.ref a1)])) rfl (hb hby d1_8)
    refine own_go (S' := (T2.setTop (mkF m 11 #[.val (.ref a1), .val (.int p0)] [(.ref a_HYBRID), (.ref a1)]))) st2 ?_
    by_cases q2 : a1 = a_HYBRID
    · refine own_go (S' := (T2.setTop (mkF m 17 #[.val (.ref a1), .val (.int p0)] [(.int (10 : Int32)), (.int p0)]))) (fun _ k => Jvm.RoadKit.acmp (g := (mkF m 11 #[.val (.ref a1), .val (.int p0)] [(.ref a_HYBRID), (.ref a1)])) X2 hx rfl rfl rfl (pc0 := 11) (pc' := 14) (same := true) rfl (hb hby d1_11) rfl (decide_eq_true (congrArg Value.ref q2)) (by decide) (by decide) (XS.iloadN X2.here hx rfl (hb hby d1_14) rfl (XS.bipush X2.here hx rfl (hb hby d1_15) k))) ?_
      by_cases q3 : (10 : Int32) < p0
      · refine own_go (S' := (T2.setTop (mkF m 25 #[.val (.ref a1), .val (.int p0)] [(.int (1 : Int32))]))) (fun _ k => XS.icmpNo X2.here hx rfl (hb hby d1_17) rfl (tlt q3).2.2.2 (XS.iconst X2.here hx rfl (hb hby d1_20) (XS.goto X2.here hx rfl (pc0 := 21) (pc' := 25) rfl (hb hby d1_21) (by decide) (by decide) k))) ?_
        refine own_retN (t := .boolean) X2 hx hlk (by simp) Bd.returns (hb hby d1_25) (by decide) (by decide) ?_
        exact ⟨congrArg (fun z => some (Value.int z)) (show (nar .boolean (1 : Int32)) = own_lg a1 a_LOG a_HYBRID p0 from by unfold own_lg; rw [if_neg q1, if_pos q2, if_pos q3] <;> rfl), e2, rfl⟩
      · refine own_go (S' := (T2.setTop (mkF m 25 #[.val (.ref a1), .val (.int p0)] [(.int (0 : Int32))]))) (fun _ k => XS.icmpYes X2.here hx rfl (pc0 := 17) (pc' := 24) rfl (hb hby d1_17) rfl (flt q3).2.2.2 (by decide) (by decide) (XS.iconst X2.here hx rfl (hb hby d1_24) k)) ?_
        refine own_retN (t := .boolean) X2 hx hlk (by simp) Bd.returns (hb hby d1_25) (by decide) (by decide) ?_
        exact ⟨congrArg (fun z => some (Value.int z)) (show (nar .boolean (0 : Int32)) = own_lg a1 a_LOG a_HYBRID p0 from by unfold own_lg; rw [if_neg q1, if_pos q2, if_neg q3] <;> rfl), e2, rfl⟩
    · refine own_go (S' := (T2.setTop (mkF m 25 #[.val (.ref a1), .val (.int p0)] [(.int (0 : Int32))]))) (fun _ k => Jvm.RoadKit.acmp (g := (mkF m 11 #[.val (.ref a1), .val (.int p0)] [(.ref a_HYBRID), (.ref a1)])) X2 hx rfl rfl rfl (pc0 := 11) (pc' := 24) (same := false) rfl (hb hby d1_11) rfl (decide_eq_false fun q => q2 (Value.ref.inj q)) (by decide) (by decide) (XS.iconst X2.here hx rfl (hb hby d1_24) k)) ?_
      refine own_retN (t := .boolean) X2 hx hlk (by simp) Bd.returns (hb hby d1_25) (by decide) (by decide) ?_
      exact ⟨congrArg (fun z => some (Value.int z)) (show (nar .boolean (0 : Int32)) = own_lg a1 a_LOG a_HYBRID p0 from by unfold own_lg; rw [if_neg q1, if_neg q2] <;> rfl), e2, rfl⟩
theorem pd_14 : parseMethodDescriptor "(I)Z" = some ⟨[.int], some .boolean⟩ := by decide +kernel
theorem pn_15 : plainName "atomwright/BackupLogsPinLaw" = true := by first | (simp [plainName, overriddenIn]; done) | decide +kernel
theorem ef_rm0 (m : MethodId) (x0 : Int32) (x1 : Int32) : entryFrame m #[(.int x0), (.int x1)] maxLocals = mkF m 0 #[.val (.int x0), .val (.int x1), .unset, .unset, .unset] [] := by first | (simp [entryFrame, mkF, argsToLocals, Value.category, maxLocals]; done) | rfl
def Q_rm0 (Z : State) (i0 i1 : Int32) (a_COPY a_LOG a_HYBRID : Addr) (h0 : Heap) (n0 : Nat) (v : Option Value) (h : Heap) (L : List Loc) : Prop := v = some (.int 1) ∧ Fr n0 L
set_option maxRecDepth 65536 in
set_option maxHeartbeats 40000000 in
theorem rm0 (l : Launch) (Z : State) (a0 : Array Value) (hw : ∀ d ∈ tables_1, d.before a0 Z = true) (ws : List Jvm.Cond) (i0 i1 : Int32) (a_COPY a_LOG a_HYBRID : Addr) (h0 : Heap) (n0 : Nat) (Z0 : n0 ≤ h0.size) (S_COPY : Sta Z h0 "atomwright/Elements$Backup" "COPY" "Latomwright/Elements$Backup;" (.ref a_COPY)) (S_LOG : Sta Z h0 "atomwright/Elements$Backup" "LOG" "Latomwright/Elements$Backup;" (.ref a_LOG)) (S_HYBRID : Sta Z h0 "atomwright/Elements$Backup" "HYBRID" "Latomwright/Elements$Backup;" (.ref a_HYBRID)) (E_COPY : Exa Z h0 a_COPY "atomwright/Elements$Backup") (E_LOG : Exa Z h0 a_LOG "atomwright/Elements$Backup") (E_HYBRID : Exa Z h0 a_HYBRID "atomwright/Elements$Backup") (F_COPY_ordinal : Fld Z h0 a_COPY "java/lang/Enum" "ordinal" "I" (.int (0 : Int32))) (F_LOG_ordinal : Fld Z h0 a_LOG "java/lang/Enum" "ordinal" "I" (.int (1 : Int32))) (F_HYBRID_ordinal : Fld Z h0 a_HYBRID "java/lang/Enum" "ordinal" "I" (.int (2 : Int32))) :
    MetFree l x (head1 (Jvm.Cond.code x code maxLocals ret :: ws) room_1) (fun a U => a = #[(.int i0), (.int i1)] ∧ Z.Warmed39 U.vm ∧ U.heap = h0) (fun _ _ _ _ _ => True) (fun _ U o U' => ∃ v L, o = .returned v ∧ Q_rm0 Z i0 i1 a_COPY a_LOG a_HYBRID h0 n0 v U'.heap L ∧ FrameEnd U o U' L room_1.cells room_1.slots) := by
  refine MetFree.of_bodySF (plainFor_of_name pn_15) hisR ?_
  intro p e s m args below meth c s₁ Bd hml0 hP hK
  obtain ⟨rfl, hZ, hh⟩ := hP
  have hx := Bd.exec
  have hby := Bd.bytes
  have hlk := Bd.notSynchronized
  have hml : c.maxLocals = 5 := hml0
  have hown : s.vm.findClass "atomwright/BackupLogsPinLaw" = some m.cls := findClass_of_methodNamed Bd.named
  have hnm := (name_of_methodNamed Bd.named Bd.method).1
  have X0 : Stand p l e room_1 s m #[(.int i0), (.int i1)] below meth c s₁ [] 0 0 := Stand.of_body Bd
  have e0 : s₁.heap = h0 := by rw [← hh, Bd.state]; rfl
  have N0 := Fr.nil n0
  change own_Go p e below s (Q_rm0 Z i0 i1 a_COPY a_LOG a_HYBRID h0 n0) room_1.cells room_1.slots _
  refine own_go (S' := (s₁.setTop (mkF m 0 #[.val (.int i0), .val (.int i1), .unset, .unset, .unset] []))) (fun _ k => castTop (ef_rm0 m i0 i1) k) ?_
  have nCL : a_COPY ≠ a_LOG := F_COPY_ordinal.ne F_LOG_ordinal (by first | decide | simp)
  have nCH : a_COPY ≠ a_HYBRID := F_COPY_ordinal.ne F_HYBRID_ordinal (by first | decide | simp)
  have nLH : a_LOG ≠ a_HYBRID := F_LOG_ordinal.ne F_HYBRID_ordinal (by first | decide | simp)
  refine own_go (S' := (s₁.setTop (mkF m 1 #[.val (.int i0), .val (.int i1), .unset, .unset, .unset] [(.int i0)]))) (fun _ k => XS.iloadN X0.here hx rfl (hb hby at_0) rfl k) ?_
  refine own_go (S' := (s₁.setTop (mkF m 3 #[.val (.int i0), .val (.int i1), .unset, .unset, .unset] [(.int (2147483647 : Int32)), (.int i0)]))) (X0.ldcInt hx hown (mvT hZ (hw _ (List.mem_of_getElem? (i := 0) rfl))) (g := (mkF m 1 #[.val (.int i0), .val (.int i1), .unset, .unset, .unset] [(.int i0)])) rfl (hb hby at_1)) ?_
  refine own_go (S' := (s₁.setTop (mkF m 8 #[.val (.int i0), .val (.int i1), .val (.int ((i0 &&& (2147483647 : Int32)) % (3 : Int32))), .unset, .unset] [(.int ((i0 &&& (2147483647 : Int32)) % (3 : Int32)))]))) (fun _ k => XS.iand X0.here hx rfl (hb hby at_3) rfl (XS.iconst X0.here hx rfl (hb hby at_4) (iremM X0 hx (g := (mkF m 5 #[.val (.int i0), .val (.int i1), .unset, .unset, .unset] [(.int (3 : Int32)), (.int (i0 &&& (2147483647 : Int32)))])) rfl (hb hby at_5) rfl (by decide) (XS.istoreN X0.here hx rfl (hb hby at_6) rfl (l' := #[.val (.int i0), .val (.int i1), .val (.int ((i0 &&& (2147483647 : Int32)) % (3 : Int32))), .unset, .unset]) rfl (XS.iloadN X0.here hx rfl (hb hby at_7) rfl k))))) ?_
  by_cases k0 : ((i0 &&& (2147483647 : Int32)) % (3 : Int32)) = (0 : Int32)
  · refine own_go (S' := (s₁.setTop (mkF m 11 #[.val (.int i0), .val (.int i1), .val (.int ((i0 &&& (2147483647 : Int32)) % (3 : Int32))), .unset, .unset] []))) (fun _ k => XS.ifNo X0.here hx rfl (hb hby at_8) rfl ((if0 _ _).trans (teq k0).2) k) ?_
    obtain ⟨T1, X1, e1, st1⟩ := getS2 X0 hx hZ hown (host := "") (Or.inl (hw _ (List.mem_of_getElem? (i := 1) rfl))) Via.refl e0 S_COPY (g := (mkF m 11 #[.val (.int i0), .val (.int i1), .val (.int ((i0 &&& (2147483647 : Int32)) % (3 : Int32))), .unset, .unset] [])) rfl (hb hby at_11)
    refine own_go (S' := (T1.setTop (mkF m 14 #[.val (.int i0), .val (.int i1), .val (.int ((i0 &&& (2147483647 : Int32)) % (3 : Int32))), .unset, .unset] [(.ref a_COPY)]))) st1 ?_
    refine own_go (S' := (T1.setTop (mkF m 55 #[.val (.int i0), .val (.int i1), .val (.int ((i0 &&& (2147483647 : Int32)) % (3 : Int32))), .val (.ref a_COPY), .val (.int (0 : Int32))] [(.int i1), (.ref a_COPY)]))) (fun _ k => XS.astoreN X1.here hx rfl (hb hby at_14) rfl rfl (l' := #[.val (.int i0), .val (.int i1), .val (.int ((i0 &&& (2147483647 : Int32)) % (3 : Int32))), .val (.ref a_COPY), .unset]) rfl (XS.iconst X1.here hx rfl (hb hby at_15) (XS.istore X1.here hx rfl (hb hby at_16) rfl (l' := #[.val (.int i0), .val (.int i1), .val (.int ((i0 &&& (2147483647 : Int32)) % (3 : Int32))), .val (.ref a_COPY), .val (.int (0 : Int32))]) rfl (XS.goto X1.here hx rfl (pc0 := 18) (pc' := 53) rfl (hb hby at_18) (by decide) (by decide) (XS.aloadN X1.here hx rfl (hb hby at_53) rfl rfl (XS.iloadN X1.here hx rfl (hb hby at_54) rfl k)))))) ?_
    obtain ⟨cq2, kq2, q2a, q2b, q2c⟩ := isOf hZ e1 E_COPY
    obtain ⟨v2, _, ⟨T2, L2, k2, n2⟩, -, X2, ⟨Lc2, hQ2, l2, y2, z2⟩, st2⟩ := X1.virtualBack hx (y := (⟨"atomwright/Elements$Backup", "logs", "(I)Z"⟩ : MethodName)) (z := (⟨"atomwright/Elements$Backup", "logs", "(I)Z"⟩ : MethodName)) hown (mvT hZ (hw _ (List.mem_of_getElem? (i := 4) rfl))) (mvT hZ (hw _ (List.mem_of_getElem? (i := 5) rfl))) (notFace_of_selects (args := #[]) (mvT hZ (hw _ (List.mem_of_getElem? (i := 7) rfl)))) (mvT hZ (hw _ (List.mem_of_getElem? (i := 7) rfl))) (mvT hZ (hw _ (List.mem_of_getElem? (i := 6) rfl))) (by decide) (backOf (W := 0) (rm1 l Z a0 hw [] a_COPY i1 a_LOG a_HYBRID h0 n0 Z0 S_LOG S_HYBRID) hZ (hw _ (List.mem_of_getElem? (i := 8) rfl)) (hw _ (List.mem_of_getElem? (i := 2) rfl)) (by decide) (by decide)) q2a q2c (g := (mkF m 55 #[.val (.int i0), .val (.int i1), .val (.int ((i0 &&& (2147483647 : Int32)) % (3 : Int32))), .val (.ref a_COPY), .val (.int (0 : Int32))] [(.int i1), (.ref a_COPY)])) rfl (by rw [hml]; rfl) (Steps.refl _) (argsL := [(.int i1)]) (rest := []) (lenOf pd_14 rfl) rfl (by show 2 * 0 + _ ≤ _; exact Nat.le_of_eq rfl) (hb hby at_55) (fun _ _ => ⟨rfl, e1, (by decide : 0 + 0 ≤ _), (by decide : 0 + 0 ≤ _)⟩)
    dsimp only [Pt.U, Pt.locs, Pt.cells, Pt.slots] at X2 l2 y2 z2 st2 hQ2
    subst l2 y2 z2
    obtain ⟨rfl, eh2, rfl⟩ := hQ2
    refine own_goT (S' := (T2.setTop (mkF m 58 #[.val (.int i0), .val (.int i1), .val (.int ((i0 &&& (2147483647 : Int32)) % (3 : Int32))), .val (.ref a_COPY), .val (.int (0 : Int32))] [(.int (own_lg a_COPY a_LOG a_HYBRID i1))]))) st2 ?_
    refine own_go (S' := (T2.setTop (mkF m 68 #[.val (.int i0), .val (.int i1), .val (.int ((i0 &&& (2147483647 : Int32)) % (3 : Int32))), .val (.ref a_COPY), .val (.int (0 : Int32))] [(.int (1 : Int32))]))) (fun _ k => XS.iload X2.here hx rfl (hb hby at_58) rfl (XS.icmpNo X2.here hx rfl (hb hby at_60) rfl (teq (by simp [own_lg, nCL, nCH])).2 (XS.iconst X2.here hx rfl (hb hby at_63) (XS.goto X2.here hx rfl (pc0 := 64) (pc' := 68) rfl (hb hby at_64) (by decide) (by decide) k)))) ?_
    refine own_retN (t := .boolean) X2 hx hlk (by simp) Bd.returns (hb hby at_68) (by decide) (by decide) ?_
    exact ⟨rfl, by simpa using N0⟩
  · refine own_go (S' := (s₁.setTop (mkF m 23 #[.val (.int i0), .val (.int i1), .val (.int ((i0 &&& (2147483647 : Int32)) % (3 : Int32))), .unset, .unset] [(.int (1 : Int32)), (.int ((i0 &&& (2147483647 : Int32)) % (3 : Int32)))]))) (fun _ k => XS.ifYes X0.here hx rfl (pc0 := 8) (pc' := 21) rfl (hb hby at_8) rfl ((if0 _ _).trans (feq k0).2) (by decide) (by decide) (XS.iloadN X0.here hx rfl (hb hby at_21) rfl (XS.iconst X0.here hx rfl (hb hby at_22) k))) ?_
    by_cases k1 : ((i0 &&& (2147483647 : Int32)) % (3 : Int32)) = (1 : Int32)
    · refine own_go (S' := (s₁.setTop (mkF m 26 #[.val (.int i0), .val (.int i1), .val (.int ((i0 &&& (2147483647 : Int32)) % (3 : Int32))), .unset, .unset] []))) (fun _ k => XS.icmpNo X0.here hx rfl (hb hby at_23) rfl (teq k1).2 k) ?_
      obtain ⟨T3, X3, e3, st3⟩ := getS2 X0 hx hZ hown (host := "") (Or.inl (hw _ (List.mem_of_getElem? (i := 14) rfl))) Via.refl e0 S_LOG (g := (mkF m 26 #[.val (.int i0), .val (.int i1), .val (.int ((i0 &&& (2147483647 : Int32)) % (3 : Int32))), .unset, .unset] [])) rfl (hb hby at_26)
      refine own_go (S' := (T3.setTop (mkF m 29 #[.val (.int i0), .val (.int i1), .val (.int ((i0 &&& (2147483647 : Int32)) % (3 : Int32))), .unset, .unset] [(.ref a_LOG)]))) st3 ?_
      refine own_go (S' := (T3.setTop (mkF m 55 #[.val (.int i0), .val (.int i1), .val (.int ((i0 &&& (2147483647 : Int32)) % (3 : Int32))), .val (.ref a_LOG), .val (.int (1 : Int32))] [(.int i1), (.ref a_LOG)]))) (fun _ k => XS.astoreN X3.here hx rfl (hb hby at_29) rfl rfl (l' := #[.val (.int i0), .val (.int i1), .val (.int ((i0 &&& (2147483647 : Int32)) % (3 : Int32))), .val (.ref a_LOG), .unset]) rfl (XS.iconst X3.here hx rfl (hb hby at_30) (XS.istore X3.here hx rfl (hb hby at_31) rfl (l' := #[.val (.int i0), .val (.int i1), .val (.int ((i0 &&& (2147483647 : Int32)) % (3 : Int32))), .val (.ref a_LOG), .val (.int (1 : Int32))]) rfl (XS.goto X3.here hx rfl (pc0 := 33) (pc' := 53) rfl (hb hby at_33) (by decide) (by decide) (XS.aloadN X3.here hx rfl (hb hby at_53) rfl rfl (XS.iloadN X3.here hx rfl (hb hby at_54) rfl k)))))) ?_
      obtain ⟨cq4, kq4, q4a, q4b, q4c⟩ := isOf hZ e3 E_LOG
      obtain ⟨v4, _, ⟨T4, L4, k4, n4⟩, -, X4, ⟨Lc4, hQ4, l4, y4, z4⟩, st4⟩ := X3.virtualBack hx (y := (⟨"atomwright/Elements$Backup", "logs", "(I)Z"⟩ : MethodName)) (z := (⟨"atomwright/Elements$Backup", "logs", "(I)Z"⟩ : MethodName)) hown (mvT hZ (hw _ (List.mem_of_getElem? (i := 4) rfl))) (mvT hZ (hw _ (List.mem_of_getElem? (i := 5) rfl))) (notFace_of_selects (args := #[]) (mvT hZ (hw _ (List.mem_of_getElem? (i := 7) rfl)))) (mvT hZ (hw _ (List.mem_of_getElem? (i := 7) rfl))) (mvT hZ (hw _ (List.mem_of_getElem? (i := 6) rfl))) (by decide) (backOf (W := 0) (rm1 l Z a0 hw [] a_LOG i1 a_LOG a_HYBRID h0 n0 Z0 S_LOG S_HYBRID) hZ (hw _ (List.mem_of_getElem? (i := 8) rfl)) (hw _ (List.mem_of_getElem? (i := 2) rfl)) (by decide) (by decide)) q4a q4c (g := (mkF m 55 #[.val (.int i0), .val (.int i1), .val (.int ((i0 &&& (2147483647 : Int32)) % (3 : Int32))), .val (.ref a_LOG), .val (.int (1 : Int32))] [(.int i1), (.ref a_LOG)])) rfl (by rw [hml]; rfl) (Steps.refl _) (argsL := [(.int i1)]) (rest := []) (lenOf pd_14 rfl) rfl (by show 2 * 0 + _ ≤ _; exact Nat.le_of_eq rfl) (hb hby at_55) (fun _ _ => ⟨rfl, e3, (by decide : 0 + 0 ≤ _), (by decide : 0 + 0 ≤ _)⟩)
      dsimp only [Pt.U, Pt.locs, Pt.cells, Pt.slots] at X4 l4 y4 z4 st4 hQ4
      subst l4 y4 z4
      obtain ⟨rfl, eh4, rfl⟩ := hQ4
      refine own_goT (S' := (T4.setTop (mkF m 58 #[.val (.int i0), .val (.int i1), .val (.int ((i0 &&& (2147483647 : Int32)) % (3 : Int32))), .val (.ref a_LOG), .val (.int (1 : Int32))] [(.int (own_lg a_LOG a_LOG a_HYBRID i1))]))) st4 ?_
      refine own_go (S' := (T4.setTop (mkF m 68 #[.val (.int i0), .val (.int i1), .val (.int ((i0 &&& (2147483647 : Int32)) % (3 : Int32))), .val (.ref a_LOG), .val (.int (1 : Int32))] [(.int (1 : Int32))]))) (fun _ k => XS.iload X4.here hx rfl (hb hby at_58) rfl (XS.icmpNo X4.here hx rfl (hb hby at_60) rfl (teq (by simp [own_lg])).2 (XS.iconst X4.here hx rfl (hb hby at_63) (XS.goto X4.here hx rfl (pc0 := 64) (pc' := 68) rfl (hb hby at_64) (by decide) (by decide) k)))) ?_
      refine own_retN (t := .boolean) X4 hx hlk (by simp) Bd.returns (hb hby at_68) (by decide) (by decide) ?_
      exact ⟨rfl, by simpa using N0⟩
    · refine own_go (S' := (s₁.setTop (mkF m 36 #[.val (.int i0), .val (.int i1), .val (.int ((i0 &&& (2147483647 : Int32)) % (3 : Int32))), .unset, .unset] []))) (fun _ k => XS.icmpYes X0.here hx rfl (pc0 := 23) (pc' := 36) rfl (hb hby at_23) rfl (feq k1).2 (by decide) (by decide) k) ?_
      obtain ⟨T5, X5, e5, st5⟩ := getS2 X0 hx hZ hown (host := "") (Or.inl (hw _ (List.mem_of_getElem? (i := 13) rfl))) Via.refl e0 S_HYBRID (g := (mkF m 36 #[.val (.int i0), .val (.int i1), .val (.int ((i0 &&& (2147483647 : Int32)) % (3 : Int32))), .unset, .unset] [])) rfl (hb hby at_36)
      refine own_go (S' := (T5.setTop (mkF m 39 #[.val (.int i0), .val (.int i1), .val (.int ((i0 &&& (2147483647 : Int32)) % (3 : Int32))), .unset, .unset] [(.ref a_HYBRID)]))) st5 ?_
      refine own_go (S' := (T5.setTop (mkF m 43 #[.val (.int i0), .val (.int i1), .val (.int ((i0 &&& (2147483647 : Int32)) % (3 : Int32))), .val (.ref a_HYBRID), .unset] [(.int (11 : Int32)), (.int i1)]))) (fun _ k => XS.astoreN X5.here hx rfl (hb hby at_39) rfl rfl (l' := #[.val (.int i0), .val (.int i1), .val (.int ((i0 &&& (2147483647 : Int32)) % (3 : Int32))), .val (.ref a_HYBRID), .unset]) rfl (XS.iloadN X5.here hx rfl (hb hby at_40) rfl (XS.bipush X5.here hx rfl (hb hby at_41) k))) ?_
      by_cases k2 : i1 < (11 : Int32)
      · refine own_go (S' := (T5.setTop (mkF m 55 #[.val (.int i0), .val (.int i1), .val (.int ((i0 &&& (2147483647 : Int32)) % (3 : Int32))), .val (.ref a_HYBRID), .val (.int (0 : Int32))] [(.int i1), (.ref a_HYBRID)]))) (fun _ k => XS.icmpYes X5.here hx rfl (pc0 := 43) (pc' := 50) rfl (hb hby at_43) rfl (tlt k2).1 (by decide) (by decide) (XS.iconst X5.here hx rfl (hb hby at_50) (XS.istore X5.here hx rfl (hb hby at_51) rfl (l' := #[.val (.int i0), .val (.int i1), .val (.int ((i0 &&& (2147483647 : Int32)) % (3 : Int32))), .val (.ref a_HYBRID), .val (.int (0 : Int32))]) rfl (XS.aloadN X5.here hx rfl (hb hby at_53) rfl rfl (XS.iloadN X5.here hx rfl (hb hby at_54) rfl k))))) ?_
        obtain ⟨cq6, kq6, q6a, q6b, q6c⟩ := isOf hZ e5 E_HYBRID
        obtain ⟨v6, _, ⟨T6, L6, k6, n6⟩, -, X6, ⟨Lc6, hQ6, l6, y6, z6⟩, st6⟩ := X5.virtualBack hx (y := (⟨"atomwright/Elements$Backup", "logs", "(I)Z"⟩ : MethodName)) (z := (⟨"atomwright/Elements$Backup", "logs", "(I)Z"⟩ : MethodName)) hown (mvT hZ (hw _ (List.mem_of_getElem? (i := 4) rfl))) (mvT hZ (hw _ (List.mem_of_getElem? (i := 5) rfl))) (notFace_of_selects (args := #[]) (mvT hZ (hw _ (List.mem_of_getElem? (i := 7) rfl)))) (mvT hZ (hw _ (List.mem_of_getElem? (i := 7) rfl))) (mvT hZ (hw _ (List.mem_of_getElem? (i := 6) rfl))) (by decide) (backOf (W := 0) (rm1 l Z a0 hw [] a_HYBRID i1 a_LOG a_HYBRID h0 n0 Z0 S_LOG S_HYBRID) hZ (hw _ (List.mem_of_getElem? (i := 8) rfl)) (hw _ (List.mem_of_getElem? (i := 2) rfl)) (by decide) (by decide)) q6a q6c (g := (mkF m 55 #[.val (.int i0), .val (.int i1), .val (.int ((i0 &&& (2147483647 : Int32)) % (3 : Int32))), .val (.ref a_HYBRID), .val (.int (0 : Int32))] [(.int i1), (.ref a_HYBRID)])) rfl (by rw [hml]; rfl) (Steps.refl _) (argsL := [(.int i1)]) (rest := []) (lenOf pd_14 rfl) rfl (by show 2 * 0 + _ ≤ _; exact Nat.le_of_eq rfl) (hb hby at_55) (fun _ _ => ⟨rfl, e5, (by decide : 0 + 0 ≤ _), (by decide : 0 + 0 ≤ _)⟩)
        dsimp only [Pt.U, Pt.locs, Pt.cells, Pt.slots] at X6 l6 y6 z6 st6 hQ6
        subst l6 y6 z6
        obtain ⟨rfl, eh6, rfl⟩ := hQ6
        refine own_goT (S' := (T6.setTop (mkF m 58 #[.val (.int i0), .val (.int i1), .val (.int ((i0 &&& (2147483647 : Int32)) % (3 : Int32))), .val (.ref a_HYBRID), .val (.int (0 : Int32))] [(.int (own_lg a_HYBRID a_LOG a_HYBRID i1))]))) st6 ?_
        refine own_go (S' := (T6.setTop (mkF m 68 #[.val (.int i0), .val (.int i1), .val (.int ((i0 &&& (2147483647 : Int32)) % (3 : Int32))), .val (.ref a_HYBRID), .val (.int (0 : Int32))] [(.int (1 : Int32))]))) (fun _ k => XS.iload X6.here hx rfl (hb hby at_58) rfl (XS.icmpNo X6.here hx rfl (hb hby at_60) rfl (teq (by simp [own_lg, nLH.symm, show ¬ (10 : Int32) < i1 from fun q => by have := own_ltr k2 (by decide : (11 : Int32).toInt = 11); have := own_ltl q (by decide : (10 : Int32).toInt = 10); omega])).2 (XS.iconst X6.here hx rfl (hb hby at_63) (XS.goto X6.here hx rfl (pc0 := 64) (pc' := 68) rfl (hb hby at_64) (by decide) (by decide) k)))) ?_
        refine own_retN (t := .boolean) X6 hx hlk (by simp) Bd.returns (hb hby at_68) (by decide) (by decide) ?_
        exact ⟨rfl, by simpa using N0⟩
      · refine own_go (S' := (T5.setTop (mkF m 55 #[.val (.int i0), .val (.int i1), .val (.int ((i0 &&& (2147483647 : Int32)) % (3 : Int32))), .val (.ref a_HYBRID), .val (.int (1 : Int32))] [(.int i1), (.ref a_HYBRID)]))) (fun _ k => XS.icmpNo X5.here hx rfl (hb hby at_43) rfl (flt k2).1 (XS.iconst X5.here hx rfl (hb hby at_46) (XS.goto X5.here hx rfl (pc0 := 47) (pc' := 51) rfl (hb hby at_47) (by decide) (by decide) (XS.istore X5.here hx rfl (hb hby at_51) rfl (l' := #[.val (.int i0), .val (.int i1), .val (.int ((i0 &&& (2147483647 : Int32)) % (3 : Int32))), .val (.ref a_HYBRID), .val (.int (1 : Int32))]) rfl (XS.aloadN X5.here hx rfl (hb hby at_53) rfl rfl (XS.iloadN X5.here hx rfl (hb hby at_54) rfl k)))))) ?_
        obtain ⟨cq7, kq7, q7a, q7b, q7c⟩ := isOf hZ e5 E_HYBRID
        obtain ⟨v7, _, ⟨T7, L7, k7, n7⟩, -, X7, ⟨Lc7, hQ7, l7, y7, z7⟩, st7⟩ := X5.virtualBack hx (y := (⟨"atomwright/Elements$Backup", "logs", "(I)Z"⟩ : MethodName)) (z := (⟨"atomwright/Elements$Backup", "logs", "(I)Z"⟩ : MethodName)) hown (mvT hZ (hw _ (List.mem_of_getElem? (i := 4) rfl))) (mvT hZ (hw _ (List.mem_of_getElem? (i := 5) rfl))) (notFace_of_selects (args := #[]) (mvT hZ (hw _ (List.mem_of_getElem? (i := 7) rfl)))) (mvT hZ (hw _ (List.mem_of_getElem? (i := 7) rfl))) (mvT hZ (hw _ (List.mem_of_getElem? (i := 6) rfl))) (by decide) (backOf (W := 0) (rm1 l Z a0 hw [] a_HYBRID i1 a_LOG a_HYBRID h0 n0 Z0 S_LOG S_HYBRID) hZ (hw _ (List.mem_of_getElem? (i := 8) rfl)) (hw _ (List.mem_of_getElem? (i := 2) rfl)) (by decide) (by decide)) q7a q7c (g := (mkF m 55 #[.val (.int i0), .val (.int i1), .val (.int ((i0 &&& (2147483647 : Int32)) % (3 : Int32))), .val (.ref a_HYBRID), .val (.int (1 : Int32))] [(.int i1), (.ref a_HYBRID)])) rfl (by rw [hml]; rfl) (Steps.refl _) (argsL := [(.int i1)]) (rest := []) (lenOf pd_14 rfl) rfl (by show 2 * 0 + _ ≤ _; exact Nat.le_of_eq rfl) (hb hby at_55) (fun _ _ => ⟨rfl, e5, (by decide : 0 + 0 ≤ _), (by decide : 0 + 0 ≤ _)⟩)
        dsimp only [Pt.U, Pt.locs, Pt.cells, Pt.slots] at X7 l7 y7 z7 st7 hQ7
        subst l7 y7 z7
        obtain ⟨rfl, eh7, rfl⟩ := hQ7
        refine own_goT (S' := (T7.setTop (mkF m 58 #[.val (.int i0), .val (.int i1), .val (.int ((i0 &&& (2147483647 : Int32)) % (3 : Int32))), .val (.ref a_HYBRID), .val (.int (1 : Int32))] [(.int (own_lg a_HYBRID a_LOG a_HYBRID i1))]))) st7 ?_
        refine own_go (S' := (T7.setTop (mkF m 68 #[.val (.int i0), .val (.int i1), .val (.int ((i0 &&& (2147483647 : Int32)) % (3 : Int32))), .val (.ref a_HYBRID), .val (.int (1 : Int32))] [(.int (1 : Int32))]))) (fun _ k => XS.iload X7.here hx rfl (hb hby at_58) rfl (XS.icmpNo X7.here hx rfl (hb hby at_60) rfl (teq (by simp [own_lg, nLH.symm, show (10 : Int32) < i1 from by have := own_nltr k2 (by decide : (11 : Int32).toInt = 11); rw [Int32.lt_iff_toInt_lt]; have : (10 : Int32).toInt = 10 := (by decide); omega])).2 (XS.iconst X7.here hx rfl (hb hby at_63) (XS.goto X7.here hx rfl (pc0 := 64) (pc' := 68) rfl (hb hby at_64) (by decide) (by decide) k)))) ?_
        refine own_retN (t := .boolean) X7 hx hlk (by simp) Bd.returns (hb hby at_68) (by decide) (by decide) ?_
        exact ⟨rfl, by simpa using N0⟩
set_option maxRecDepth 65536 in
set_option maxHeartbeats 40000000 in
theorem comes_1 {Post : Tables → Env → Array Value → State → Outcome → State → Prop} (hpost : ∀ tb e args s v u, (limb_1_1.after args s (.returned v) u = true ∧ limb_1_2.after args s (.returned v) u = true ∧ True) → FrameEnd s (.returned v) u (Jvm.fieldLocs frame_1_writes args s ++ Jvm.arrayLocs frame_1_arrays args s ++ Jvm.staticLocs frame_1_statics s) 0 0 → Post tb e args s (.returned v) u) :
    ArmFor flags0 classFile x code maxLocals ret World_1 tables_1 room_1 Calls_1 rest_1 Pre_1 Post := by
  intro l hfl _ _ p e ha hc hk s m args below hf hA hF happ hP
  obtain ⟨hcalls, hrest, hpre⟩ := hP
  obtain ⟨-, -, -, hnamed, -, -, -, hat⟩ := (Spec.applies_iff hf).mp happ
  obtain ⟨hg, hn⟩ := and_e (Cond.before_iff.mp (show (Jvm.Cond.and given_1 narrow_1).before args s = true from hpre))
  obtain ⟨h1, h2⟩ := and_e hg
  obtain ⟨w0, w1, rfl⟩ : ∃ w0 w1 : Value, args = #[w0, w1] := by
    have hs : args.size = 2 := by simpa [Cond.value, given_1] using h1
    obtain ⟨L⟩ := args
    match L, hs with
    | [w0, w1], _ => exact ⟨w0, w1, rfl⟩
  have hw := fun d (hd : d ∈ tables_1) => atoms_spec (ws := Jvm.Cond.code x code maxLocals ret :: tables_1) hat d (List.mem_cons_of_mem _ hd)
  have hfit : Fit s := fun {y c} hc i hi => by
    obtain ⟨ha, rfl⟩ := Array.getElem?_eq_some_iff.mp hc
    have q := List.all_eq_true.mp ((Array.all_eq_true_iff_forall_mem.mp hF) _ (Array.getElem_mem ha)) i (List.mem_range.mpr hi)
    simpa [Array.getElem?_eq_getElem hi] using q
  obtain ⟨hk0, hr0⟩ := and_e h2
  obtain ⟨i0, ev0⟩ := is_v hk0
  obtain rfl : w0 = (.int i0) := Option.some.inj ev0
  obtain ⟨i1, ev1⟩ := is_v hr0
  obtain rfl : w1 = (.int i1) := Option.some.inj ev1
  obtain ⟨nw0, nr0⟩ := and_e hn
  obtain ⟨nw1, nr1⟩ := and_e nr0
  obtain ⟨nw2, nr2⟩ := and_e nr1
  obtain ⟨nw3, nr3⟩ := and_e nr2
  obtain ⟨nw4, nr4⟩ := and_e nr3
  obtain ⟨a_COPY, ev_COPY⟩ := exa_v nw0
  have E_COPY := Exa.start ev_COPY nw0
  have S_COPY := Sta.start ev_COPY (Or.inr ⟨(hw _ (List.mem_of_getElem? (i := 2) rfl)), (hw _ (List.mem_of_getElem? (i := 3) rfl))⟩)
  obtain ⟨a_LOG, ev_LOG⟩ := exa_v nw1
  have E_LOG := Exa.start ev_LOG nw1
  have S_LOG := Sta.start ev_LOG (Or.inr ⟨(hw _ (List.mem_of_getElem? (i := 2) rfl)), (hw _ (List.mem_of_getElem? (i := 10) rfl))⟩)
  obtain ⟨a_HYBRID, ev_HYBRID⟩ := exa_v nw4
  have E_HYBRID := Exa.start ev_HYBRID nw4
  have S_HYBRID := Sta.start ev_HYBRID (Or.inr ⟨(hw _ (List.mem_of_getElem? (i := 2) rfl)), (hw _ (List.mem_of_getElem? (i := 12) rfl))⟩)
  have F_COPY_ordinal := Fld.start ((fld_at ev_COPY).symm.trans (own_eqInt nw2))
  have F_LOG_ordinal := Fld.start ((fld_at ev_LOG).symm.trans (own_eqInt nw3))
  have F_HYBRID_ordinal := Fld.start ((fld_at ev_HYBRID).symm.trans (own_eqInt nr4))
  obtain ⟨n, o, h1, h2, h3, _, L, rfl, ⟨rfl, N⟩, hq⟩ := rm0 l s _ hw tables_1 i0 i1 a_COPY a_LOG a_HYBRID s.heap s.heap.size (Nat.le_refl _) S_COPY S_LOG S_HYBRID E_COPY E_LOG E_HYBRID F_COPY_ordinal F_LOG_ordinal F_HYBRID_ordinal p e ha hc hk s m _ below hf ((Spec.applies_iff_loose hf).mp happ).1 ⟨rfl, State.Warmed39.refl s, rfl⟩ trivial
  refine ⟨n, _, h1, h2, h3, hpost _ _ _ _ _ _ ⟨Cond.after_iff.mpr rfl, Cond.after_iff.mpr (eq_i res_at (Term.int_eval (1)) rfl), trivial⟩ ⟨hq.1, hq.2.1, (hq.2.2.sift fun y hy => Or.inr (N y hy)).mono (by decide) (by decide)⟩⟩
theorem main_1_1 : Claimed_1_1 := comes_1 fun _ _ _ _ _ _ h hF => ⟨h.1, hF⟩
theorem main_1_2 : Claimed_1_2 := comes_1 fun _ _ _ _ _ _ h hF => ⟨h.2.1, hF⟩
end Jvm.Pilot.@@N@@
namespace Jvm.Pilot.@@N@@
open Jvm Jvm.ClassFile Sem Op Lib Jvm.Free Jvm.Stand Jvm.Pilot.@@N@@.Jvm.D
/-! MADE BY PROGRAM (witnessworld.py) out of the Statement's table words and the real class files: 12 classes; the members and pool entries that the words name. The judged class is class 1, her method 1. -/
namespace start1
open Jvm.ClassFile
def u (s : String) : CpInfo := .utf8 (stringToUtf16 s)
/-- a pool by its gaps: so many unusable entries, then the entry; so many at the end -/
def gap : Nat → List CpInfo → List CpInfo
  | 0, r => r
  | n + 1, r => .unusable :: gap n r
def poolList (es : List (Nat × CpInfo)) (last : Nat) : List CpInfo := es.foldr (fun e r => gap e.1 (e.2 :: r)) (gap last [])
def pool (es : List (Nat × CpInfo)) (last : Nat) : Array CpInfo := ⟨poolList es last⟩
def fileOf (pool : Array CpInfo) (this : Nat) (attrs : Array Attribute := #[]) (ms : Array MethodInfo := #[]) (fl : Nat := 33) (sup : Nat := 0) (ifs : Array Nat := #[]) (fds : Array FieldInfo := #[]) : ClassFile where
  minorVersion := 0
  majorVersion := 65
  constantPool := pool
  accessFlags := fl
  thisClass := this
  superClass := sup
  interfaces := ifs
  fields := fds
  methods := ms
  attributes := attrs
def plain (name : String) (sup : Option ClassId) : Class where
  name := name
  kind := .ordinary
  loader := none
  accessFlags := 33
  super := sup
  interfaces := #[]
  cf := none
  fields := #[]
  methods := #[]
  instanceTypes := #[]
  staticTypes := #[]
  resolved := #[]
  callSites := []
  init := .initialized
  statics := none
  mirror := none

def pool0 : Array CpInfo := pool [(5, u "<init>"), (0, u "()V"), (1, .class_ 10), (1, u "java/lang/Object")] 113

def k0m0 : Method := { name := "<init>", desc := "()V", sig := { parameters := [], returnType := none }, accessFlags := 1, code := none }
/-- java/lang/Object -/
def k0 : Class := { plain "java/lang/Object" none with
  accessFlags := 33
  interfaces := #[]
  cf := some (fileOf pool0 8 #[] #[{ accessFlags := 1, nameIndex := 5, descriptorIndex := 6, attributes := #[] }] 33 0 #[] #[])
  fields := #[]
  methods := #[k0m0]
  instanceTypes := #[]
  staticTypes := #[]
  resolved := Array.replicate 124 none
  statics := none }

def pool1 : Array CpInfo := pool [(2, .class_ 4), (1, u "java/lang/Object"), (0, u "<init>"), (0, u "()V"), (0, .integer 2147483647), (0, .fieldref 9 10), (0, .class_ 11), (0, .nameAndType 12 13), (0, u "atomwright/Elements$Backup"), (0, u "COPY"), (0, u "Latomwright/Elements$Backup;"), (0, .fieldref 9 15), (0, .nameAndType 16 13), (0, u "LOG"), (0, .fieldref 9 18), (0, .nameAndType 19 13), (0, u "HYBRID"), (0, .methodref 9 21), (0, .nameAndType 22 23), (0, u "logs"), (0, u "(I)Z"), (0, .class_ 25), (0, u "atomwright/BackupLogsPinLaw"), (2, u "law"), (0, u "(II)Z")] 7

def k1m0 : Method := { name := "<init>", desc := "()V", sig := { parameters := [], returnType := none }, accessFlags := 1, code := none }
def k1c1 : Code := { maxStack := 2, maxLocals := 5, code := code, exceptionTable := #[], attributes := #[] }
def k1m1 : Method := { name := "law", desc := "(II)Z", sig := { parameters := [.int, .int], returnType := some .boolean }, accessFlags := 9, code := some k1c1 }
/-- atomwright/BackupLogsPinLaw -/
def k1 : Class := { plain "atomwright/BackupLogsPinLaw" (some 0) with
  accessFlags := 49
  interfaces := #[]
  cf := some (fileOf pool1 24 #[] #[{ accessFlags := 1, nameIndex := 5, descriptorIndex := 6, attributes := #[] }, { accessFlags := 9, nameIndex := 28, descriptorIndex := 29, attributes := #[] }] 49 2 #[] #[])
  fields := #[]
  methods := #[k1m0, k1m1]
  instanceTypes := #[]
  staticTypes := #[]
  resolved := Array.replicate 37 none
  statics := none }

def pool2 : Array CpInfo := pool [(1, .class_ 2), (0, u "java/lang/constant/Constable"), (0, .class_ 4), (0, u "java/lang/Object")] 6

/-- java/lang/constant/Constable -/
def k2 : Class := { plain "java/lang/constant/Constable" (some 0) with
  accessFlags := 1537
  interfaces := #[]
  cf := some (fileOf pool2 1 #[] #[] 1537 3 #[] #[])
  fields := #[]
  methods := #[]
  instanceTypes := #[]
  staticTypes := #[]
  resolved := Array.replicate 11 none
  statics := none }

def pool3 : Array CpInfo := pool [(1, .class_ 2), (0, u "java/lang/Comparable"), (0, .class_ 4), (0, u "java/lang/Object")] 7

/-- java/lang/Comparable -/
def k3 : Class := { plain "java/lang/Comparable" (some 0) with
  accessFlags := 1537
  interfaces := #[]
  cf := some (fileOf pool3 1 #[] #[] 1537 3 #[] #[])
  fields := #[]
  methods := #[]
  instanceTypes := #[]
  staticTypes := #[]
  resolved := Array.replicate 12 none
  statics := none }

def pool4 : Array CpInfo := pool [(1, .class_ 2), (0, u "java/io/Serializable"), (0, .class_ 4), (0, u "java/lang/Object")] 2

/-- java/io/Serializable -/
def k4 : Class := { plain "java/io/Serializable" (some 0) with
  accessFlags := 1537
  interfaces := #[]
  cf := some (fileOf pool4 1 #[] #[] 1537 3 #[] #[])
  fields := #[]
  methods := #[]
  instanceTypes := #[]
  staticTypes := #[]
  resolved := Array.replicate 7 none
  statics := none }

def pool5 : Array CpInfo := pool [(2, .class_ 4), (1, u "java/lang/Enum"), (0, u "name"), (0, u "Ljava/lang/String;"), (2, u "ordinal"), (0, u "I"), (1, .class_ 14), (1, u "java/lang/Object"), (4, u "hash"), (86, .class_ 108), (1, u "java/lang/Enum$EnumDesc"), (2, .class_ 112), (0, u "java/lang/constant/Constable"), (0, .class_ 114), (0, u "java/lang/Comparable"), (0, .class_ 116), (0, u "java/io/Serializable")] 87

/-- java/lang/Enum -/
def k5 : Class := { plain "java/lang/Enum" (some 0) with
  accessFlags := 1057
  interfaces := #[2, 3, 4]
  cf := some (fileOf pool5 2 #[.nestMembers #[106]] #[] 1057 12 #[111, 113, 115] #[{ accessFlags := 18, nameIndex := 5, descriptorIndex := 6, attributes := #[] }, { accessFlags := 18, nameIndex := 9, descriptorIndex := 10, attributes := #[] }, { accessFlags := 2, nameIndex := 19, descriptorIndex := 10, attributes := #[] }])
  fields := #[{ name := "name", type := (.object "java/lang/String"), accessFlags := 18, slot := 0, constantValue := 0 }, { name := "ordinal", type := .int, accessFlags := 18, slot := 1, constantValue := 0 }, { name := "hash", type := .int, accessFlags := 2, slot := 2, constantValue := 0 }]
  methods := #[]
  instanceTypes := #[(.object "java/lang/String"), .int, .int]
  staticTypes := #[]
  resolved := Array.replicate 204 none
  statics := none }

def pool6 : Array CpInfo := pool [(1, .class_ 2), (0, u "atomwright/Elements"), (0, .class_ 4), (0, u "atomwright/Elements$Backup"), (2, u "COPY"), (0, u "Latomwright/Elements$Backup;"), (0, .fieldref 3 10), (0, .nameAndType 11 8), (0, u "LOG"), (0, .fieldref 3 13), (0, .nameAndType 14 8), (0, u "HYBRID"), (2, u "$VALUES"), (0, u "[Latomwright/Elements$Backup;"), (6, .class_ 27), (1, u "java/lang/Enum"), (8, u "value"), (0, u "Ljava/lang/String;"), (39, u "logs"), (0, u "(I)Z")] 24

def k6c0 : Code := { maxStack := 2, maxLocals := 2, code := prog_20_method_4_code, exceptionTable := #[], attributes := #[] }
def k6m0 : Method := { name := "logs", desc := "(I)Z", sig := { parameters := [.int], returnType := some .boolean }, accessFlags := 0, code := some k6c0 }
/-- atomwright/Elements$Backup -/
def k6 : Class := { plain "atomwright/Elements$Backup" (some 5) with
  accessFlags := 16432
  interfaces := #[]
  cf := some (fileOf pool6 3 #[.nestHost 1] #[{ accessFlags := 0, nameIndex := 77, descriptorIndex := 78, attributes := #[] }] 16432 25 #[] #[{ accessFlags := 16409, nameIndex := 7, descriptorIndex := 8, attributes := #[] }, { accessFlags := 16409, nameIndex := 11, descriptorIndex := 8, attributes := #[] }, { accessFlags := 16409, nameIndex := 14, descriptorIndex := 8, attributes := #[] }, { accessFlags := 16, nameIndex := 36, descriptorIndex := 37, attributes := #[] }, { accessFlags := 4122, nameIndex := 17, descriptorIndex := 18, attributes := #[] }])
  fields := #[{ name := "COPY", type := (.object "atomwright/Elements$Backup"), accessFlags := 16409, slot := 0, constantValue := 0 }, { name := "LOG", type := (.object "atomwright/Elements$Backup"), accessFlags := 16409, slot := 1, constantValue := 0 }, { name := "HYBRID", type := (.object "atomwright/Elements$Backup"), accessFlags := 16409, slot := 2, constantValue := 0 }, { name := "value", type := (.object "java/lang/String"), accessFlags := 16, slot := 3, constantValue := 0 }, { name := "$VALUES", type := (.array (.object "atomwright/Elements$Backup")), accessFlags := 4122, slot := 3, constantValue := 0 }]
  methods := #[k6m0]
  instanceTypes := #[(.object "java/lang/String"), .int, .int, (.object "java/lang/String")]
  staticTypes := #[(.object "atomwright/Elements$Backup"), (.object "atomwright/Elements$Backup"), (.object "atomwright/Elements$Backup"), (.array (.object "atomwright/Elements$Backup"))]
  resolved := Array.replicate 103 none
  statics := some 0 }

def pool7 : Array CpInfo := pool [(1, u "java/lang/Cloneable"), (0, .class_ 1), (0, u "java/lang/Object"), (0, .class_ 3)] 3

/-- java/lang/Cloneable -/
def k7 : Class := { plain "java/lang/Cloneable" (some 0) with
  accessFlags := 1537
  interfaces := #[]
  cf := some (fileOf pool7 2 #[] #[] 1537 4 #[] #[])
  fields := #[]
  methods := #[]
  instanceTypes := #[]
  staticTypes := #[]
  resolved := Array.replicate 8 none
  statics := none }

/-- the primitive byte -/
def k8 : Class := { plain "byte" none with kind := .primitive 'B', accessFlags := 0x411 }
/-- [B -/
def k9 : Class := { plain "[B" (some 0) with kind := .array 8 .byte, interfaces := #[7, 4], accessFlags := 1041 }

/-- the primitive int -/
def k10 : Class := { plain "int" none with kind := .primitive 'I', accessFlags := 0x411 }
/-- [I -/
def k11 : Class := { plain "[I" (some 0) with kind := .array 10 .int, interfaces := #[7, 4], accessFlags := 1041 }

def heap : Heap := #[{ cls := 6, slots := #[.ref 1, .ref 2, .ref 3, .null], vm := .statics 6 },
  { cls := 6, slots := #[.null, .int 0, .int 0, .null], vm := .none },
  { cls := 6, slots := #[.null, .int 1, .int 0, .null], vm := .none },
  { cls := 6, slots := #[.null, .int 2, .int 0, .null], vm := .none }]
def classes : Array Class := #[k0, k1, k2, k3, k4, k5, k6, k7, k8, k9, k10, k11]
def interned : List (Array UInt16 × Addr) := []
def slotsUsed : Nat := 16
def theMethod : MethodId := ⟨1, 1⟩
def args0 : Array Value := #[.int 5, .int 300]
def aboutOver (below : List Frame) : State where
  vm := { classes := classes, interned := interned.toArray }
  heap := heap
  slotsUsed := slotsUsed
  threads := #[{ frames := .invoking theMethod args0 :: below }]
def below0 : List Frame := [.native { method := ⟨0, 0⟩, args := #[] }]
def about1 : State := aboutOver below0
def p0 : Program := .bare "" "" ""
def e0 : Env := launch0.env 0 0 0
theorem w_frames : about1.frames = Frame.invoking theMethod args0 :: below0 := rfl
set_option maxRecDepth 65536 in
theorem w_args : argsFit about1.vm theMethod args0 = true := by decide +kernel
set_option maxRecDepth 65536 in
theorem w_heap : heapFits about1 = true := by decide +kernel
set_option maxRecDepth 65536 in
theorem w_runnable : about1.curStatus? = some .runnable := by decide +kernel
set_option maxRecDepth 65536 in
theorem w_alone : about1.alone = true := by decide +kernel
set_option maxRecDepth 65536 in
theorem w_named : about1.methodNamed? x = some theMethod := by decide +kernel
set_option maxRecDepth 65536 in
theorem w_hears : about1.hears theMethod below0 = true := by decide +kernel
set_option maxRecDepth 65536 in
theorem w_ripe : about1.ripe theMethod args0 below0 = true := by decide +kernel
theorem w_running : about1.status = .running := rfl
set_option maxRecDepth 65536 in
theorem w_room : about1.hasRoom e0.platform room_1 = true :=
  launch0.hasRoom_least _ room_1 (by decide +kernel) (by decide +kernel) (by decide +kernel) (by decide +kernel) (by decide +kernel) (by decide +kernel)
theorem allAtoms_all (ts : List Jvm.Cond) (a : Array Jvm.Value) (st : Jvm.State) : (allAtoms ts).before a st = ts.all (fun c => c.before a st) := by
  induction ts with
  | nil => rfl
  | cons c t ih =>
    show (Jvm.Cond.and c (allAtoms t)).before a st = _
    rw [Jvm.Cond.before_and, ih, List.all_cons]
def words1 : List Jvm.Cond := Jvm.Cond.code x code maxLocals ret :: tables_1
/-- a 'code' word, met by the world's own term for the bytes: nothing is compared byte by byte -/
theorem code_word {y : MethodName} {bytes : ByteArray} {mx : Nat} {rt : Option FieldType} {a : Array Value} {s : State} {m : MethodId} {meth : Method} {c : Code} (h1 : s.methodNamed? y = some m) (h2 : s.vm.method? m = some meth) (h3 : meth.code = some c) (h4 : c.code = bytes)
    (h5 : (c.maxLocals == mx && c.exceptionTable.isEmpty && decide (c.maxStack ≤ mostOperands) && decide (meth.sig.returnType = rt) && !meth.locks && decide (parseMethodDescriptor y.desc = some meth.sig)) = true) : (Jvm.Cond.code y bytes mx rt).before a s = true := by
  simp only [Bool.and_eq_true, beq_iff_eq, Bool.not_eq_true', decide_eq_true_eq] at h5
  obtain ⟨⟨⟨⟨⟨g1, g2⟩, g3⟩, g4⟩, g5⟩, g6⟩ := h5
  simp [Cond.before, Cond.holds, Cond.value, h1, h2, h3, h4, g1, g2, g3, g4, g5, g6]
def isCode : Jvm.Cond → Bool
  | .code _ _ _ _ => true
  | _ => false
theorem all_split {L : List Jvm.Cond} {P : Jvm.Cond → Bool} (h1 : L.all (fun c => isCode c || P c) = true) (h2 : ∀ c ∈ L.filter isCode, P c = true) : L.all P = true := by
  refine List.all_eq_true.mpr fun c hc => ?_
  have h := List.all_eq_true.mp h1 c hc
  rcases Bool.eq_false_or_eq_true (isCode c) with hi | hi
  · exact h2 c (List.mem_filter.mpr ⟨hc, hi⟩)
  · simpa [hi] using h
set_option maxRecDepth 65536 in
theorem w_c0 : (Jvm.Cond.code x code maxLocals ret).before args0 about1 = true := code_word (m := ⟨1, 1⟩) (meth := k1m1) (c := k1c1) (by decide +kernel) rfl rfl rfl (by decide +kernel)
set_option maxRecDepth 65536 in
theorem w_c1 : (Jvm.Cond.code ({ cls := "atomwright/Elements$Backup", name := "logs", desc := "(I)Z" } : Jvm.MethodName) prog_20_method_4_code (2 : Nat) (Option.some Jvm.ClassFile.FieldType.boolean)).before args0 about1 = true := code_word (m := ⟨6, 0⟩) (meth := k6m0) (c := k6c0) (by decide +kernel) rfl rfl rfl (by decide +kernel)
def codes1 : List Jvm.Cond := [Jvm.Cond.code x code maxLocals ret, Jvm.Cond.code ({ cls := "atomwright/Elements$Backup", name := "logs", desc := "(I)Z" } : Jvm.MethodName) prog_20_method_4_code (2 : Nat) (Option.some Jvm.ClassFile.FieldType.boolean)]
set_option maxRecDepth 65536 in
theorem codes_eq : words1.filter isCode = codes1 := rfl
theorem w_codes : ∀ c ∈ words1.filter isCode, c.before args0 about1 = true := by
  rw [codes_eq]
  intro c hc
  simp only [codes1, List.mem_cons, List.not_mem_nil, or_false] at hc
  rcases hc with rfl | rfl
  · exact w_c0
  · exact w_c1
set_option maxRecDepth 65536 in
theorem w_t1 : words1.all (fun c => isCode c || c.before args0 about1) = true := by decide +kernel
theorem w_tables : (allAtoms (Jvm.Cond.code x code maxLocals ret :: tables_1)).before args0 about1 = true := by
  rw [allAtoms_all]
  show words1.all (fun c => c.before args0 about1) = true
  refine all_split ?_ w_codes
  rw [w_t1]
set_option maxRecDepth 65536 in
theorem w_case : (Jvm.Cond.and given_1 narrow_1).before args0 about1 = true := by decide +kernel
theorem w_applies : (headSpec (Jvm.Cond.code x code maxLocals ret :: tables_1) room_1).applies x e0.platform about1 = true :=
  (Spec.applies_iff w_frames).mpr ⟨w_running, w_runnable, w_alone, w_named, w_hears, w_ripe, w_room, w_tables⟩
theorem atStart : AtStart classFile x code maxLocals ret World_1 tables_1 room_1 Calls_1 rest_1 Pre_1 launch0 p0 e0 about1 theMethod args0 below0 :=
  ⟨lists_1, trivial, launch0.admits_env _ _ _, launch0.least_env, fairChoices_fair.cas, fairChoices_fair.clock, w_frames, w_args, w_heap, w_applies, trivial, trivial, w_case⟩
end start1
theorem witness_1 : WitnessClaimed_1 := ⟨start1.p0, start1.e0, start1.about1, start1.theMethod, start1.args0, start1.below0, start1.atStart⟩
end Jvm.Pilot.@@N@@
