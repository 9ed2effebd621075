import JvmDerived
import JvmDerived.Pilot.@@N@@Statement
import JvmDerived.Pilot.@@N@@Code
set_option linter.unusedVariables false
set_option linter.unusedSimpArgs false
namespace Jvm.RoadKit
open Sem ClassFile Op Lib Jvm.Stand Jvm.Free Jvm.LawKit
section New
variable {p : Program} {l : Launch} {e : Env} {R : Room} {s : State} {m : MethodId} {args : Array Value} {below : List Frame} {meth : Method} {c : Code} {T : State} {locs : List Loc} {cells slots : Nat}
theorem retI (X : Stand p l e R s m args below meth c T locs cells slots) (hx : p.tables.exec = Jvm.exec) {pc : Nat} {Ls : Array Slot} {z : Int32} {rest : List Value} (hret : meth.sig.returnType = some .int) (hd : decode c.code pc = .ok (.ireturn, 1)) {fs : List Frame}
    (hl : ∀ (f : JFrame) (acts : List Action), f.method = m → f.locked = none → f.entered = [] → (doReturn e (T.setTop f) acts (some (.int z))).1 = T.setFrames fs) : Steps p.tables e below (T.setTop (mkF m pc Ls (.int z :: rest))) (T.setFrames fs) := by
  have hm' : T.vm.method? m = some meth := X.method'
  have hn : narrow .int (.int z) = .int z := rfl
  show Steps p.tables e below (T.setTop { method := m, pc := pc, locals := Ls, stack := _ :: rest, locked := none }) _
  jvm_step X.here [X.here.top, hx, hd, hm', hret, hn]
  first | (intro acts; rw [hl _ acts rfl rfl rfl]) | rw [hl _ _ rfl rfl rfl]
  exact Steps.refl _
end New
end Jvm.RoadKit
namespace Jvm.Pilot.@@N@@
open Jvm Jvm.ClassFile Sem Op Lib Jvm.Free Jvm.Stand Jvm.LawKit Jvm.RoadKit Bundle Jvm.Pilot.@@N@@.Jvm.D
section OwnGo
variable {p : Program} {l : Launch} {e : Env} {R : Room} {s : State} {m : MethodId} {args : Array Value} {below : List Frame} {meth : Method} {c : Code} {T : State} {locs : List Loc} {cells slots : Nat} {Q : Option Value → Heap → List Loc → Prop} {ck sk : Nat}
/-- from the state S the body comes to its end, and what it returns and leaves meets Q -/
def own_Go (p : Program) (e : Env) (below : List Frame) (s : State) (Q : Option Value → Heap → List Loc → Prop) (ck sk : Nat) (S : State) : Prop :=
  ∃ s₂ o, Steps p.tables e below S s₂ ∧ s₂.status = .running ∧ Ended s₂ below o ∧ ∃ v L, o = .returned v ∧ Q v s₂.heap L ∧ FrameEnd s o s₂ L ck sk
theorem own_go {S S' : State} (st : ∀ t, Steps p.tables e below S' t → Steps p.tables e below S t) (k : own_Go p e below s Q ck sk S') : own_Go p e below s Q ck sk S := by
  obtain ⟨a, b, h, r⟩ := k; exact ⟨a, b, st _ h, r⟩
theorem own_goT {S S' : State} (st : Steps p.tables e below S S') (k : own_Go p e below s Q ck sk S') : own_Go p e below s Q ck sk S := own_go (fun _ h => st.trans h) k
theorem own_retI (X : Stand p l e R s m args below meth c T locs cells slots) (hx : p.tables.exec = Jvm.exec) (hlk : meth.locks = false) {pc : Nat} {Ls : Array Slot} {z : Int32} {rest : List Value} (hret : meth.sig.returnType = some .int) (hd : decode c.code pc = .ok (.ireturn, 1)) (hc : cells ≤ ck) (hs : slots ≤ sk)
    (q : Q (some (.int z)) T.heap locs) : own_Go p e below s Q ck sk (T.setTop (mkF m pc Ls (.int z :: rest))) := by
  obtain ⟨fs, hr, hrun, hended, hW, hsame⟩ := X.leave (v := some (.int z)) (fun h => by rw [hret] at h; cases h) hlk
  exact ⟨_, _, retI X hx hret hd hr, hrun, hended, _, _, rfl, q, ⟨_, rfl⟩, hW, hsame.mono hc hs⟩
theorem own_retN (X : Stand p l e R s m args below meth c T locs cells slots) (hx : p.tables.exec = Jvm.exec) (hlk : meth.locks = false) {t : FieldType} {pc : Nat} {Ls : Array Slot} {z : Int32} {rest : List Value} (ht : t = .boolean ∨ t = .byte ∨ t = .char ∨ t = .short) (hret : meth.sig.returnType = some t) (hd : decode c.code pc = .ok (.ireturn, 1)) (hc : cells ≤ ck) (hs : slots ≤ sk)
    (q : Q (some (.int (nar t z))) T.heap locs) : own_Go p e below s Q ck sk (T.setTop (mkF m pc Ls (.int z :: rest))) := by
  obtain ⟨fs, hr, hrun, hended, hW, hsame⟩ := X.leave (v := some (.int (nar t z))) (fun h => by rw [hret] at h; cases h) hlk
  exact ⟨_, _, retN X hx hret ht hd hr, hrun, hended, _, _, rfl, q, ⟨_, rfl⟩, hW, hsame.mono hc hs⟩
theorem own_ret0 (X : Stand p l e R s m args below meth c T locs cells slots) (hx : p.tables.exec = Jvm.exec) (hlk : meth.locks = false) {pc : Nat} {Ls : Array Slot} (hret : meth.sig.returnType = none) (hd : decode c.code pc = .ok (.return_, 1)) (hc : cells ≤ ck) (hs : slots ≤ sk)
    (q : Q none T.heap locs) : own_Go p e below s Q ck sk (T.setTop (mkF m pc Ls [])) := by
  obtain ⟨fs, hr, hrun, hended, hW, hsame⟩ := X.leave (v := none) (fun _ => rfl) hlk
  exact ⟨_, _, X.returnOut hx hret hd hr, hrun, hended, _, _, rfl, q, ⟨_, rfl⟩, hW, hsame.mono hc hs⟩
theorem own_retA (X : Stand p l e R s m args below meth c T locs cells slots) (hx : p.tables.exec = Jvm.exec) (hlk : meth.locks = false) {t : FieldType} {pc : Nat} {Ls : Array Slot} {w : Value} (hw : w.isRef = true) (ht : t.isReference = true) (hret : meth.sig.returnType = some t) (hd : decode c.code pc = .ok (.areturn, 1)) (hc : cells ≤ ck) (hs : slots ≤ sk)
    (q : Q (some w) T.heap locs) : own_Go p e below s Q ck sk (T.setTop (mkF m pc Ls [w])) := by
  obtain ⟨fs, hr, hrun, hended, hW, hsame⟩ := X.leave (v := some w) (fun h => by rw [hret] at h; cases h) hlk
  exact ⟨_, _, X.areturnOut hx hw hret ht hd hr, hrun, hended, _, _, rfl, q, ⟨_, rfl⟩, hW, hsame.mono hc hs⟩
theorem own_retJ (X : Stand p l e R s m args below meth c T locs cells slots) (hx : p.tables.exec = Jvm.exec) (hlk : meth.locks = false) {pc : Nat} {Ls : Array Slot} {w : Int64} (hret : meth.sig.returnType = some .long) (hd : decode c.code pc = .ok (.lreturn, 1)) (hc : cells ≤ ck) (hs : slots ≤ sk)
    (q : Q (some (.long w)) T.heap locs) : own_Go p e below s Q ck sk (T.setTop (mkF m pc Ls [.long w])) := by
  obtain ⟨fs, hr, hrun, hended, hW, hsame⟩ := X.leave (v := some (.long w)) (fun h => by rw [hret] at h; cases h) hlk
  exact ⟨_, _, X.lreturnOut hx hret hd hr, hrun, hended, _, _, rfl, q, ⟨_, rfl⟩, hW, hsame.mono hc hs⟩
end OwnGo
theorem own_retD {p : Program} {l : Launch} {e : Env} {R : Room} {s : State} {m : MethodId} {args : Array Value} {below : List Frame} {meth : Method} {c : Code} {T : State} {locs : List Loc} {cells slots : Nat} {Q : Option Value → Heap → List Loc → Prop} {ck sk : Nat} (X : Stand p l e R s m args below meth c T locs cells slots) (hx : p.tables.exec = Jvm.exec) (hlk : meth.locks = false) {pc : Nat} {Ls : Array Slot} {w : UInt64} (hret : meth.sig.returnType = some .double) (hd : decode c.code pc = .ok (.dreturn, 1)) (hc : cells ≤ ck) (hs : slots ≤ sk)
    (q : Q (some (.double w)) T.heap locs) : own_Go p e below s Q ck sk (T.setTop (mkF m pc Ls [.double w])) := by
  obtain ⟨fs, hr, hrun, hended, hW, hsame⟩ := X.leave (v := some (.double w)) (fun h => by rw [hret] at h; cases h) hlk
  exact ⟨_, _, retOut X hx hret rfl (Or.inr (Or.inr (Or.inl ⟨rfl, rfl, _, rfl⟩))) hd hr, hrun, hended, _, _, rfl, q, ⟨_, rfl⟩, hW, hsame.mono hc hs⟩
theorem own_leq {x y : Int64} (h : x = y) : lcmpW x y = 0 := (lw_eq x y).mpr h
theorem own_lne {x y : Int64} (h : ¬ x = y) : ¬ lcmpW x y = 0 := fun q => h ((lw_eq x y).mp q)
theorem own_llt {x y : Int64} (h : x < y) : lcmpW x y < 0 := (lw_lt x y).mpr h
theorem own_lnlt {x y : Int64} (h : ¬ x < y) : ¬ lcmpW x y < 0 := fun q => h ((lw_lt x y).mp q)
theorem own_lgt {x y : Int64} (h : y < x) : 0 < lcmpW x y := (lw_gt x y).mpr h
theorem own_lngt {x y : Int64} (h : ¬ y < x) : ¬ 0 < lcmpW x y := fun q => h ((lw_gt x y).mp q)
theorem own_ltr {x y : Int32} {k : Int} (h : x < y) (e : y.toInt = k) : x.toInt < k := by rw [← e]; exact Int32.lt_iff_toInt_lt.mp h
theorem own_ltl {x y : Int32} {k : Int} (h : x < y) (e : x.toInt = k) : k < y.toInt := by rw [← e]; exact Int32.lt_iff_toInt_lt.mp h
theorem own_nltr {x y : Int32} {k : Int} (h : ¬ x < y) (e : y.toInt = k) : k ≤ x.toInt := by rw [← e]; exact Int.not_lt.mp fun q => h (Int32.lt_iff_toInt_lt.mpr q)
theorem own_nltl {x y : Int32} {k : Int} (h : ¬ x < y) (e : x.toInt = k) : y.toInt ≤ k := by rw [← e]; exact Int.not_lt.mp fun q => h (Int32.lt_iff_toInt_lt.mpr q)
theorem own_eqr {x y : Int32} {k : Int} (h : x = y) (e : y.toInt = k) : x.toInt = k := by rw [← e, h]
theorem own_neqr {x y : Int32} {k : Int} (h : ¬ x = y) (e : y.toInt = k) : ¬ x.toInt = k := by rw [← e]; exact fun q => h (Int32.toInt_inj.mp q)
theorem own_selP {s : State} {args : Array Value} {y : MethodName} {n : Nat} (wi : (Jvm.Cond.instantiable y.cls n).before args s = true) (wp : (Jvm.Cond.privateMethod y).before args s = true) (wn : (Jvm.Cond.instanceMethod y).before args s = true) (hy : y.cls ≠ "java/lang/invoke/MethodHandle" ∧ y.cls ≠ "java/lang/invoke/VarHandle") : (Jvm.Cond.selects y.cls y y).before args s = true := by
  obtain ⟨c, k, h1, h2, -, h4, -⟩ := Cond.instantiable_spec wi
  exact Jvm.Stand.selects_self_of_private h1 h2 (Bool.or_eq_false_iff.mp h4).1 (Cond.privateMethod_at wp) wn hy
theorem own_eqInt {t : Term} {k : Int32} {args : Array Value} {s : State} (h : (Jvm.Cond.eq t (Term.int k)).value args s none s [] = some true) : t.eval args s none [] s = some (.int k) := by
  have hk : (Term.int k).eval args s none [] s = some (.int k) := rfl
  cases ht : t.eval args s none [] s with
  | none => simp [Jvm.Cond.value, ht] at h
  | some v => cases v <;> simp [Jvm.Cond.value, ht, hk] at h; rw [h]
def own_pk (k : Int32) (a_INITIAL a_WAIT a_PRE_COMMIT a_PRE_ABORT a_COMMITTED a_ABORTED : Addr) : Addr := if k = (0 : Int32) then a_INITIAL else if k = (1 : Int32) then a_WAIT else if k = (2 : Int32) then a_PRE_COMMIT else if k = (3 : Int32) then a_PRE_ABORT else if k = (4 : Int32) then a_COMMITTED else a_ABORTED
def own_in (a a_COMMITTED a_ABORTED : Addr) : Int32 := if a = a_COMMITTED then 1 else if a = a_ABORTED then 1 else 0
theorem own_cases (k : Int32) (h0 : 0 ≤ k.toInt) (h1 : k.toInt < 6) : k = (0 : Int32) ∨ k = (1 : Int32) ∨ k = (2 : Int32) ∨ k = (3 : Int32) ∨ k = (4 : Int32) ∨ k = (5 : Int32) := by
  have h : k.toInt = 0 ∨ k.toInt = 1 ∨ k.toInt = 2 ∨ k.toInt = 3 ∨ k.toInt = 4 ∨ k.toInt = 5 := by omega
  rcases h with h | h | h | h | h | h
  · exact Or.inl (Int32.toInt_inj.mp (h.trans (by decide)))
  · exact Or.inr (Or.inl (Int32.toInt_inj.mp (h.trans (by decide))))
  · exact Or.inr (Or.inr (Or.inl (Int32.toInt_inj.mp (h.trans (by decide)))))
  · exact Or.inr (Or.inr (Or.inr (Or.inl (Int32.toInt_inj.mp (h.trans (by decide))))))
  · exact Or.inr (Or.inr (Or.inr (Or.inr (Or.inl (Int32.toInt_inj.mp (h.trans (by decide)))))))
  · exact Or.inr (Or.inr (Or.inr (Or.inr (Or.inr (Int32.toInt_inj.mp (h.trans (by decide)))))))
theorem d1_0 : decode method_3_code 0 = .ok (.iload_n 0, 1) := by decide +kernel
theorem d1_1 : decode method_3_code 1 = .ok (.ifCond .ne 7, 3) := by decide +kernel
theorem d1_8 : decode method_3_code 8 = .ok (.iload_n 0, 1) := by decide +kernel
theorem d1_9 : decode method_3_code 9 = .ok (.iconst 1, 1) := by decide +kernel
theorem d1_10 : decode method_3_code 10 = .ok (.if_icmp .ne 7, 3) := by decide +kernel
theorem d1_17 : decode method_3_code 17 = .ok (.iload_n 0, 1) := by decide +kernel
theorem d1_18 : decode method_3_code 18 = .ok (.iconst 2, 1) := by decide +kernel
theorem d1_19 : decode method_3_code 19 = .ok (.if_icmp .ne 7, 3) := by decide +kernel
theorem d1_26 : decode method_3_code 26 = .ok (.iload_n 0, 1) := by decide +kernel
theorem d1_27 : decode method_3_code 27 = .ok (.iconst 3, 1) := by decide +kernel
theorem d1_28 : decode method_3_code 28 = .ok (.if_icmp .ne 7, 3) := by decide +kernel
theorem d1_35 : decode method_3_code 35 = .ok (.iload_n 0, 1) := by decide +kernel
theorem d1_36 : decode method_3_code 36 = .ok (.iconst 4, 1) := by decide +kernel
theorem d1_37 : decode method_3_code 37 = .ok (.if_icmp .ne 7, 3) := by decide +kernel
theorem d1_44 : decode method_3_code 44 = .ok (.getstatic 36, 3) := by decide +kernel
theorem d1_47 : decode method_3_code 47 = .ok (.areturn, 1) := by decide +kernel
theorem d1_40 : decode method_3_code 40 = .ok (.getstatic 33, 3) := by decide +kernel
theorem d1_43 : decode method_3_code 43 = .ok (.areturn, 1) := by decide +kernel
theorem d1_31 : decode method_3_code 31 = .ok (.getstatic 30, 3) := by decide +kernel
theorem d1_34 : decode method_3_code 34 = .ok (.areturn, 1) := by decide +kernel
theorem d1_22 : decode method_3_code 22 = .ok (.getstatic 27, 3) := by decide +kernel
theorem d1_25 : decode method_3_code 25 = .ok (.areturn, 1) := by decide +kernel
theorem d1_13 : decode method_3_code 13 = .ok (.getstatic 24, 3) := by decide +kernel
theorem d1_16 : decode method_3_code 16 = .ok (.areturn, 1) := by decide +kernel
theorem d1_4 : decode method_3_code 4 = .ok (.getstatic 20, 3) := by decide +kernel
theorem d1_7 : decode method_3_code 7 = .ok (.areturn, 1) := by decide +kernel
theorem d2_0 : decode prog_38_method_5_code 0 = .ok (.aload_n 0, 1) := by decide +kernel
theorem d2_1 : decode prog_38_method_5_code 1 = .ok (.getstatic 16, 3) := by decide +kernel
theorem d2_4 : decode prog_38_method_5_code 4 = .ok (.if_acmp .eq 10, 3) := by decide +kernel
theorem d2_14 : decode prog_38_method_5_code 14 = .ok (.iconst 1, 1) := by decide +kernel
theorem d2_15 : decode prog_38_method_5_code 15 = .ok (.goto 4, 3) := by decide +kernel
theorem d2_19 : decode prog_38_method_5_code 19 = .ok (.ireturn, 1) := by decide +kernel
theorem d2_7 : decode prog_38_method_5_code 7 = .ok (.aload_n 0, 1) := by decide +kernel
theorem d2_8 : decode prog_38_method_5_code 8 = .ok (.getstatic 19, 3) := by decide +kernel
theorem d2_11 : decode prog_38_method_5_code 11 = .ok (.if_acmp .ne 7, 3) := by decide +kernel
theorem d2_18 : decode prog_38_method_5_code 18 = .ok (.iconst 0, 1) := by decide +kernel
theorem pn_36 : plainName "com/example/quorumkeel/quorumkeel/protocol/TransactionStateIsFinalPinLaw" = true := by first | (simp [plainName, overriddenIn]; done) | decide +kernel
theorem ef_rm1 (m : MethodId) (x0 : Int32) : entryFrame m #[(.int x0)] 1 = mkF m 0 #[.val (.int x0)] [] := by first | (simp [entryFrame, mkF, argsToLocals, Value.category]; done) | rfl
def Q_rm1 (Z : State) (p0 : Int32) (a_INITIAL a_WAIT a_PRE_COMMIT a_PRE_ABORT a_COMMITTED a_ABORTED : Addr) (h0 : Heap) (n0 : Nat) (v : Option Value) (h : Heap) (L : List Loc) : Prop := v = some (.ref (own_pk p0 a_INITIAL a_WAIT a_PRE_COMMIT a_PRE_ABORT a_COMMITTED a_ABORTED)) ∧ h = h0 ∧ L = []
set_option maxRecDepth 65536 in
set_option maxHeartbeats 40000000 in
theorem rm1 (l : Launch) (Z : State) (a0 : Array Value) (hw : ∀ d ∈ tables_1, d.before a0 Z = true) (ws : List Jvm.Cond) (p0 : Int32) (a_INITIAL a_WAIT a_PRE_COMMIT a_PRE_ABORT a_COMMITTED a_ABORTED : Addr) (h0 : Heap) (n0 : Nat) (Z0 : n0 ≤ h0.size) (S_INITIAL : Sta Z h0 "com/example/quorumkeel/quorumkeel/protocol/TransactionState" "INITIAL" "Lcom/example/quorumkeel/quorumkeel/protocol/TransactionState;" (.ref a_INITIAL)) (S_COMMITTED : Sta Z h0 "com/example/quorumkeel/quorumkeel/protocol/TransactionState" "COMMITTED" "Lcom/example/quorumkeel/quorumkeel/protocol/TransactionState;" (.ref a_COMMITTED)) (S_ABORTED : Sta Z h0 "com/example/quorumkeel/quorumkeel/protocol/TransactionState" "ABORTED" "Lcom/example/quorumkeel/quorumkeel/protocol/TransactionState;" (.ref a_ABORTED)) (S_PRE_ABORT : Sta Z h0 "com/example/quorumkeel/quorumkeel/protocol/TransactionState" "PRE_ABORT" "Lcom/example/quorumkeel/quorumkeel/protocol/TransactionState;" (.ref a_PRE_ABORT)) (S_PRE_COMMIT : Sta Z h0 "com/example/quorumkeel/quorumkeel/protocol/TransactionState" "PRE_COMMIT" "Lcom/example/quorumkeel/quorumkeel/protocol/TransactionState;" (.ref a_PRE_COMMIT)) (S_WAIT : Sta Z h0 "com/example/quorumkeel/quorumkeel/protocol/TransactionState" "WAIT" "Lcom/example/quorumkeel/quorumkeel/protocol/TransactionState;" (.ref a_WAIT)) :
    MetFree l (⟨"com/example/quorumkeel/quorumkeel/protocol/TransactionStateIsFinalPinLaw", "pick", "(I)Lcom/example/quorumkeel/quorumkeel/protocol/TransactionState;"⟩ : MethodName) (head1 (Jvm.Cond.code (⟨"com/example/quorumkeel/quorumkeel/protocol/TransactionStateIsFinalPinLaw", "pick", "(I)Lcom/example/quorumkeel/quorumkeel/protocol/TransactionState;"⟩ : MethodName) method_3_code 1 (some (.object "com/example/quorumkeel/quorumkeel/protocol/TransactionState")) :: ws) ({ frames := 0, cells := 0, slots := 0, locals := 0 } : Room)) (fun a U => a = #[(.int p0)] ∧ Z.Warmed39 U.vm ∧ U.heap = h0) (fun _ _ _ _ _ => True) (fun _ U o U' => ∃ v L, o = .returned v ∧ Q_rm1 Z p0 a_INITIAL a_WAIT a_PRE_COMMIT a_PRE_ABORT a_COMMITTED a_ABORTED h0 n0 v U'.heap L ∧ FrameEnd U o U' L ({ frames := 0, cells := 0, slots := 0, locals := 0 } : Room).cells ({ frames := 0, cells := 0, slots := 0, locals := 0 } : Room).slots) := by
  refine MetFree.of_bodySF (plainFor_of_name pn_36) hisR ?_
  intro p e s m args below meth c s₁ Bd hml0 hP hK
  obtain ⟨rfl, hZ, hh⟩ := hP
  have hx := Bd.exec
  have hby := Bd.bytes
  have hlk := Bd.notSynchronized
  have hml : c.maxLocals = 1 := hml0
  have hown : s.vm.findClass "com/example/quorumkeel/quorumkeel/protocol/TransactionStateIsFinalPinLaw" = some m.cls := findClass_of_methodNamed Bd.named
  have hnm := (name_of_methodNamed Bd.named Bd.method).1
  have X0 : Stand p l e ({ frames := 0, cells := 0, slots := 0, locals := 0 } : Room) s m #[(.int p0)] below meth c s₁ [] 0 0 := Stand.of_body Bd
  have e0 : s₁.heap = h0 := by rw [← hh, Bd.state]; rfl
  have N0 := Fr.nil n0
  change own_Go p e below s (Q_rm1 Z p0 a_INITIAL a_WAIT a_PRE_COMMIT a_PRE_ABORT a_COMMITTED a_ABORTED h0 n0) ({ frames := 0, cells := 0, slots := 0, locals := 0 } : Room).cells ({ frames := 0, cells := 0, slots := 0, locals := 0 } : Room).slots _
  refine own_go (S' := (s₁.setTop (mkF m 0 #[.val (.int p0)] []))) (fun _ k => castTop (ef_rm1 m p0) k) ?_
  refine own_go (S' := (s₁.setTop (mkF m 1 #[.val (.int p0)] [(.int p0)]))) (fun _ k => XS.iloadN X0.here hx rfl (hb hby d1_0) rfl k) ?_
  by_cases b1_1 : p0 = (0 : Int32)
  · refine own_go (S' := (s₁.setTop (mkF m 4 #[.val (.int p0)] []))) (fun _ k => XS.ifNo X0.here hx rfl (hb hby d1_1) rfl ((if0 _ _).trans (teq b1_1).2) k) ?_
    obtain ⟨T11, X11, e11, st11⟩ := getS2 X0 hx hZ hown (host := "") (Or.inl (hw _ (List.mem_of_getElem? (i := 5) rfl))) Via.refl e0 S_INITIAL (g := (mkF m 4 #[.val (.int p0)] [])) rfl (hb hby d1_4)
    refine own_go (S' := (T11.setTop (mkF m 7 #[.val (.int p0)] [(.ref a_INITIAL)]))) st11 ?_
    refine own_retA X11 hx hlk (rfl) rfl Bd.returns (hb hby d1_7) (by decide) (by decide) ?_
    exact ⟨by unfold own_pk; rw [if_pos b1_1], e11, rfl⟩
  · refine own_go (S' := (s₁.setTop (mkF m 10 #[.val (.int p0)] [(.int (1 : Int32)), (.int p0)]))) (fun _ k => XS.ifYes X0.here hx rfl (pc0 := 1) (pc' := 8) rfl (hb hby d1_1) rfl ((if0 _ _).trans (feq b1_1).2) (by decide) (by decide) (XS.iloadN X0.here hx rfl (hb hby d1_8) rfl (XS.iconst X0.here hx rfl (hb hby d1_9) k))) ?_
    by_cases b10_2 : p0 = (1 : Int32)
    · refine own_go (S' := (s₁.setTop (mkF m 13 #[.val (.int p0)] []))) (fun _ k => XS.icmpNo X0.here hx rfl (hb hby d1_10) rfl (teq b10_2).2 k) ?_
      obtain ⟨T10, X10, e10, st10⟩ := getS2 X0 hx hZ hown (host := "") (Or.inl (hw _ (List.mem_of_getElem? (i := 21) rfl))) Via.refl e0 S_WAIT (g := (mkF m 13 #[.val (.int p0)] [])) rfl (hb hby d1_13)
      refine own_go (S' := (T10.setTop (mkF m 16 #[.val (.int p0)] [(.ref a_WAIT)]))) st10 ?_
      refine own_retA X10 hx hlk (rfl) rfl Bd.returns (hb hby d1_16) (by decide) (by decide) ?_
      exact ⟨by unfold own_pk; rw [if_neg b1_1, if_pos b10_2], e10, rfl⟩
    · refine own_go (S' := (s₁.setTop (mkF m 19 #[.val (.int p0)] [(.int (2 : Int32)), (.int p0)]))) (fun _ k => XS.icmpYes X0.here hx rfl (pc0 := 10) (pc' := 17) rfl (hb hby d1_10) rfl (feq b10_2).2 (by decide) (by decide) (XS.iloadN X0.here hx rfl (hb hby d1_17) rfl (XS.iconst X0.here hx rfl (hb hby d1_18) k))) ?_
      by_cases b19_3 : p0 = (2 : Int32)
      · refine own_go (S' := (s₁.setTop (mkF m 22 #[.val (.int p0)] []))) (fun _ k => XS.icmpNo X0.here hx rfl (hb hby d1_19) rfl (teq b19_3).2 k) ?_
        obtain ⟨T9, X9, e9, st9⟩ := getS2 X0 hx hZ hown (host := "") (Or.inl (hw _ (List.mem_of_getElem? (i := 19) rfl))) Via.refl e0 S_PRE_COMMIT (g := (mkF m 22 #[.val (.int p0)] [])) rfl (hb hby d1_22)
        refine own_go (S' := (T9.setTop (mkF m 25 #[.val (.int p0)] [(.ref a_PRE_COMMIT)]))) st9 ?_
        refine own_retA X9 hx hlk (rfl) rfl Bd.returns (hb hby d1_25) (by decide) (by decide) ?_
        exact ⟨by unfold own_pk; rw [if_neg b1_1, if_neg b10_2, if_pos b19_3], e9, rfl⟩
      · refine own_go (S' := (s₁.setTop (mkF m 28 #[.val (.int p0)] [(.int (3 : Int32)), (.int p0)]))) (fun _ k => XS.icmpYes X0.here hx rfl (pc0 := 19) (pc' := 26) rfl (hb hby d1_19) rfl (feq b19_3).2 (by decide) (by decide) (XS.iloadN X0.here hx rfl (hb hby d1_26) rfl (XS.iconst X0.here hx rfl (hb hby d1_27) k))) ?_
        by_cases b28_4 : p0 = (3 : Int32)
        · refine own_go (S' := (s₁.setTop (mkF m 31 #[.val (.int p0)] []))) (fun _ k => XS.icmpNo X0.here hx rfl (hb hby d1_28) rfl (teq b28_4).2 k) ?_
          obtain ⟨T8, X8, e8, st8⟩ := getS2 X0 hx hZ hown (host := "") (Or.inl (hw _ (List.mem_of_getElem? (i := 17) rfl))) Via.refl e0 S_PRE_ABORT (g := (mkF m 31 #[.val (.int p0)] [])) rfl (hb hby d1_31)
          refine own_go (S' := (T8.setTop (mkF m 34 #[.val (.int p0)] [(.ref a_PRE_ABORT)]))) st8 ?_
          refine own_retA X8 hx hlk (rfl) rfl Bd.returns (hb hby d1_34) (by decide) (by decide) ?_
          exact ⟨by unfold own_pk; rw [if_neg b1_1, if_neg b10_2, if_neg b19_3, if_pos b28_4], e8, rfl⟩
        · refine own_go (S' := (s₁.setTop (mkF m 37 #[.val (.int p0)] [(.int (4 : Int32)), (.int p0)]))) (fun _ k => XS.icmpYes X0.here hx rfl (pc0 := 28) (pc' := 35) rfl (hb hby d1_28) rfl (feq b28_4).2 (by decide) (by decide) (XS.iloadN X0.here hx rfl (hb hby d1_35) rfl (XS.iconst X0.here hx rfl (hb hby d1_36) k))) ?_
          by_cases b37_5 : p0 = (4 : Int32)
          · refine own_go (S' := (s₁.setTop (mkF m 40 #[.val (.int p0)] []))) (fun _ k => XS.icmpNo X0.here hx rfl (hb hby d1_37) rfl (teq b37_5).2 k) ?_
            obtain ⟨T7, X7, e7, st7⟩ := getS2 X0 hx hZ hown (host := "") (Or.inl (hw _ (List.mem_of_getElem? (i := 24) rfl))) Via.refl e0 S_COMMITTED (g := (mkF m 40 #[.val (.int p0)] [])) rfl (hb hby d1_40)
            refine own_go (S' := (T7.setTop (mkF m 43 #[.val (.int p0)] [(.ref a_COMMITTED)]))) st7 ?_
            refine own_retA X7 hx hlk (rfl) rfl Bd.returns (hb hby d1_43) (by decide) (by decide) ?_
            exact ⟨by unfold own_pk; rw [if_neg b1_1, if_neg b10_2, if_neg b19_3, if_neg b28_4, if_pos b37_5], e7, rfl⟩
          · refine own_go (S' := (s₁.setTop (mkF m 44 #[.val (.int p0)] []))) (fun _ k => XS.icmpYes X0.here hx rfl (pc0 := 37) (pc' := 44) rfl (hb hby d1_37) rfl (feq b37_5).2 (by decide) (by decide) k) ?_
            obtain ⟨T6, X6, e6, st6⟩ := getS2 X0 hx hZ hown (host := "") (Or.inl (hw _ (List.mem_of_getElem? (i := 23) rfl))) Via.refl e0 S_ABORTED (g := (mkF m 44 #[.val (.int p0)] [])) rfl (hb hby d1_44)
            refine own_go (S' := (T6.setTop (mkF m 47 #[.val (.int p0)] [(.ref a_ABORTED)]))) st6 ?_
            refine own_retA X6 hx hlk (rfl) rfl Bd.returns (hb hby d1_47) (by decide) (by decide) ?_
            exact ⟨by unfold own_pk; rw [if_neg b1_1, if_neg b10_2, if_neg b19_3, if_neg b28_4, if_neg b37_5], e6, rfl⟩
theorem pn_37 : plainName "com/example/quorumkeel/quorumkeel/protocol/TransactionState" = true := by first | (simp [plainName, overriddenIn]; done) | decide +kernel
theorem ef_rm2 (m : MethodId) (x0 : Addr) : entryFrame m #[(.ref x0)] 1 = mkF m 0 #[.val (.ref x0)] [] := by first | (simp [entryFrame, mkF, argsToLocals, Value.category]; done) | rfl
def Q_rm2 (Z : State) (b0 a_COMMITTED a_ABORTED : Addr) (h0 : Heap) (n0 : Nat) (v : Option Value) (h : Heap) (L : List Loc) : Prop := v = some (.int (own_in b0 a_COMMITTED a_ABORTED)) ∧ h = h0 ∧ L = []
set_option maxRecDepth 65536 in
set_option maxHeartbeats 40000000 in
theorem rm2 (l : Launch) (Z : State) (a0 : Array Value) (hw : ∀ d ∈ tables_1, d.before a0 Z = true) (ws : List Jvm.Cond) (b0 a_COMMITTED a_ABORTED : Addr) (h0 : Heap) (n0 : Nat) (Z0 : n0 ≤ h0.size) (S_COMMITTED : Sta Z h0 "com/example/quorumkeel/quorumkeel/protocol/TransactionState" "COMMITTED" "Lcom/example/quorumkeel/quorumkeel/protocol/TransactionState;" (.ref a_COMMITTED)) (S_ABORTED : Sta Z h0 "com/example/quorumkeel/quorumkeel/protocol/TransactionState" "ABORTED" "Lcom/example/quorumkeel/quorumkeel/protocol/TransactionState;" (.ref a_ABORTED)) :
    MetFree l (⟨"com/example/quorumkeel/quorumkeel/protocol/TransactionState", "isFinal", "()Z"⟩ : MethodName) (head1 (Jvm.Cond.code (⟨"com/example/quorumkeel/quorumkeel/protocol/TransactionState", "isFinal", "()Z"⟩ : MethodName) prog_38_method_5_code 1 (some .boolean) :: ws) ({ frames := 0, cells := 0, slots := 0, locals := 0 } : Room)) (fun a U => a = #[(.ref b0)] ∧ Z.Warmed39 U.vm ∧ U.heap = h0) (fun _ _ _ _ _ => True) (fun _ U o U' => ∃ v L, o = .returned v ∧ Q_rm2 Z b0 a_COMMITTED a_ABORTED h0 n0 v U'.heap L ∧ FrameEnd U o U' L ({ frames := 0, cells := 0, slots := 0, locals := 0 } : Room).cells ({ frames := 0, cells := 0, slots := 0, locals := 0 } : Room).slots) := by
  refine MetFree.of_bodySF (plainFor_of_name pn_37) hisR ?_
  intro p e s m args below meth c s₁ Bd hml0 hP hK
  obtain ⟨rfl, hZ, hh⟩ := hP
  have hx := Bd.exec
  have hby := Bd.bytes
  have hlk := Bd.notSynchronized
  have hml : c.maxLocals = 1 := hml0
  have hown : s.vm.findClass "com/example/quorumkeel/quorumkeel/protocol/TransactionState" = some m.cls := findClass_of_methodNamed Bd.named
  have hnm := (name_of_methodNamed Bd.named Bd.method).1
  have X0 : Stand p l e ({ frames := 0, cells := 0, slots := 0, locals := 0 } : Room) s m #[(.ref b0)] below meth c s₁ [] 0 0 := Stand.of_body Bd
  have e0 : s₁.heap = h0 := by rw [← hh, Bd.state]; rfl
  have N0 := Fr.nil n0
  change own_Go p e below s (Q_rm2 Z b0 a_COMMITTED a_ABORTED h0 n0) ({ frames := 0, cells := 0, slots := 0, locals := 0 } : Room).cells ({ frames := 0, cells := 0, slots := 0, locals := 0 } : Room).slots _
  refine own_go (S' := (s₁.setTop (mkF m 0 #[.val (.ref b0)] []))) (fun _ k => castTop (ef_rm2 m b0) k) ?_
  refine own_go (S' := (s₁.setTop (mkF m 1 #[.val (.ref b0)] [(.ref b0)]))) (fun _ k => XS.aloadN X0.here hx rfl (hb hby d2_0) rfl rfl k) ?_
  obtain ⟨T1, X1, e1, st1⟩ := getS2 X0 hx hZ hown (host := "") (Or.inl (hw _ (List.mem_of_getElem? (i := 13) rfl))) Via.refl e0 S_COMMITTED (g := (mkF m 1 #[.val (.ref b0)] [(.ref b0)])) rfl (hb hby d2_1)
  refine own_go (S' := (T1.setTop (mkF m 4 #[.val (.ref b0)] [(.ref a_COMMITTED), (.ref b0)]))) st1 ?_
  by_cases q0 : b0 = a_COMMITTED
  · refine own_go (S' := (T1.setTop (mkF m 19 #[.val (.ref b0)] [(.int (1 : Int32))]))) (fun _ k => Jvm.RoadKit.acmp (g := (mkF m 4 #[.val (.ref b0)] [(.ref a_COMMITTED), (.ref b0)])) X1 hx rfl rfl rfl (pc0 := 4) (pc' := 14) (same := true) rfl (hb hby d2_4) rfl (decide_eq_true (congrArg Value.ref q0)) (by decide) (by decide) (XS.iconst X1.here hx rfl (hb hby d2_14) (XS.goto X1.here hx rfl (pc0 := 15) (pc' := 19) rfl (hb hby d2_15) (by decide) (by decide) k))) ?_
    refine own_retN (t := .boolean) X1 hx hlk (by simp) Bd.returns (hb hby d2_19) (by decide) (by decide) ?_
    exact ⟨congrArg (fun z => some (Value.int z)) (show (nar .boolean (1 : Int32)) = own_in b0 a_COMMITTED a_ABORTED from by unfold own_in; rw [if_pos q0] <;> rfl), e1, rfl⟩
  · refine own_go (S' := (T1.setTop (mkF m 8 #[.val (.ref b0)] [(.ref b0)]))) (fun _ k => Jvm.RoadKit.acmp (g := (mkF m 4 #[.val (.ref b0)] [(.ref a_COMMITTED), (.ref b0)])) X1 hx rfl rfl rfl (pc0 := 4) (pc' := 7) (same := false) rfl (hb hby d2_4) rfl (decide_eq_false fun q => q0 (Value.ref.inj q)) (by decide) (by decide) (XS.aloadN X1.here hx rfl (hb hby d2_7) rfl rfl k)) ?_
    obtain ⟨T2, X2, e2, st2⟩ := getS2 X1 hx hZ hown (host := "") (Or.inl (hw _ (List.mem_of_getElem? (i := 15) rfl))) Via.refl e1 S_ABORTED (g := (mkF m 8 #[.val (.ref b0)] [(.ref b0)])) rfl (hb hby d2_8)
    refine own_go (S' := (T2.setTop (mkF m 11 #[.val (.ref b0)] [(.ref a_ABORTED), (.ref b0)]))) st2 ?_
    by_cases q1 : b0 = a_ABORTED
    · refine own_go (S' := (T2.setTop (mkF m 19 #[.val (.ref b0)] [(.int (1 : Int32))]))) (fun _ k => Jvm.RoadKit.acmp (g := (mkF m 11 #[.val (.ref b0)] [(.ref a_ABORTED), (.ref b0)])) X2 hx rfl rfl rfl (pc0 := 11) (pc' := 14) (same := true) rfl (hb hby d2_11) rfl (decide_eq_true (congrArg Value.ref q1)) (by decide) (by decide) (XS.iconst X2.here hx rfl (hb hby d2_14) (XS.goto X2.here hx rfl (pc0 := 15) (pc' := 19) rfl (hb hby d2_15) (by decide) (by decide) k))) ?_
      refine own_retN (t := .boolean) X2 hx hlk (by simp) Bd.returns (hb hby d2_19) (by decide) (by decide) ?_
      exact ⟨congrArg (fun z => some (Value.int z)) (show (nar .boolean (1 : Int32)) = own_in b0 a_COMMITTED a_ABORTED from by unfold own_in; rw [if_neg q0, if_pos q1] <;> rfl), e2, rfl⟩
    · refine own_go (S' := (T2.setTop (mkF m 19 #[.val (.ref b0)] [(.int (0 : Int32))]))) (fun _ k => Jvm.RoadKit.acmp (g := (mkF m 11 #[.val (.ref b0)] [(.ref a_ABORTED), (.ref b0)])) X2 hx rfl rfl rfl (pc0 := 11) (pc' := 18) (same := false) rfl (hb hby d2_11) rfl (decide_eq_false fun q => q1 (Value.ref.inj q)) (by decide) (by decide) (XS.iconst X2.here hx rfl (hb hby d2_18) k)) ?_
      refine own_retN (t := .boolean) X2 hx hlk (by simp) Bd.returns (hb hby d2_19) (by decide) (by decide) ?_
      exact ⟨congrArg (fun z => some (Value.int z)) (show (nar .boolean (0 : Int32)) = own_in b0 a_COMMITTED a_ABORTED from by unfold own_in; rw [if_neg q0, if_neg q1] <;> rfl), e2, rfl⟩
theorem pd_38 : parseMethodDescriptor "(I)Lcom/example/quorumkeel/quorumkeel/protocol/TransactionState;" = some ⟨[.int], some (.object "com/example/quorumkeel/quorumkeel/protocol/TransactionState")⟩ := by decide +kernel
theorem pd_39 : parseMethodDescriptor "()Z" = some ⟨[], some .boolean⟩ := by decide +kernel
theorem ef_rm0 (m : MethodId) (x0 : Int32) : entryFrame m #[(.int x0)] maxLocals = mkF m 0 #[.val (.int x0), .unset, .unset, .unset] [] := by first | (simp [entryFrame, mkF, argsToLocals, Value.category, maxLocals]; done) | rfl
def Q_rm0 (Z : State) (i0 : Int32) (a_INITIAL a_COMMITTED a_ABORTED a_PRE_ABORT a_PRE_COMMIT a_WAIT : Addr) (h0 : Heap) (n0 : Nat) (v : Option Value) (h : Heap) (L : List Loc) : Prop := v = some (.int 1) ∧ Fr n0 L
set_option maxRecDepth 65536 in
set_option maxHeartbeats 40000000 in
theorem rm0 (l : Launch) (Z : State) (a0 : Array Value) (hw : ∀ d ∈ tables_1, d.before a0 Z = true) (ws : List Jvm.Cond) (i0 : Int32) (a_INITIAL a_COMMITTED a_ABORTED a_PRE_ABORT a_PRE_COMMIT a_WAIT : Addr) (h0 : Heap) (n0 : Nat) (Z0 : n0 ≤ h0.size) (S_INITIAL : Sta Z h0 "com/example/quorumkeel/quorumkeel/protocol/TransactionState" "INITIAL" "Lcom/example/quorumkeel/quorumkeel/protocol/TransactionState;" (.ref a_INITIAL)) (S_COMMITTED : Sta Z h0 "com/example/quorumkeel/quorumkeel/protocol/TransactionState" "COMMITTED" "Lcom/example/quorumkeel/quorumkeel/protocol/TransactionState;" (.ref a_COMMITTED)) (S_ABORTED : Sta Z h0 "com/example/quorumkeel/quorumkeel/protocol/TransactionState" "ABORTED" "Lcom/example/quorumkeel/quorumkeel/protocol/TransactionState;" (.ref a_ABORTED)) (S_PRE_ABORT : Sta Z h0 "com/example/quorumkeel/quorumkeel/protocol/TransactionState" "PRE_ABORT" "Lcom/example/quorumkeel/quorumkeel/protocol/TransactionState;" (.ref a_PRE_ABORT)) (S_PRE_COMMIT : Sta Z h0 "com/example/quorumkeel/quorumkeel/protocol/TransactionState" "PRE_COMMIT" "Lcom/example/quorumkeel/quorumkeel/protocol/TransactionState;" (.ref a_PRE_COMMIT)) (S_WAIT : Sta Z h0 "com/example/quorumkeel/quorumkeel/protocol/TransactionState" "WAIT" "Lcom/example/quorumkeel/quorumkeel/protocol/TransactionState;" (.ref a_WAIT)) (E_INITIAL : Exa Z h0 a_INITIAL "com/example/quorumkeel/quorumkeel/protocol/TransactionState") (E_COMMITTED : Exa Z h0 a_COMMITTED "com/example/quorumkeel/quorumkeel/protocol/TransactionState") (E_ABORTED : Exa Z h0 a_ABORTED "com/example/quorumkeel/quorumkeel/protocol/TransactionState") (E_PRE_ABORT : Exa Z h0 a_PRE_ABORT "com/example/quorumkeel/quorumkeel/protocol/TransactionState") (E_PRE_COMMIT : Exa Z h0 a_PRE_COMMIT "com/example/quorumkeel/quorumkeel/protocol/TransactionState") (E_WAIT : Exa Z h0 a_WAIT "com/example/quorumkeel/quorumkeel/protocol/TransactionState") (F_INITIAL_ordinal : Fld Z h0 a_INITIAL "java/lang/Enum" "ordinal" "I" (.int (0 : Int32))) (F_COMMITTED_ordinal : Fld Z h0 a_COMMITTED "java/lang/Enum" "ordinal" "I" (.int (4 : Int32))) (F_ABORTED_ordinal : Fld Z h0 a_ABORTED "java/lang/Enum" "ordinal" "I" (.int (5 : Int32))) (F_PRE_ABORT_ordinal : Fld Z h0 a_PRE_ABORT "java/lang/Enum" "ordinal" "I" (.int (3 : Int32))) (F_PRE_COMMIT_ordinal : Fld Z h0 a_PRE_COMMIT "java/lang/Enum" "ordinal" "I" (.int (2 : Int32))) (F_WAIT_ordinal : Fld Z h0 a_WAIT "java/lang/Enum" "ordinal" "I" (.int (1 : Int32))) :
    MetFree l x (head1 (Jvm.Cond.code x code maxLocals ret :: ws) room_1) (fun a U => a = #[(.int i0)] ∧ Z.Warmed39 U.vm ∧ U.heap = h0) (fun _ _ _ _ _ => True) (fun _ U o U' => ∃ v L, o = .returned v ∧ Q_rm0 Z i0 a_INITIAL a_COMMITTED a_ABORTED a_PRE_ABORT a_PRE_COMMIT a_WAIT h0 n0 v U'.heap L ∧ FrameEnd U o U' L room_1.cells room_1.slots) := by
  refine MetFree.of_bodySF (plainFor_of_name pn_36) hisR ?_
  intro p e s m args below meth c s₁ Bd hml0 hP hK
  obtain ⟨rfl, hZ, hh⟩ := hP
  have hx := Bd.exec
  have hby := Bd.bytes
  have hlk := Bd.notSynchronized
  have hml : c.maxLocals = 4 := hml0
  have hown : s.vm.findClass "com/example/quorumkeel/quorumkeel/protocol/TransactionStateIsFinalPinLaw" = some m.cls := findClass_of_methodNamed Bd.named
  have hnm := (name_of_methodNamed Bd.named Bd.method).1
  have X0 : Stand p l e room_1 s m #[(.int i0)] below meth c s₁ [] 0 0 := Stand.of_body Bd
  have e0 : s₁.heap = h0 := by rw [← hh, Bd.state]; rfl
  have N0 := Fr.nil n0
  change own_Go p e below s (Q_rm0 Z i0 a_INITIAL a_COMMITTED a_ABORTED a_PRE_ABORT a_PRE_COMMIT a_WAIT h0 n0) room_1.cells room_1.slots _
  refine own_go (S' := (s₁.setTop (mkF m 0 #[.val (.int i0), .unset, .unset, .unset] []))) (fun _ k => castTop (ef_rm0 m i0) k) ?_
  have n_INITIAL_COMMITTED : a_INITIAL ≠ a_COMMITTED := F_INITIAL_ordinal.ne F_COMMITTED_ordinal (by first | decide | simp)
  have n_INITIAL_ABORTED : a_INITIAL ≠ a_ABORTED := F_INITIAL_ordinal.ne F_ABORTED_ordinal (by first | decide | simp)
  have n_WAIT_COMMITTED : a_WAIT ≠ a_COMMITTED := F_WAIT_ordinal.ne F_COMMITTED_ordinal (by first | decide | simp)
  have n_WAIT_ABORTED : a_WAIT ≠ a_ABORTED := F_WAIT_ordinal.ne F_ABORTED_ordinal (by first | decide | simp)
  have n_PRE_COMMIT_COMMITTED : a_PRE_COMMIT ≠ a_COMMITTED := F_PRE_COMMIT_ordinal.ne F_COMMITTED_ordinal (by first | decide | simp)
  have n_PRE_COMMIT_ABORTED : a_PRE_COMMIT ≠ a_ABORTED := F_PRE_COMMIT_ordinal.ne F_ABORTED_ordinal (by first | decide | simp)
  have n_PRE_ABORT_COMMITTED : a_PRE_ABORT ≠ a_COMMITTED := F_PRE_ABORT_ordinal.ne F_COMMITTED_ordinal (by first | decide | simp)
  have n_PRE_ABORT_ABORTED : a_PRE_ABORT ≠ a_ABORTED := F_PRE_ABORT_ordinal.ne F_ABORTED_ordinal (by first | decide | simp)
  have n_COMMITTED_ABORTED : a_COMMITTED ≠ a_ABORTED := F_COMMITTED_ordinal.ne F_ABORTED_ordinal (by first | decide | simp)
  have n_ABORTED_COMMITTED : a_ABORTED ≠ a_COMMITTED := F_ABORTED_ordinal.ne F_COMMITTED_ordinal (by first | decide | simp)
  have hr1 := c_andS i0 (2147483647 : Int32)
  have hr2 := c_irem (i0 &&& (2147483647 : Int32)) (6 : Int32) 6 (by decide)
  have hr3 := hr2.1 (hr1.2.2 (by decide))
  obtain ⟨kk, hkk⟩ : ∃ z, z = ((i0 &&& (2147483647 : Int32)) % (6 : Int32)) := ⟨_, rfl⟩
  rw [← hkk] at hr3
  have hkc := own_cases kk (by omega) (by omega)
  refine own_go (S' := (s₁.setTop (mkF m 1 #[.val (.int i0), .unset, .unset, .unset] [(.int i0)]))) (fun _ k => XS.iloadN X0.here hx rfl (hb hby at_0) rfl k) ?_
  refine own_go (S' := (s₁.setTop (mkF m 3 #[.val (.int i0), .unset, .unset, .unset] [(.int (2147483647 : Int32)), (.int i0)]))) (X0.ldcInt hx hown (mvT hZ (hw _ (List.mem_of_getElem? (i := 0) rfl))) (g := (mkF m 1 #[.val (.int i0), .unset, .unset, .unset] [(.int i0)])) rfl (hb hby at_1)) ?_
  refine own_go (S' := (s₁.setTop (mkF m 7 #[.val (.int i0), .unset, .unset, .unset] [(.int ((i0 &&& (2147483647 : Int32)) % (6 : Int32)))]))) (fun _ k => XS.iand X0.here hx rfl (hb hby at_3) rfl (XS.bipush X0.here hx rfl (hb hby at_4) (iremM X0 hx (g := (mkF m 6 #[.val (.int i0), .unset, .unset, .unset] [(.int (6 : Int32)), (.int (i0 &&& (2147483647 : Int32)))])) rfl (hb hby at_6) rfl (by decide) k))) ?_
  rw [← hkk]
  refine own_go (S' := (s₁.setTop (mkF m 8 #[.val (.int i0), .val (.int kk), .unset, .unset] []))) (fun _ k => XS.istoreN X0.here hx rfl (hb hby at_7) rfl (l' := #[.val (.int i0), .val (.int kk), .unset, .unset]) rfl k) ?_
  clear hr3 hkk
  rcases hkc with rfl | rfl | rfl | rfl | rfl | rfl
  · refine own_go (S' := (s₁.setTop (mkF m 9 #[.val (.int i0), .val (.int (0 : Int32)), .unset, .unset] [(.int (0 : Int32))]))) (fun _ k => XS.iloadN X0.here hx rfl (hb hby at_8) rfl k) ?_
    obtain ⟨v1, _, ⟨T1, L1, k1, n1⟩, -, X1, ⟨Lc1, hQ1, l1, y1, z1⟩, st1⟩ := Jvm.LawKit.callS X0 hx (y := (⟨"com/example/quorumkeel/quorumkeel/protocol/TransactionStateIsFinalPinLaw", "pick", "(I)Lcom/example/quorumkeel/quorumkeel/protocol/TransactionState;"⟩ : MethodName)) hown (mvT hZ (hw _ (List.mem_of_getElem? (i := 1) rfl))) (mvT hZ (hw _ (List.mem_of_getElem? (i := 2) rfl))) (mvT hZ (hw _ (List.mem_of_getElem? (i := 3) rfl))) (mvT hZ (hw _ (List.mem_of_getElem? (i := 4) rfl))) (by decide) (backOf (W := 0) (rm1 l Z a0 hw [] (0 : Int32) a_INITIAL a_WAIT a_PRE_COMMIT a_PRE_ABORT a_COMMITTED a_ABORTED h0 n0 Z0 S_INITIAL S_COMMITTED S_ABORTED S_PRE_ABORT S_PRE_COMMIT S_WAIT) hZ (hw _ (List.mem_of_getElem? (i := 4) rfl)) (hw _ (List.mem_of_getElem? (i := 3) rfl)) (by decide) (by decide)) (g := (mkF m 9 #[.val (.int i0), .val (.int (0 : Int32)), .unset, .unset] [(.int (0 : Int32))])) rfl (by rw [hml]; rfl) (argsL := [(.int (0 : Int32))]) (rest := []) (lenOf pd_38 rfl) rfl (by show 2 * 0 + _ ≤ _; exact Nat.le_of_eq rfl) (hb hby at_9) (fun _ _ => ⟨rfl, e0, (by decide : 0 + 0 ≤ _), (by decide : 0 + 0 ≤ _)⟩)
    dsimp only [Pt.U, Pt.locs, Pt.cells, Pt.slots] at X1 l1 y1 z1 st1 hQ1
    subst l1 y1 z1
    obtain ⟨hv1, eh1, rfl⟩ := hQ1
    rw [show own_pk (0 : Int32) a_INITIAL a_WAIT a_PRE_COMMIT a_PRE_ABORT a_COMMITTED a_ABORTED = a_INITIAL from by first | rfl | (simp [own_pk]; done) | decide] at hv1
    subst hv1
    refine own_go (S' := (T1.setTop (mkF m 12 #[.val (.int i0), .val (.int (0 : Int32)), .unset, .unset] [(.ref a_INITIAL)]))) st1 ?_
    refine own_go (S' := (T1.setTop (mkF m 28 #[.val (.int i0), .val (.int (0 : Int32)), .val (.ref a_INITIAL), .unset] [(.int (0 : Int32))]))) (fun _ k => XS.astoreN X1.here hx rfl (hb hby at_12) rfl rfl (l' := #[.val (.int i0), .val (.int (0 : Int32)), .val (.ref a_INITIAL), .unset]) rfl (XS.iloadN X1.here hx rfl (hb hby at_13) rfl (XS.iconst X1.here hx rfl (hb hby at_14) (XS.icmpNo X1.here hx rfl (hb hby at_15) rfl (feq (by decide)).1 (XS.iloadN X1.here hx rfl (hb hby at_18) rfl (XS.iconst X1.here hx rfl (hb hby at_19) (XS.icmpYes X1.here hx rfl (pc0 := 20) (pc' := 27) rfl (hb hby at_20) rfl (feq (by decide)).2 (by decide) (by decide) (XS.iconst X1.here hx rfl (hb hby at_27) k)))))))) ?_
    refine own_go (S' := (T1.setTop (mkF m 30 #[.val (.int i0), .val (.int (0 : Int32)), .val (.ref a_INITIAL), .val (.int (0 : Int32))] [(.ref a_INITIAL)]))) (fun _ k => XS.istoreN X1.here hx rfl (hb hby at_28) rfl (l' := #[.val (.int i0), .val (.int (0 : Int32)), .val (.ref a_INITIAL), .val (.int (0 : Int32))]) rfl (XS.aloadN X1.here hx rfl (hb hby at_29) rfl rfl k)) ?_
    obtain ⟨cq2, kq2, q2a, q2b, q2c⟩ := isOf hZ eh1 E_INITIAL
    obtain ⟨v2, _, ⟨T2, L2, k2, n2⟩, -, X2, ⟨Lc2, hQ2, l2, y2, z2⟩, st2⟩ := X1.virtualBack hx (y := (⟨"com/example/quorumkeel/quorumkeel/protocol/TransactionState", "isFinal", "()Z"⟩ : MethodName)) (z := (⟨"com/example/quorumkeel/quorumkeel/protocol/TransactionState", "isFinal", "()Z"⟩ : MethodName)) hown (mvT hZ (hw _ (List.mem_of_getElem? (i := 8) rfl))) (mvT hZ (hw _ (List.mem_of_getElem? (i := 9) rfl))) (notFace_of_selects (args := #[]) (mvT hZ (hw _ (List.mem_of_getElem? (i := 11) rfl)))) (mvT hZ (hw _ (List.mem_of_getElem? (i := 11) rfl))) (mvT hZ (hw _ (List.mem_of_getElem? (i := 10) rfl))) (by decide) (backOf (W := 0) (rm2 l Z a0 hw [] a_INITIAL a_COMMITTED a_ABORTED h0 n0 Z0 S_COMMITTED S_ABORTED) hZ (hw _ (List.mem_of_getElem? (i := 12) rfl)) (hw _ (List.mem_of_getElem? (i := 6) rfl)) (by decide) (by decide)) q2a q2c (g := (mkF m 30 #[.val (.int i0), .val (.int (0 : Int32)), .val (.ref a_INITIAL), .val (.int (0 : Int32))] [(.ref a_INITIAL)])) rfl (by rw [hml]; rfl) (Steps.refl _) (argsL := []) (rest := []) (lenOf pd_39 rfl) rfl (by show 2 * 0 + _ ≤ _; exact Nat.le_of_eq rfl) (hb hby at_30) (fun _ _ => ⟨rfl, eh1, (by decide : 0 + 0 ≤ _), (by decide : 0 + 0 ≤ _)⟩)
    dsimp only [Pt.U, Pt.locs, Pt.cells, Pt.slots] at X2 l2 y2 z2 st2 hQ2
    subst l2 y2 z2
    obtain ⟨rfl, eh2, rfl⟩ := hQ2
    refine own_goT (S' := (T2.setTop (mkF m 33 #[.val (.int i0), .val (.int (0 : Int32)), .val (.ref a_INITIAL), .val (.int (0 : Int32))] [(.int (own_in a_INITIAL a_COMMITTED a_ABORTED))]))) st2 ?_
    refine own_go (S' := (T2.setTop (mkF m 42 #[.val (.int i0), .val (.int (0 : Int32)), .val (.ref a_INITIAL), .val (.int (0 : Int32))] [(.int (1 : Int32))]))) (fun _ k => XS.iloadN X2.here hx rfl (hb hby at_33) rfl (XS.icmpNo X2.here hx rfl (hb hby at_34) rfl (teq (by simp [own_in, n_INITIAL_COMMITTED, n_INITIAL_ABORTED])).2 (XS.iconst X2.here hx rfl (hb hby at_37) (XS.goto X2.here hx rfl (pc0 := 38) (pc' := 42) rfl (hb hby at_38) (by decide) (by decide) k)))) ?_
    refine own_retN (t := .boolean) X2 hx hlk (by simp) Bd.returns (hb hby at_42) (by decide) (by decide) ?_
    exact ⟨rfl, by simpa using N0⟩
  · refine own_go (S' := (s₁.setTop (mkF m 9 #[.val (.int i0), .val (.int (1 : Int32)), .unset, .unset] [(.int (1 : Int32))]))) (fun _ k => XS.iloadN X0.here hx rfl (hb hby at_8) rfl k) ?_
    obtain ⟨v3, _, ⟨T3, L3, k3, n3⟩, -, X3, ⟨Lc3, hQ3, l3, y3, z3⟩, st3⟩ := Jvm.LawKit.callS X0 hx (y := (⟨"com/example/quorumkeel/quorumkeel/protocol/TransactionStateIsFinalPinLaw", "pick", "(I)Lcom/example/quorumkeel/quorumkeel/protocol/TransactionState;"⟩ : MethodName)) hown (mvT hZ (hw _ (List.mem_of_getElem? (i := 1) rfl))) (mvT hZ (hw _ (List.mem_of_getElem? (i := 2) rfl))) (mvT hZ (hw _ (List.mem_of_getElem? (i := 3) rfl))) (mvT hZ (hw _ (List.mem_of_getElem? (i := 4) rfl))) (by decide) (backOf (W := 0) (rm1 l Z a0 hw [] (1 : Int32) a_INITIAL a_WAIT a_PRE_COMMIT a_PRE_ABORT a_COMMITTED a_ABORTED h0 n0 Z0 S_INITIAL S_COMMITTED S_ABORTED S_PRE_ABORT S_PRE_COMMIT S_WAIT) hZ (hw _ (List.mem_of_getElem? (i := 4) rfl)) (hw _ (List.mem_of_getElem? (i := 3) rfl)) (by decide) (by decide)) (g := (mkF m 9 #[.val (.int i0), .val (.int (1 : Int32)), .unset, .unset] [(.int (1 : Int32))])) rfl (by rw [hml]; rfl) (argsL := [(.int (1 : Int32))]) (rest := []) (lenOf pd_38 rfl) rfl (by show 2 * 0 + _ ≤ _; exact Nat.le_of_eq rfl) (hb hby at_9) (fun _ _ => ⟨rfl, e0, (by decide : 0 + 0 ≤ _), (by decide : 0 + 0 ≤ _)⟩)
    dsimp only [Pt.U, Pt.locs, Pt.cells, Pt.slots] at X3 l3 y3 z3 st3 hQ3
    subst l3 y3 z3
    obtain ⟨hv3, eh3, rfl⟩ := hQ3
    rw [show own_pk (1 : Int32) a_INITIAL a_WAIT a_PRE_COMMIT a_PRE_ABORT a_COMMITTED a_ABORTED = a_WAIT from by first | rfl | (simp [own_pk]; done) | decide] at hv3
    subst hv3
    refine own_go (S' := (T3.setTop (mkF m 12 #[.val (.int i0), .val (.int (1 : Int32)), .unset, .unset] [(.ref a_WAIT)]))) st3 ?_
    refine own_go (S' := (T3.setTop (mkF m 28 #[.val (.int i0), .val (.int (1 : Int32)), .val (.ref a_WAIT), .unset] [(.int (0 : Int32))]))) (fun _ k => XS.astoreN X3.here hx rfl (hb hby at_12) rfl rfl (l' := #[.val (.int i0), .val (.int (1 : Int32)), .val (.ref a_WAIT), .unset]) rfl (XS.iloadN X3.here hx rfl (hb hby at_13) rfl (XS.iconst X3.here hx rfl (hb hby at_14) (XS.icmpNo X3.here hx rfl (hb hby at_15) rfl (feq (by decide)).1 (XS.iloadN X3.here hx rfl (hb hby at_18) rfl (XS.iconst X3.here hx rfl (hb hby at_19) (XS.icmpYes X3.here hx rfl (pc0 := 20) (pc' := 27) rfl (hb hby at_20) rfl (feq (by decide)).2 (by decide) (by decide) (XS.iconst X3.here hx rfl (hb hby at_27) k)))))))) ?_
    refine own_go (S' := (T3.setTop (mkF m 30 #[.val (.int i0), .val (.int (1 : Int32)), .val (.ref a_WAIT), .val (.int (0 : Int32))] [(.ref a_WAIT)]))) (fun _ k => XS.istoreN X3.here hx rfl (hb hby at_28) rfl (l' := #[.val (.int i0), .val (.int (1 : Int32)), .val (.ref a_WAIT), .val (.int (0 : Int32))]) rfl (XS.aloadN X3.here hx rfl (hb hby at_29) rfl rfl k)) ?_
    obtain ⟨cq4, kq4, q4a, q4b, q4c⟩ := isOf hZ eh3 E_WAIT
    obtain ⟨v4, _, ⟨T4, L4, k4, n4⟩, -, X4, ⟨Lc4, hQ4, l4, y4, z4⟩, st4⟩ := X3.virtualBack hx (y := (⟨"com/example/quorumkeel/quorumkeel/protocol/TransactionState", "isFinal", "()Z"⟩ : MethodName)) (z := (⟨"com/example/quorumkeel/quorumkeel/protocol/TransactionState", "isFinal", "()Z"⟩ : MethodName)) hown (mvT hZ (hw _ (List.mem_of_getElem? (i := 8) rfl))) (mvT hZ (hw _ (List.mem_of_getElem? (i := 9) rfl))) (notFace_of_selects (args := #[]) (mvT hZ (hw _ (List.mem_of_getElem? (i := 11) rfl)))) (mvT hZ (hw _ (List.mem_of_getElem? (i := 11) rfl))) (mvT hZ (hw _ (List.mem_of_getElem? (i := 10) rfl))) (by decide) (backOf (W := 0) (rm2 l Z a0 hw [] a_WAIT a_COMMITTED a_ABORTED h0 n0 Z0 S_COMMITTED S_ABORTED) hZ (hw _ (List.mem_of_getElem? (i := 12) rfl)) (hw _ (List.mem_of_getElem? (i := 6) rfl)) (by decide) (by decide)) q4a q4c (g := (mkF m 30 #[.val (.int i0), .val (.int (1 : Int32)), .val (.ref a_WAIT), .val (.int (0 : Int32))] [(.ref a_WAIT)])) rfl (by rw [hml]; rfl) (Steps.refl _) (argsL := []) (rest := []) (lenOf pd_39 rfl) rfl (by show 2 * 0 + _ ≤ _; exact Nat.le_of_eq rfl) (hb hby at_30) (fun _ _ => ⟨rfl, eh3, (by decide : 0 + 0 ≤ _), (by decide : 0 + 0 ≤ _)⟩)
    dsimp only [Pt.U, Pt.locs, Pt.cells, Pt.slots] at X4 l4 y4 z4 st4 hQ4
    subst l4 y4 z4
    obtain ⟨rfl, eh4, rfl⟩ := hQ4
    refine own_goT (S' := (T4.setTop (mkF m 33 #[.val (.int i0), .val (.int (1 : Int32)), .val (.ref a_WAIT), .val (.int (0 : Int32))] [(.int (own_in a_WAIT a_COMMITTED a_ABORTED))]))) st4 ?_
    refine own_go (S' := (T4.setTop (mkF m 42 #[.val (.int i0), .val (.int (1 : Int32)), .val (.ref a_WAIT), .val (.int (0 : Int32))] [(.int (1 : Int32))]))) (fun _ k => XS.iloadN X4.here hx rfl (hb hby at_33) rfl (XS.icmpNo X4.here hx rfl (hb hby at_34) rfl (teq (by simp [own_in, n_WAIT_COMMITTED, n_WAIT_ABORTED])).2 (XS.iconst X4.here hx rfl (hb hby at_37) (XS.goto X4.here hx rfl (pc0 := 38) (pc' := 42) rfl (hb hby at_38) (by decide) (by decide) k)))) ?_
    refine own_retN (t := .boolean) X4 hx hlk (by simp) Bd.returns (hb hby at_42) (by decide) (by decide) ?_
    exact ⟨rfl, by simpa using N0⟩
  · refine own_go (S' := (s₁.setTop (mkF m 9 #[.val (.int i0), .val (.int (2 : Int32)), .unset, .unset] [(.int (2 : Int32))]))) (fun _ k => XS.iloadN X0.here hx rfl (hb hby at_8) rfl k) ?_
    obtain ⟨v5, _, ⟨T5, L5, k5, n5⟩, -, X5, ⟨Lc5, hQ5, l5, y5, z5⟩, st5⟩ := Jvm.LawKit.callS X0 hx (y := (⟨"com/example/quorumkeel/quorumkeel/protocol/TransactionStateIsFinalPinLaw", "pick", "(I)Lcom/example/quorumkeel/quorumkeel/protocol/TransactionState;"⟩ : MethodName)) hown (mvT hZ (hw _ (List.mem_of_getElem? (i := 1) rfl))) (mvT hZ (hw _ (List.mem_of_getElem? (i := 2) rfl))) (mvT hZ (hw _ (List.mem_of_getElem? (i := 3) rfl))) (mvT hZ (hw _ (List.mem_of_getElem? (i := 4) rfl))) (by decide) (backOf (W := 0) (rm1 l Z a0 hw [] (2 : Int32) a_INITIAL a_WAIT a_PRE_COMMIT a_PRE_ABORT a_COMMITTED a_ABORTED h0 n0 Z0 S_INITIAL S_COMMITTED S_ABORTED S_PRE_ABORT S_PRE_COMMIT S_WAIT) hZ (hw _ (List.mem_of_getElem? (i := 4) rfl)) (hw _ (List.mem_of_getElem? (i := 3) rfl)) (by decide) (by decide)) (g := (mkF m 9 #[.val (.int i0), .val (.int (2 : Int32)), .unset, .unset] [(.int (2 : Int32))])) rfl (by rw [hml]; rfl) (argsL := [(.int (2 : Int32))]) (rest := []) (lenOf pd_38 rfl) rfl (by show 2 * 0 + _ ≤ _; exact Nat.le_of_eq rfl) (hb hby at_9) (fun _ _ => ⟨rfl, e0, (by decide : 0 + 0 ≤ _), (by decide : 0 + 0 ≤ _)⟩)
    dsimp only [Pt.U, Pt.locs, Pt.cells, Pt.slots] at X5 l5 y5 z5 st5 hQ5
    subst l5 y5 z5
    obtain ⟨hv5, eh5, rfl⟩ := hQ5
    rw [show own_pk (2 : Int32) a_INITIAL a_WAIT a_PRE_COMMIT a_PRE_ABORT a_COMMITTED a_ABORTED = a_PRE_COMMIT from by first | rfl | (simp [own_pk]; done) | decide] at hv5
    subst hv5
    refine own_go (S' := (T5.setTop (mkF m 12 #[.val (.int i0), .val (.int (2 : Int32)), .unset, .unset] [(.ref a_PRE_COMMIT)]))) st5 ?_
    refine own_go (S' := (T5.setTop (mkF m 28 #[.val (.int i0), .val (.int (2 : Int32)), .val (.ref a_PRE_COMMIT), .unset] [(.int (0 : Int32))]))) (fun _ k => XS.astoreN X5.here hx rfl (hb hby at_12) rfl rfl (l' := #[.val (.int i0), .val (.int (2 : Int32)), .val (.ref a_PRE_COMMIT), .unset]) rfl (XS.iloadN X5.here hx rfl (hb hby at_13) rfl (XS.iconst X5.here hx rfl (hb hby at_14) (XS.icmpNo X5.here hx rfl (hb hby at_15) rfl (feq (by decide)).1 (XS.iloadN X5.here hx rfl (hb hby at_18) rfl (XS.iconst X5.here hx rfl (hb hby at_19) (XS.icmpYes X5.here hx rfl (pc0 := 20) (pc' := 27) rfl (hb hby at_20) rfl (feq (by decide)).2 (by decide) (by decide) (XS.iconst X5.here hx rfl (hb hby at_27) k)))))))) ?_
    refine own_go (S' := (T5.setTop (mkF m 30 #[.val (.int i0), .val (.int (2 : Int32)), .val (.ref a_PRE_COMMIT), .val (.int (0 : Int32))] [(.ref a_PRE_COMMIT)]))) (fun _ k => XS.istoreN X5.here hx rfl (hb hby at_28) rfl (l' := #[.val (.int i0), .val (.int (2 : Int32)), .val (.ref a_PRE_COMMIT), .val (.int (0 : Int32))]) rfl (XS.aloadN X5.here hx rfl (hb hby at_29) rfl rfl k)) ?_
    obtain ⟨cq6, kq6, q6a, q6b, q6c⟩ := isOf hZ eh5 E_PRE_COMMIT
    obtain ⟨v6, _, ⟨T6, L6, k6, n6⟩, -, X6, ⟨Lc6, hQ6, l6, y6, z6⟩, st6⟩ := X5.virtualBack hx (y := (⟨"com/example/quorumkeel/quorumkeel/protocol/TransactionState", "isFinal", "()Z"⟩ : MethodName)) (z := (⟨"com/example/quorumkeel/quorumkeel/protocol/TransactionState", "isFinal", "()Z"⟩ : MethodName)) hown (mvT hZ (hw _ (List.mem_of_getElem? (i := 8) rfl))) (mvT hZ (hw _ (List.mem_of_getElem? (i := 9) rfl))) (notFace_of_selects (args := #[]) (mvT hZ (hw _ (List.mem_of_getElem? (i := 11) rfl)))) (mvT hZ (hw _ (List.mem_of_getElem? (i := 11) rfl))) (mvT hZ (hw _ (List.mem_of_getElem? (i := 10) rfl))) (by decide) (backOf (W := 0) (rm2 l Z a0 hw [] a_PRE_COMMIT a_COMMITTED a_ABORTED h0 n0 Z0 S_COMMITTED S_ABORTED) hZ (hw _ (List.mem_of_getElem? (i := 12) rfl)) (hw _ (List.mem_of_getElem? (i := 6) rfl)) (by decide) (by decide)) q6a q6c (g := (mkF m 30 #[.val (.int i0), .val (.int (2 : Int32)), .val (.ref a_PRE_COMMIT), .val (.int (0 : Int32))] [(.ref a_PRE_COMMIT)])) rfl (by rw [hml]; rfl) (Steps.refl _) (argsL := []) (rest := []) (lenOf pd_39 rfl) rfl (by show 2 * 0 + _ ≤ _; exact Nat.le_of_eq rfl) (hb hby at_30) (fun _ _ => ⟨rfl, eh5, (by decide : 0 + 0 ≤ _), (by decide : 0 + 0 ≤ _)⟩)
    dsimp only [Pt.U, Pt.locs, Pt.cells, Pt.slots] at X6 l6 y6 z6 st6 hQ6
    subst l6 y6 z6
    obtain ⟨rfl, eh6, rfl⟩ := hQ6
    refine own_goT (S' := (T6.setTop (mkF m 33 #[.val (.int i0), .val (.int (2 : Int32)), .val (.ref a_PRE_COMMIT), .val (.int (0 : Int32))] [(.int (own_in a_PRE_COMMIT a_COMMITTED a_ABORTED))]))) st6 ?_
    refine own_go (S' := (T6.setTop (mkF m 42 #[.val (.int i0), .val (.int (2 : Int32)), .val (.ref a_PRE_COMMIT), .val (.int (0 : Int32))] [(.int (1 : Int32))]))) (fun _ k => XS.iloadN X6.here hx rfl (hb hby at_33) rfl (XS.icmpNo X6.here hx rfl (hb hby at_34) rfl (teq (by simp [own_in, n_PRE_COMMIT_COMMITTED, n_PRE_COMMIT_ABORTED])).2 (XS.iconst X6.here hx rfl (hb hby at_37) (XS.goto X6.here hx rfl (pc0 := 38) (pc' := 42) rfl (hb hby at_38) (by decide) (by decide) k)))) ?_
    refine own_retN (t := .boolean) X6 hx hlk (by simp) Bd.returns (hb hby at_42) (by decide) (by decide) ?_
    exact ⟨rfl, by simpa using N0⟩
  · refine own_go (S' := (s₁.setTop (mkF m 9 #[.val (.int i0), .val (.int (3 : Int32)), .unset, .unset] [(.int (3 : Int32))]))) (fun _ k => XS.iloadN X0.here hx rfl (hb hby at_8) rfl k) ?_
    obtain ⟨v7, _, ⟨T7, L7, k7, n7⟩, -, X7, ⟨Lc7, hQ7, l7, y7, z7⟩, st7⟩ := Jvm.LawKit.callS X0 hx (y := (⟨"com/example/quorumkeel/quorumkeel/protocol/TransactionStateIsFinalPinLaw", "pick", "(I)Lcom/example/quorumkeel/quorumkeel/protocol/TransactionState;"⟩ : MethodName)) hown (mvT hZ (hw _ (List.mem_of_getElem? (i := 1) rfl))) (mvT hZ (hw _ (List.mem_of_getElem? (i := 2) rfl))) (mvT hZ (hw _ (List.mem_of_getElem? (i := 3) rfl))) (mvT hZ (hw _ (List.mem_of_getElem? (i := 4) rfl))) (by decide) (backOf (W := 0) (rm1 l Z a0 hw [] (3 : Int32) a_INITIAL a_WAIT a_PRE_COMMIT a_PRE_ABORT a_COMMITTED a_ABORTED h0 n0 Z0 S_INITIAL S_COMMITTED S_ABORTED S_PRE_ABORT S_PRE_COMMIT S_WAIT) hZ (hw _ (List.mem_of_getElem? (i := 4) rfl)) (hw _ (List.mem_of_getElem? (i := 3) rfl)) (by decide) (by decide)) (g := (mkF m 9 #[.val (.int i0), .val (.int (3 : Int32)), .unset, .unset] [(.int (3 : Int32))])) rfl (by rw [hml]; rfl) (argsL := [(.int (3 : Int32))]) (rest := []) (lenOf pd_38 rfl) rfl (by show 2 * 0 + _ ≤ _; exact Nat.le_of_eq rfl) (hb hby at_9) (fun _ _ => ⟨rfl, e0, (by decide : 0 + 0 ≤ _), (by decide : 0 + 0 ≤ _)⟩)
    dsimp only [Pt.U, Pt.locs, Pt.cells, Pt.slots] at X7 l7 y7 z7 st7 hQ7
    subst l7 y7 z7
    obtain ⟨hv7, eh7, rfl⟩ := hQ7
    rw [show own_pk (3 : Int32) a_INITIAL a_WAIT a_PRE_COMMIT a_PRE_ABORT a_COMMITTED a_ABORTED = a_PRE_ABORT from by first | rfl | (simp [own_pk]; done) | decide] at hv7
    subst hv7
    refine own_go (S' := (T7.setTop (mkF m 12 #[.val (.int i0), .val (.int (3 : Int32)), .unset, .unset] [(.ref a_PRE_ABORT)]))) st7 ?_
    refine own_go (S' := (T7.setTop (mkF m 28 #[.val (.int i0), .val (.int (3 : Int32)), .val (.ref a_PRE_ABORT), .unset] [(.int (0 : Int32))]))) (fun _ k => XS.astoreN X7.here hx rfl (hb hby at_12) rfl rfl (l' := #[.val (.int i0), .val (.int (3 : Int32)), .val (.ref a_PRE_ABORT), .unset]) rfl (XS.iloadN X7.here hx rfl (hb hby at_13) rfl (XS.iconst X7.here hx rfl (hb hby at_14) (XS.icmpNo X7.here hx rfl (hb hby at_15) rfl (feq (by decide)).1 (XS.iloadN X7.here hx rfl (hb hby at_18) rfl (XS.iconst X7.here hx rfl (hb hby at_19) (XS.icmpYes X7.here hx rfl (pc0 := 20) (pc' := 27) rfl (hb hby at_20) rfl (feq (by decide)).2 (by decide) (by decide) (XS.iconst X7.here hx rfl (hb hby at_27) k)))))))) ?_
    refine own_go (S' := (T7.setTop (mkF m 30 #[.val (.int i0), .val (.int (3 : Int32)), .val (.ref a_PRE_ABORT), .val (.int (0 : Int32))] [(.ref a_PRE_ABORT)]))) (fun _ k => XS.istoreN X7.here hx rfl (hb hby at_28) rfl (l' := #[.val (.int i0), .val (.int (3 : Int32)), .val (.ref a_PRE_ABORT), .val (.int (0 : Int32))]) rfl (XS.aloadN X7.here hx rfl (hb hby at_29) rfl rfl k)) ?_
    obtain ⟨cq8, kq8, q8a, q8b, q8c⟩ := isOf hZ eh7 E_PRE_ABORT
    obtain ⟨v8, _, ⟨T8, L8, k8, n8⟩, -, X8, ⟨Lc8, hQ8, l8, y8, z8⟩, st8⟩ := X7.virtualBack hx (y := (⟨"com/example/quorumkeel/quorumkeel/protocol/TransactionState", "isFinal", "()Z"⟩ : MethodName)) (z := (⟨"com/example/quorumkeel/quorumkeel/protocol/TransactionState", "isFinal", "()Z"⟩ : MethodName)) hown (mvT hZ (hw _ (List.mem_of_getElem? (i := 8) rfl))) (mvT hZ (hw _ (List.mem_of_getElem? (i := 9) rfl))) (notFace_of_selects (args := #[]) (mvT hZ (hw _ (List.mem_of_getElem? (i := 11) rfl)))) (mvT hZ (hw _ (List.mem_of_getElem? (i := 11) rfl))) (mvT hZ (hw _ (List.mem_of_getElem? (i := 10) rfl))) (by decide) (backOf (W := 0) (rm2 l Z a0 hw [] a_PRE_ABORT a_COMMITTED a_ABORTED h0 n0 Z0 S_COMMITTED S_ABORTED) hZ (hw _ (List.mem_of_getElem? (i := 12) rfl)) (hw _ (List.mem_of_getElem? (i := 6) rfl)) (by decide) (by decide)) q8a q8c (g := (mkF m 30 #[.val (.int i0), .val (.int (3 : Int32)), .val (.ref a_PRE_ABORT), .val (.int (0 : Int32))] [(.ref a_PRE_ABORT)])) rfl (by rw [hml]; rfl) (Steps.refl _) (argsL := []) (rest := []) (lenOf pd_39 rfl) rfl (by show 2 * 0 + _ ≤ _; exact Nat.le_of_eq rfl) (hb hby at_30) (fun _ _ => ⟨rfl, eh7, (by decide : 0 + 0 ≤ _), (by decide : 0 + 0 ≤ _)⟩)
    dsimp only [Pt.U, Pt.locs, Pt.cells, Pt.slots] at X8 l8 y8 z8 st8 hQ8
    subst l8 y8 z8
    obtain ⟨rfl, eh8, rfl⟩ := hQ8
    refine own_goT (S' := (T8.setTop (mkF m 33 #[.val (.int i0), .val (.int (3 : Int32)), .val (.ref a_PRE_ABORT), .val (.int (0 : Int32))] [(.int (own_in a_PRE_ABORT a_COMMITTED a_ABORTED))]))) st8 ?_
    refine own_go (S' := (T8.setTop (mkF m 42 #[.val (.int i0), .val (.int (3 : Int32)), .val (.ref a_PRE_ABORT), .val (.int (0 : Int32))] [(.int (1 : Int32))]))) (fun _ k => XS.iloadN X8.here hx rfl (hb hby at_33) rfl (XS.icmpNo X8.here hx rfl (hb hby at_34) rfl (teq (by simp [own_in, n_PRE_ABORT_COMMITTED, n_PRE_ABORT_ABORTED])).2 (XS.iconst X8.here hx rfl (hb hby at_37) (XS.goto X8.here hx rfl (pc0 := 38) (pc' := 42) rfl (hb hby at_38) (by decide) (by decide) k)))) ?_
    refine own_retN (t := .boolean) X8 hx hlk (by simp) Bd.returns (hb hby at_42) (by decide) (by decide) ?_
    exact ⟨rfl, by simpa using N0⟩
  · refine own_go (S' := (s₁.setTop (mkF m 9 #[.val (.int i0), .val (.int (4 : Int32)), .unset, .unset] [(.int (4 : Int32))]))) (fun _ k => XS.iloadN X0.here hx rfl (hb hby at_8) rfl k) ?_
    obtain ⟨v9, _, ⟨T9, L9, k9, n9⟩, -, X9, ⟨Lc9, hQ9, l9, y9, z9⟩, st9⟩ := Jvm.LawKit.callS X0 hx (y := (⟨"com/example/quorumkeel/quorumkeel/protocol/TransactionStateIsFinalPinLaw", "pick", "(I)Lcom/example/quorumkeel/quorumkeel/protocol/TransactionState;"⟩ : MethodName)) hown (mvT hZ (hw _ (List.mem_of_getElem? (i := 1) rfl))) (mvT hZ (hw _ (List.mem_of_getElem? (i := 2) rfl))) (mvT hZ (hw _ (List.mem_of_getElem? (i := 3) rfl))) (mvT hZ (hw _ (List.mem_of_getElem? (i := 4) rfl))) (by decide) (backOf (W := 0) (rm1 l Z a0 hw [] (4 : Int32) a_INITIAL a_WAIT a_PRE_COMMIT a_PRE_ABORT a_COMMITTED a_ABORTED h0 n0 Z0 S_INITIAL S_COMMITTED S_ABORTED S_PRE_ABORT S_PRE_COMMIT S_WAIT) hZ (hw _ (List.mem_of_getElem? (i := 4) rfl)) (hw _ (List.mem_of_getElem? (i := 3) rfl)) (by decide) (by decide)) (g := (mkF m 9 #[.val (.int i0), .val (.int (4 : Int32)), .unset, .unset] [(.int (4 : Int32))])) rfl (by rw [hml]; rfl) (argsL := [(.int (4 : Int32))]) (rest := []) (lenOf pd_38 rfl) rfl (by show 2 * 0 + _ ≤ _; exact Nat.le_of_eq rfl) (hb hby at_9) (fun _ _ => ⟨rfl, e0, (by decide : 0 + 0 ≤ _), (by decide : 0 + 0 ≤ _)⟩)
    dsimp only [Pt.U, Pt.locs, Pt.cells, Pt.slots] at X9 l9 y9 z9 st9 hQ9
    subst l9 y9 z9
    obtain ⟨hv9, eh9, rfl⟩ := hQ9
    rw [show own_pk (4 : Int32) a_INITIAL a_WAIT a_PRE_COMMIT a_PRE_ABORT a_COMMITTED a_ABORTED = a_COMMITTED from by first | rfl | (simp [own_pk]; done) | decide] at hv9
    subst hv9
    refine own_go (S' := (T9.setTop (mkF m 12 #[.val (.int i0), .val (.int (4 : Int32)), .unset, .unset] [(.ref a_COMMITTED)]))) st9 ?_
    refine own_go (S' := (T9.setTop (mkF m 30 #[.val (.int i0), .val (.int (4 : Int32)), .val (.ref a_COMMITTED), .val (.int (1 : Int32))] [(.ref a_COMMITTED)]))) (fun _ k => XS.astoreN X9.here hx rfl (hb hby at_12) rfl rfl (l' := #[.val (.int i0), .val (.int (4 : Int32)), .val (.ref a_COMMITTED), .unset]) rfl (XS.iloadN X9.here hx rfl (hb hby at_13) rfl (XS.iconst X9.here hx rfl (hb hby at_14) (XS.icmpYes X9.here hx rfl (pc0 := 15) (pc' := 23) rfl (hb hby at_15) rfl (teq (by decide)).1 (by decide) (by decide) (XS.iconst X9.here hx rfl (hb hby at_23) (XS.goto X9.here hx rfl (pc0 := 24) (pc' := 28) rfl (hb hby at_24) (by decide) (by decide) (XS.istoreN X9.here hx rfl (hb hby at_28) rfl (l' := #[.val (.int i0), .val (.int (4 : Int32)), .val (.ref a_COMMITTED), .val (.int (1 : Int32))]) rfl (XS.aloadN X9.here hx rfl (hb hby at_29) rfl rfl k)))))))) ?_
    obtain ⟨cq10, kq10, q10a, q10b, q10c⟩ := isOf hZ eh9 E_COMMITTED
    obtain ⟨v10, _, ⟨T10, L10, k10, n10⟩, -, X10, ⟨Lc10, hQ10, l10, y10, z10⟩, st10⟩ := X9.virtualBack hx (y := (⟨"com/example/quorumkeel/quorumkeel/protocol/TransactionState", "isFinal", "()Z"⟩ : MethodName)) (z := (⟨"com/example/quorumkeel/quorumkeel/protocol/TransactionState", "isFinal", "()Z"⟩ : MethodName)) hown (mvT hZ (hw _ (List.mem_of_getElem? (i := 8) rfl))) (mvT hZ (hw _ (List.mem_of_getElem? (i := 9) rfl))) (notFace_of_selects (args := #[]) (mvT hZ (hw _ (List.mem_of_getElem? (i := 11) rfl)))) (mvT hZ (hw _ (List.mem_of_getElem? (i := 11) rfl))) (mvT hZ (hw _ (List.mem_of_getElem? (i := 10) rfl))) (by decide) (backOf (W := 0) (rm2 l Z a0 hw [] a_COMMITTED a_COMMITTED a_ABORTED h0 n0 Z0 S_COMMITTED S_ABORTED) hZ (hw _ (List.mem_of_getElem? (i := 12) rfl)) (hw _ (List.mem_of_getElem? (i := 6) rfl)) (by decide) (by decide)) q10a q10c (g := (mkF m 30 #[.val (.int i0), .val (.int (4 : Int32)), .val (.ref a_COMMITTED), .val (.int (1 : Int32))] [(.ref a_COMMITTED)])) rfl (by rw [hml]; rfl) (Steps.refl _) (argsL := []) (rest := []) (lenOf pd_39 rfl) rfl (by show 2 * 0 + _ ≤ _; exact Nat.le_of_eq rfl) (hb hby at_30) (fun _ _ => ⟨rfl, eh9, (by decide : 0 + 0 ≤ _), (by decide : 0 + 0 ≤ _)⟩)
    dsimp only [Pt.U, Pt.locs, Pt.cells, Pt.slots] at X10 l10 y10 z10 st10 hQ10
    subst l10 y10 z10
    obtain ⟨rfl, eh10, rfl⟩ := hQ10
    refine own_goT (S' := (T10.setTop (mkF m 33 #[.val (.int i0), .val (.int (4 : Int32)), .val (.ref a_COMMITTED), .val (.int (1 : Int32))] [(.int (own_in a_COMMITTED a_COMMITTED a_ABORTED))]))) st10 ?_
    refine own_go (S' := (T10.setTop (mkF m 42 #[.val (.int i0), .val (.int (4 : Int32)), .val (.ref a_COMMITTED), .val (.int (1 : Int32))] [(.int (1 : Int32))]))) (fun _ k => XS.iloadN X10.here hx rfl (hb hby at_33) rfl (XS.icmpNo X10.here hx rfl (hb hby at_34) rfl (teq (by simp [own_in, n_COMMITTED_ABORTED])).2 (XS.iconst X10.here hx rfl (hb hby at_37) (XS.goto X10.here hx rfl (pc0 := 38) (pc' := 42) rfl (hb hby at_38) (by decide) (by decide) k)))) ?_
    refine own_retN (t := .boolean) X10 hx hlk (by simp) Bd.returns (hb hby at_42) (by decide) (by decide) ?_
    exact ⟨rfl, by simpa using N0⟩
  · refine own_go (S' := (s₁.setTop (mkF m 9 #[.val (.int i0), .val (.int (5 : Int32)), .unset, .unset] [(.int (5 : Int32))]))) (fun _ k => XS.iloadN X0.here hx rfl (hb hby at_8) rfl k) ?_
    obtain ⟨v11, _, ⟨T11, L11, k11, n11⟩, -, X11, ⟨Lc11, hQ11, l11, y11, z11⟩, st11⟩ := Jvm.LawKit.callS X0 hx (y := (⟨"com/example/quorumkeel/quorumkeel/protocol/TransactionStateIsFinalPinLaw", "pick", "(I)Lcom/example/quorumkeel/quorumkeel/protocol/TransactionState;"⟩ : MethodName)) hown (mvT hZ (hw _ (List.mem_of_getElem? (i := 1) rfl))) (mvT hZ (hw _ (List.mem_of_getElem? (i := 2) rfl))) (mvT hZ (hw _ (List.mem_of_getElem? (i := 3) rfl))) (mvT hZ (hw _ (List.mem_of_getElem? (i := 4) rfl))) (by decide) (backOf (W := 0) (rm1 l Z a0 hw [] (5 : Int32) a_INITIAL a_WAIT a_PRE_COMMIT a_PRE_ABORT a_COMMITTED a_ABORTED h0 n0 Z0 S_INITIAL S_COMMITTED S_ABORTED S_PRE_ABORT S_PRE_COMMIT S_WAIT) hZ (hw _ (List.mem_of_getElem? (i := 4) rfl)) (hw _ (List.mem_of_getElem? (i := 3) rfl)) (by decide) (by decide)) (g := (mkF m 9 #[.val (.int i0), .val (.int (5 : Int32)), .unset, .unset] [(.int (5 : Int32))])) rfl (by rw [hml]; rfl) (argsL := [(.int (5 : Int32))]) (rest := []) (lenOf pd_38 rfl) rfl (by show 2 * 0 + _ ≤ _; exact Nat.le_of_eq rfl) (hb hby at_9) (fun _ _ => ⟨rfl, e0, (by decide : 0 + 0 ≤ _), (by decide : 0 + 0 ≤ _)⟩)
    dsimp only [Pt.U, Pt.locs, Pt.cells, Pt.slots] at X11 l11 y11 z11 st11 hQ11
    subst l11 y11 z11
    obtain ⟨hv11, eh11, rfl⟩ := hQ11
    rw [show own_pk (5 : Int32) a_INITIAL a_WAIT a_PRE_COMMIT a_PRE_ABORT a_COMMITTED a_ABORTED = a_ABORTED from by first | rfl | (simp [own_pk]; done) | decide] at hv11
    subst hv11
    refine own_go (S' := (T11.setTop (mkF m 12 #[.val (.int i0), .val (.int (5 : Int32)), .unset, .unset] [(.ref a_ABORTED)]))) st11 ?_
    refine own_go (S' := (T11.setTop (mkF m 24 #[.val (.int i0), .val (.int (5 : Int32)), .val (.ref a_ABORTED), .unset] [(.int (1 : Int32))]))) (fun _ k => XS.astoreN X11.here hx rfl (hb hby at_12) rfl rfl (l' := #[.val (.int i0), .val (.int (5 : Int32)), .val (.ref a_ABORTED), .unset]) rfl (XS.iloadN X11.here hx rfl (hb hby at_13) rfl (XS.iconst X11.here hx rfl (hb hby at_14) (XS.icmpNo X11.here hx rfl (hb hby at_15) rfl (feq (by decide)).1 (XS.iloadN X11.here hx rfl (hb hby at_18) rfl (XS.iconst X11.here hx rfl (hb hby at_19) (XS.icmpNo X11.here hx rfl (hb hby at_20) rfl (teq (by decide)).2 (XS.iconst X11.here hx rfl (hb hby at_23) k)))))))) ?_
    refine own_go (S' := (T11.setTop (mkF m 30 #[.val (.int i0), .val (.int (5 : Int32)), .val (.ref a_ABORTED), .val (.int (1 : Int32))] [(.ref a_ABORTED)]))) (fun _ k => XS.goto X11.here hx rfl (pc0 := 24) (pc' := 28) rfl (hb hby at_24) (by decide) (by decide) (XS.istoreN X11.here hx rfl (hb hby at_28) rfl (l' := #[.val (.int i0), .val (.int (5 : Int32)), .val (.ref a_ABORTED), .val (.int (1 : Int32))]) rfl (XS.aloadN X11.here hx rfl (hb hby at_29) rfl rfl k))) ?_
    obtain ⟨cq12, kq12, q12a, q12b, q12c⟩ := isOf hZ eh11 E_ABORTED
    obtain ⟨v12, _, ⟨T12, L12, k12, n12⟩, -, X12, ⟨Lc12, hQ12, l12, y12, z12⟩, st12⟩ := X11.virtualBack hx (y := (⟨"com/example/quorumkeel/quorumkeel/protocol/TransactionState", "isFinal", "()Z"⟩ : MethodName)) (z := (⟨"com/example/quorumkeel/quorumkeel/protocol/TransactionState", "isFinal", "()Z"⟩ : MethodName)) hown (mvT hZ (hw _ (List.mem_of_getElem? (i := 8) rfl))) (mvT hZ (hw _ (List.mem_of_getElem? (i := 9) rfl))) (notFace_of_selects (args := #[]) (mvT hZ (hw _ (List.mem_of_getElem? (i := 11) rfl)))) (mvT hZ (hw _ (List.mem_of_getElem? (i := 11) rfl))) (mvT hZ (hw _ (List.mem_of_getElem? (i := 10) rfl))) (by decide) (backOf (W := 0) (rm2 l Z a0 hw [] a_ABORTED a_COMMITTED a_ABORTED h0 n0 Z0 S_COMMITTED S_ABORTED) hZ (hw _ (List.mem_of_getElem? (i := 12) rfl)) (hw _ (List.mem_of_getElem? (i := 6) rfl)) (by decide) (by decide)) q12a q12c (g := (mkF m 30 #[.val (.int i0), .val (.int (5 : Int32)), .val (.ref a_ABORTED), .val (.int (1 : Int32))] [(.ref a_ABORTED)])) rfl (by rw [hml]; rfl) (Steps.refl _) (argsL := []) (rest := []) (lenOf pd_39 rfl) rfl (by show 2 * 0 + _ ≤ _; exact Nat.le_of_eq rfl) (hb hby at_30) (fun _ _ => ⟨rfl, eh11, (by decide : 0 + 0 ≤ _), (by decide : 0 + 0 ≤ _)⟩)
    dsimp only [Pt.U, Pt.locs, Pt.cells, Pt.slots] at X12 l12 y12 z12 st12 hQ12
    subst l12 y12 z12
    obtain ⟨rfl, eh12, rfl⟩ := hQ12
    refine own_goT (S' := (T12.setTop (mkF m 33 #[.val (.int i0), .val (.int (5 : Int32)), .val (.ref a_ABORTED), .val (.int (1 : Int32))] [(.int (own_in a_ABORTED a_COMMITTED a_ABORTED))]))) st12 ?_
    refine own_go (S' := (T12.setTop (mkF m 42 #[.val (.int i0), .val (.int (5 : Int32)), .val (.ref a_ABORTED), .val (.int (1 : Int32))] [(.int (1 : Int32))]))) (fun _ k => XS.iloadN X12.here hx rfl (hb hby at_33) rfl (XS.icmpNo X12.here hx rfl (hb hby at_34) rfl (teq (by simp [own_in, n_ABORTED_COMMITTED])).2 (XS.iconst X12.here hx rfl (hb hby at_37) (XS.goto X12.here hx rfl (pc0 := 38) (pc' := 42) rfl (hb hby at_38) (by decide) (by decide) k)))) ?_
    refine own_retN (t := .boolean) X12 hx hlk (by simp) Bd.returns (hb hby at_42) (by decide) (by decide) ?_
    exact ⟨rfl, by simpa using N0⟩
set_option maxRecDepth 65536 in
set_option maxHeartbeats 40000000 in
theorem comes_1 {Post : Tables → Env → Array Value → State → Outcome → State → Prop} (hpost : ∀ tb e args s v u, (limb_1_1.after args s (.returned v) u = true ∧ limb_1_2.after args s (.returned v) u = true ∧ True) → FrameEnd s (.returned v) u (Jvm.fieldLocs frame_1_writes args s ++ Jvm.arrayLocs frame_1_arrays args s ++ Jvm.staticLocs frame_1_statics s) 0 0 → Post tb e args s (.returned v) u) :
    ArmFor flags0 classFile x code maxLocals ret World_1 tables_1 room_1 Calls_1 rest_1 Pre_1 Post := by
  intro l hfl _ _ p e ha hc hk s m args below hf hA hF happ hP
  obtain ⟨hcalls, hrest, hpre⟩ := hP
  obtain ⟨-, -, -, hnamed, -, -, -, hat⟩ := (Spec.applies_iff hf).mp happ
  obtain ⟨hg, hn⟩ := and_e (Cond.before_iff.mp (show (Jvm.Cond.and given_1 narrow_1).before args s = true from hpre))
  obtain ⟨h1, h2⟩ := and_e hg
  obtain ⟨w0, rfl⟩ : ∃ w0 : Value, args = #[w0] := by
    have hs : args.size = 1 := by simpa [Cond.value, given_1] using h1
    obtain ⟨L⟩ := args
    match L, hs with
    | [w0], _ => exact ⟨w0, rfl⟩
  have hw := fun d (hd : d ∈ tables_1) => atoms_spec (ws := Jvm.Cond.code x code maxLocals ret :: tables_1) hat d (List.mem_cons_of_mem _ hd)
  have hfit : Fit s := fun {y c} hc i hi => by
    obtain ⟨ha, rfl⟩ := Array.getElem?_eq_some_iff.mp hc
    have q := List.all_eq_true.mp ((Array.all_eq_true_iff_forall_mem.mp hF) _ (Array.getElem_mem ha)) i (List.mem_range.mpr hi)
    simpa [Array.getElem?_eq_getElem hi] using q
  obtain ⟨i0, ev0⟩ := is_v h2
  obtain rfl : w0 = (.int i0) := Option.some.inj ev0
  obtain ⟨nw0, nr0⟩ := and_e hn
  obtain ⟨nw1, nr1⟩ := and_e nr0
  obtain ⟨nw2, nr2⟩ := and_e nr1
  obtain ⟨nw3, nr3⟩ := and_e nr2
  obtain ⟨nw4, nr4⟩ := and_e nr3
  obtain ⟨nw5, nr5⟩ := and_e nr4
  obtain ⟨nw6, nr6⟩ := and_e nr5
  obtain ⟨nw7, nr7⟩ := and_e nr6
  obtain ⟨nw8, nr8⟩ := and_e nr7
  obtain ⟨nw9, nr9⟩ := and_e nr8
  obtain ⟨nw10, nr10⟩ := and_e nr9
  obtain ⟨a_INITIAL, ev_INITIAL⟩ := exa_v nw0
  have E_INITIAL := Exa.start ev_INITIAL nw0
  have S_INITIAL := Sta.start ev_INITIAL (Or.inr ⟨(hw _ (List.mem_of_getElem? (i := 6) rfl)), (hw _ (List.mem_of_getElem? (i := 7) rfl))⟩)
  obtain ⟨a_COMMITTED, ev_COMMITTED⟩ := exa_v nw1
  have E_COMMITTED := Exa.start ev_COMMITTED nw1
  have S_COMMITTED := Sta.start ev_COMMITTED (Or.inr ⟨(hw _ (List.mem_of_getElem? (i := 6) rfl)), (hw _ (List.mem_of_getElem? (i := 14) rfl))⟩)
  obtain ⟨a_ABORTED, ev_ABORTED⟩ := exa_v nw4
  have E_ABORTED := Exa.start ev_ABORTED nw4
  have S_ABORTED := Sta.start ev_ABORTED (Or.inr ⟨(hw _ (List.mem_of_getElem? (i := 6) rfl)), (hw _ (List.mem_of_getElem? (i := 16) rfl))⟩)
  obtain ⟨a_PRE_ABORT, ev_PRE_ABORT⟩ := exa_v nw6
  have E_PRE_ABORT := Exa.start ev_PRE_ABORT nw6
  have S_PRE_ABORT := Sta.start ev_PRE_ABORT (Or.inr ⟨(hw _ (List.mem_of_getElem? (i := 6) rfl)), (hw _ (List.mem_of_getElem? (i := 18) rfl))⟩)
  obtain ⟨a_PRE_COMMIT, ev_PRE_COMMIT⟩ := exa_v nw8
  have E_PRE_COMMIT := Exa.start ev_PRE_COMMIT nw8
  have S_PRE_COMMIT := Sta.start ev_PRE_COMMIT (Or.inr ⟨(hw _ (List.mem_of_getElem? (i := 6) rfl)), (hw _ (List.mem_of_getElem? (i := 20) rfl))⟩)
  obtain ⟨a_WAIT, ev_WAIT⟩ := exa_v nw10
  have E_WAIT := Exa.start ev_WAIT nw10
  have S_WAIT := Sta.start ev_WAIT (Or.inr ⟨(hw _ (List.mem_of_getElem? (i := 6) rfl)), (hw _ (List.mem_of_getElem? (i := 22) rfl))⟩)
  have F_INITIAL_ordinal := Fld.start ((fld_at ev_INITIAL).symm.trans (own_eqInt nw2))
  have F_COMMITTED_ordinal := Fld.start ((fld_at ev_COMMITTED).symm.trans (own_eqInt nw3))
  have F_ABORTED_ordinal := Fld.start ((fld_at ev_ABORTED).symm.trans (own_eqInt nw5))
  have F_PRE_ABORT_ordinal := Fld.start ((fld_at ev_PRE_ABORT).symm.trans (own_eqInt nw7))
  have F_PRE_COMMIT_ordinal := Fld.start ((fld_at ev_PRE_COMMIT).symm.trans (own_eqInt nw9))
  have F_WAIT_ordinal := Fld.start ((fld_at ev_WAIT).symm.trans (own_eqInt nr10))
  obtain ⟨n, o, h1, h2, h3, _, L, rfl, ⟨rfl, N⟩, hq⟩ := rm0 l s _ hw tables_1 i0 a_INITIAL a_COMMITTED a_ABORTED a_PRE_ABORT a_PRE_COMMIT a_WAIT s.heap s.heap.size (Nat.le_refl _) S_INITIAL S_COMMITTED S_ABORTED S_PRE_ABORT S_PRE_COMMIT S_WAIT E_INITIAL E_COMMITTED E_ABORTED E_PRE_ABORT E_PRE_COMMIT E_WAIT F_INITIAL_ordinal F_COMMITTED_ordinal F_ABORTED_ordinal F_PRE_ABORT_ordinal F_PRE_COMMIT_ordinal F_WAIT_ordinal p e ha hc hk s m _ below hf ((Spec.applies_iff_loose hf).mp happ).1 ⟨rfl, State.Warmed39.refl s, rfl⟩ trivial
  refine ⟨n, _, h1, h2, h3, hpost _ _ _ _ _ _ ⟨Cond.after_iff.mpr rfl, Cond.after_iff.mpr (eq_i res_at (Term.int_eval (1)) rfl), trivial⟩ ⟨hq.1, hq.2.1, (hq.2.2.sift fun y hy => Or.inr (N y hy)).mono (by decide) (by decide)⟩⟩
theorem main_1_1 : Claimed_1_1 := comes_1 fun _ _ _ _ _ _ h hF => ⟨h.1, hF⟩
theorem main_1_2 : Claimed_1_2 := comes_1 fun _ _ _ _ _ _ h hF => ⟨h.2.1, hF⟩
end Jvm.Pilot.@@N@@
namespace Jvm.Pilot.@@N@@
open Jvm Jvm.ClassFile Sem Op Lib Jvm.Free Jvm.Stand Jvm.Pilot.@@N@@.Jvm.D
/-! MADE BY PROGRAM (witnessworld.py) out of the Statement's table words and the real class files: 12 classes; the members and pool entries that the words name. The judged class is class 1, her method 1. -/
namespace start1
open Jvm.ClassFile
def u (s : String) : CpInfo := .utf8 (stringToUtf16 s)
/-- a pool by its gaps: so many unusable entries, then the entry; so many at the end -/
def gap : Nat → List CpInfo → List CpInfo
  | 0, r => r
  | n + 1, r => .unusable :: gap n r
def poolList (es : List (Nat × CpInfo)) (last : Nat) : List CpInfo := es.foldr (fun e r => gap e.1 (e.2 :: r)) (gap last [])
def pool (es : List (Nat × CpInfo)) (last : Nat) : Array CpInfo := ⟨poolList es last⟩
def fileOf (pool : Array CpInfo) (this : Nat) (attrs : Array Attribute := #[]) (ms : Array MethodInfo := #[]) (fl : Nat := 33) (sup : Nat := 0) (ifs : Array Nat := #[]) (fds : Array FieldInfo := #[]) : ClassFile where
  minorVersion := 0
  majorVersion := 65
  constantPool := pool
  accessFlags := fl
  thisClass := this
  superClass := sup
  interfaces := ifs
  fields := fds
  methods := ms
  attributes := attrs
def plain (name : String) (sup : Option ClassId) : Class where
  name := name
  kind := .ordinary
  loader := none
  accessFlags := 33
  super := sup
  interfaces := #[]
  cf := none
  fields := #[]
  methods := #[]
  instanceTypes := #[]
  staticTypes := #[]
  resolved := #[]
  callSites := []
  init := .initialized
  statics := none
  mirror := none

def pool0 : Array CpInfo := pool [(5, u "<init>"), (0, u "()V"), (1, .class_ 10), (1, u "java/lang/Object")] 113

def k0m0 : Method := { name := "<init>", desc := "()V", sig := { parameters := [], returnType := none }, accessFlags := 1, code := none }
/-- java/lang/Object -/
def k0 : Class := { plain "java/lang/Object" none with
  accessFlags := 33
  interfaces := #[]
  cf := some (fileOf pool0 8 #[] #[{ accessFlags := 1, nameIndex := 5, descriptorIndex := 6, attributes := #[] }] 33 0 #[] #[])
  fields := #[]
  methods := #[k0m0]
  instanceTypes := #[]
  staticTypes := #[]
  resolved := Array.replicate 124 none
  statics := none }

def pool1 : Array CpInfo := pool [(2, .class_ 4), (1, u "java/lang/Object"), (0, u "<init>"), (0, u "()V"), (0, .integer 2147483647), (0, .methodref 9 10), (0, .class_ 11), (0, .nameAndType 12 13), (0, u "com/example/quorumkeel/quorumkeel/protocol/TransactionStateIsFinalPinLaw"), (0, u "pick"), (0, u "(I)Lcom/example/quorumkeel/quorumkeel/protocol/TransactionState;"), (0, .methodref 15 16), (0, .class_ 17), (0, .nameAndType 18 19), (0, u "com/example/quorumkeel/quorumkeel/protocol/TransactionState"), (0, u "isFinal"), (0, u "()Z"), (0, .fieldref 15 21), (0, .nameAndType 22 23), (0, u "INITIAL"), (0, u "Lcom/example/quorumkeel/quorumkeel/protocol/TransactionState;"), (0, .fieldref 15 25), (0, .nameAndType 26 23), (0, u "WAIT"), (0, .fieldref 15 28), (0, .nameAndType 29 23), (0, u "PRE_COMMIT"), (0, .fieldref 15 31), (0, .nameAndType 32 23), (0, u "PRE_ABORT"), (0, .fieldref 15 34), (0, .nameAndType 35 23), (0, u "COMMITTED"), (0, .fieldref 15 37), (0, .nameAndType 38 23), (0, u "ABORTED"), (2, u "law"), (0, u "(I)Z")] 3

def k1m0 : Method := { name := "<init>", desc := "()V", sig := { parameters := [], returnType := none }, accessFlags := 1, code := none }
def k1c1 : Code := { maxStack := 2, maxLocals := 4, code := code, exceptionTable := #[], attributes := #[] }
def k1m1 : Method := { name := "law", desc := "(I)Z", sig := { parameters := [.int], returnType := some .boolean }, accessFlags := 9, code := some k1c1 }
def k1c2 : Code := { maxStack := 2, maxLocals := 1, code := method_3_code, exceptionTable := #[], attributes := #[] }
def k1m2 : Method := { name := "pick", desc := "(I)Lcom/example/quorumkeel/quorumkeel/protocol/TransactionState;", sig := { parameters := [.int], returnType := some (.object "com/example/quorumkeel/quorumkeel/protocol/TransactionState") }, accessFlags := 10, code := some k1c2 }
/-- com/example/quorumkeel/quorumkeel/protocol/TransactionStateIsFinalPinLaw -/
def k1 : Class := { plain "com/example/quorumkeel/quorumkeel/protocol/TransactionStateIsFinalPinLaw" (some 0) with
  accessFlags := 49
  interfaces := #[]
  cf := some (fileOf pool1 9 #[] #[{ accessFlags := 1, nameIndex := 5, descriptorIndex := 6, attributes := #[] }, { accessFlags := 9, nameIndex := 41, descriptorIndex := 42, attributes := #[] }, { accessFlags := 10, nameIndex := 12, descriptorIndex := 13, attributes := #[] }] 49 2 #[] #[])
  fields := #[]
  methods := #[k1m0, k1m1, k1m2]
  instanceTypes := #[]
  staticTypes := #[]
  resolved := Array.replicate 46 none
  statics := none }

def pool2 : Array CpInfo := pool [(1, .class_ 2), (0, u "java/lang/constant/Constable"), (0, .class_ 4), (0, u "java/lang/Object")] 6

/-- java/lang/constant/Constable -/
def k2 : Class := { plain "java/lang/constant/Constable" (some 0) with
  accessFlags := 1537
  interfaces := #[]
  cf := some (fileOf pool2 1 #[] #[] 1537 3 #[] #[])
  fields := #[]
  methods := #[]
  instanceTypes := #[]
  staticTypes := #[]
  resolved := Array.replicate 11 none
  statics := none }

def pool3 : Array CpInfo := pool [(1, .class_ 2), (0, u "java/lang/Comparable"), (0, .class_ 4), (0, u "java/lang/Object")] 7

/-- java/lang/Comparable -/
def k3 : Class := { plain "java/lang/Comparable" (some 0) with
  accessFlags := 1537
  interfaces := #[]
  cf := some (fileOf pool3 1 #[] #[] 1537 3 #[] #[])
  fields := #[]
  methods := #[]
  instanceTypes := #[]
  staticTypes := #[]
  resolved := Array.replicate 12 none
  statics := none }

def pool4 : Array CpInfo := pool [(1, .class_ 2), (0, u "java/io/Serializable"), (0, .class_ 4), (0, u "java/lang/Object")] 2

/-- java/io/Serializable -/
def k4 : Class := { plain "java/io/Serializable" (some 0) with
  accessFlags := 1537
  interfaces := #[]
  cf := some (fileOf pool4 1 #[] #[] 1537 3 #[] #[])
  fields := #[]
  methods := #[]
  instanceTypes := #[]
  staticTypes := #[]
  resolved := Array.replicate 7 none
  statics := none }

def pool5 : Array CpInfo := pool [(2, .class_ 4), (1, u "java/lang/Enum"), (0, u "name"), (0, u "Ljava/lang/String;"), (2, u "ordinal"), (0, u "I"), (1, .class_ 14), (1, u "java/lang/Object"), (4, u "hash"), (86, .class_ 108), (1, u "java/lang/Enum$EnumDesc"), (2, .class_ 112), (0, u "java/lang/constant/Constable"), (0, .class_ 114), (0, u "java/lang/Comparable"), (0, .class_ 116), (0, u "java/io/Serializable")] 87

/-- java/lang/Enum -/
def k5 : Class := { plain "java/lang/Enum" (some 0) with
  accessFlags := 1057
  interfaces := #[2, 3, 4]
  cf := some (fileOf pool5 2 #[.nestMembers #[106]] #[] 1057 12 #[111, 113, 115] #[{ accessFlags := 18, nameIndex := 5, descriptorIndex := 6, attributes := #[] }, { accessFlags := 18, nameIndex := 9, descriptorIndex := 10, attributes := #[] }, { accessFlags := 2, nameIndex := 19, descriptorIndex := 10, attributes := #[] }])
  fields := #[{ name := "name", type := (.object "java/lang/String"), accessFlags := 18, slot := 0, constantValue := 0 }, { name := "ordinal", type := .int, accessFlags := 18, slot := 1, constantValue := 0 }, { name := "hash", type := .int, accessFlags := 2, slot := 2, constantValue := 0 }]
  methods := #[]
  instanceTypes := #[(.object "java/lang/String"), .int, .int]
  staticTypes := #[]
  resolved := Array.replicate 204 none
  statics := none }

def pool6 : Array CpInfo := pool [(1, .class_ 2), (0, u "com/example/quorumkeel/quorumkeel/protocol/TransactionState"), (2, u "INITIAL"), (0, u "Lcom/example/quorumkeel/quorumkeel/protocol/TransactionState;"), (2, u "WAIT"), (2, u "PRE_COMMIT"), (2, u "PRE_ABORT"), (0, .fieldref 1 17), (0, .nameAndType 18 6), (0, u "COMMITTED"), (0, .fieldref 1 20), (0, .nameAndType 21 6), (0, u "ABORTED"), (2, u "$VALUES"), (0, u "[Lcom/example/quorumkeel/quorumkeel/protocol/TransactionState;"), (6, .class_ 34), (1, u "java/lang/Enum"), (8, u "id"), (0, u "Ljava/lang/String;"), (33, u "isFinal"), (0, u "()Z")] 6

def k6c0 : Code := { maxStack := 2, maxLocals := 1, code := prog_38_method_5_code, exceptionTable := #[], attributes := #[] }
def k6m0 : Method := { name := "isFinal", desc := "()Z", sig := { parameters := [], returnType := some .boolean }, accessFlags := 1, code := some k6c0 }
/-- com/example/quorumkeel/quorumkeel/protocol/TransactionState -/
def k6 : Class := { plain "com/example/quorumkeel/quorumkeel/protocol/TransactionState" (some 5) with
  accessFlags := 16433
  interfaces := #[]
  cf := some (fileOf pool6 1 #[] #[{ accessFlags := 1, nameIndex := 78, descriptorIndex := 79, attributes := #[] }] 16433 32 #[] #[{ accessFlags := 16409, nameIndex := 5, descriptorIndex := 6, attributes := #[] }, { accessFlags := 16409, nameIndex := 9, descriptorIndex := 6, attributes := #[] }, { accessFlags := 16409, nameIndex := 12, descriptorIndex := 6, attributes := #[] }, { accessFlags := 16409, nameIndex := 15, descriptorIndex := 6, attributes := #[] }, { accessFlags := 16409, nameIndex := 18, descriptorIndex := 6, attributes := #[] }, { accessFlags := 16409, nameIndex := 21, descriptorIndex := 6, attributes := #[] }, { accessFlags := 18, nameIndex := 43, descriptorIndex := 44, attributes := #[] }, { accessFlags := 4122, nameIndex := 24, descriptorIndex := 25, attributes := #[] }])
  fields := #[{ name := "INITIAL", type := (.object "com/example/quorumkeel/quorumkeel/protocol/TransactionState"), accessFlags := 16409, slot := 0, constantValue := 0 }, { name := "WAIT", type := (.object "com/example/quorumkeel/quorumkeel/protocol/TransactionState"), accessFlags := 16409, slot := 1, constantValue := 0 }, { name := "PRE_COMMIT", type := (.object "com/example/quorumkeel/quorumkeel/protocol/TransactionState"), accessFlags := 16409, slot := 2, constantValue := 0 }, { name := "PRE_ABORT", type := (.object "com/example/quorumkeel/quorumkeel/protocol/TransactionState"), accessFlags := 16409, slot := 3, constantValue := 0 }, { name := "COMMITTED", type := (.object "com/example/quorumkeel/quorumkeel/protocol/TransactionState"), accessFlags := 16409, slot := 4, constantValue := 0 }, { name := "ABORTED", type := (.object "com/example/quorumkeel/quorumkeel/protocol/TransactionState"), accessFlags := 16409, slot := 5, constantValue := 0 }, { name := "id", type := (.object "java/lang/String"), accessFlags := 18, slot := 3, constantValue := 0 }, { name := "$VALUES", type := (.array (.object "com/example/quorumkeel/quorumkeel/protocol/TransactionState")), accessFlags := 4122, slot := 6, constantValue := 0 }]
  methods := #[k6m0]
  instanceTypes := #[(.object "java/lang/String"), .int, .int, (.object "java/lang/String")]
  staticTypes := #[(.object "com/example/quorumkeel/quorumkeel/protocol/TransactionState"), (.object "com/example/quorumkeel/quorumkeel/protocol/TransactionState"), (.object "com/example/quorumkeel/quorumkeel/protocol/TransactionState"), (.object "com/example/quorumkeel/quorumkeel/protocol/TransactionState"), (.object "com/example/quorumkeel/quorumkeel/protocol/TransactionState"), (.object "com/example/quorumkeel/quorumkeel/protocol/TransactionState"), (.array (.object "com/example/quorumkeel/quorumkeel/protocol/TransactionState"))]
  resolved := Array.replicate 86 none
  statics := some 0 }

def pool7 : Array CpInfo := pool [(1, u "java/lang/Cloneable"), (0, .class_ 1), (0, u "java/lang/Object"), (0, .class_ 3)] 3

/-- java/lang/Cloneable -/
def k7 : Class := { plain "java/lang/Cloneable" (some 0) with
  accessFlags := 1537
  interfaces := #[]
  cf := some (fileOf pool7 2 #[] #[] 1537 4 #[] #[])
  fields := #[]
  methods := #[]
  instanceTypes := #[]
  staticTypes := #[]
  resolved := Array.replicate 8 none
  statics := none }

/-- the primitive byte -/
def k8 : Class := { plain "byte" none with kind := .primitive 'B', accessFlags := 0x411 }
/-- [B -/
def k9 : Class := { plain "[B" (some 0) with kind := .array 8 .byte, interfaces := #[7, 4], accessFlags := 1041 }

/-- the primitive int -/
def k10 : Class := { plain "int" none with kind := .primitive 'I', accessFlags := 0x411 }
/-- [I -/
def k11 : Class := { plain "[I" (some 0) with kind := .array 10 .int, interfaces := #[7, 4], accessFlags := 1041 }

def heap : Heap := #[{ cls := 6, slots := #[.ref 1, .ref 6, .ref 5, .ref 4, .ref 2, .ref 3, .null], vm := .statics 6 },
  { cls := 6, slots := #[.null, .int 0, .int 0, .null], vm := .none },
  { cls := 6, slots := #[.null, .int 4, .int 0, .null], vm := .none },
  { cls := 6, slots := #[.null, .int 5, .int 0, .null], vm := .none },
  { cls := 6, slots := #[.null, .int 3, .int 0, .null], vm := .none },
  { cls := 6, slots := #[.null, .int 2, .int 0, .null], vm := .none },
  { cls := 6, slots := #[.null, .int 1, .int 0, .null], vm := .none }]
def classes : Array Class := #[k0, k1, k2, k3, k4, k5, k6, k7, k8, k9, k10, k11]
def interned : List (Array UInt16 × Addr) := []
def slotsUsed : Nat := 31
def theMethod : MethodId := ⟨1, 1⟩
def args0 : Array Value := #[.int 5]
def aboutOver (below : List Frame) : State where
  vm := { classes := classes, interned := interned.toArray }
  heap := heap
  slotsUsed := slotsUsed
  threads := #[{ frames := .invoking theMethod args0 :: below }]
def below0 : List Frame := [.native { method := ⟨0, 0⟩, args := #[] }]
def about1 : State := aboutOver below0
def p0 : Program := .bare "" "" ""
def e0 : Env := launch0.env 0 0 0
theorem w_frames : about1.frames = Frame.invoking theMethod args0 :: below0 := rfl
set_option maxRecDepth 65536 in
theorem w_args : argsFit about1.vm theMethod args0 = true := by decide +kernel
set_option maxRecDepth 65536 in
theorem w_heap : heapFits about1 = true := by decide +kernel
set_option maxRecDepth 65536 in
theorem w_runnable : about1.curStatus? = some .runnable := by decide +kernel
set_option maxRecDepth 65536 in
theorem w_alone : about1.alone = true := by decide +kernel
set_option maxRecDepth 65536 in
theorem w_named : about1.methodNamed? x = some theMethod := by decide +kernel
set_option maxRecDepth 65536 in
theorem w_hears : about1.hears theMethod below0 = true := by decide +kernel
set_option maxRecDepth 65536 in
theorem w_ripe : about1.ripe theMethod args0 below0 = true := by decide +kernel
theorem w_running : about1.status = .running := rfl
set_option maxRecDepth 65536 in
theorem w_room : about1.hasRoom e0.platform room_1 = true :=
  launch0.hasRoom_least _ room_1 (by decide +kernel) (by decide +kernel) (by decide +kernel) (by decide +kernel) (by decide +kernel) (by decide +kernel)
theorem allAtoms_all (ts : List Jvm.Cond) (a : Array Jvm.Value) (st : Jvm.State) : (allAtoms ts).before a st = ts.all (fun c => c.before a st) := by
  induction ts with
  | nil => rfl
  | cons c t ih =>
    show (Jvm.Cond.and c (allAtoms t)).before a st = _
    rw [Jvm.Cond.before_and, ih, List.all_cons]
def words1 : List Jvm.Cond := Jvm.Cond.code x code maxLocals ret :: tables_1
/-- a 'code' word, met by the world's own term for the bytes: nothing is compared byte by byte -/
theorem code_word {y : MethodName} {bytes : ByteArray} {mx : Nat} {rt : Option FieldType} {a : Array Value} {s : State} {m : MethodId} {meth : Method} {c : Code} (h1 : s.methodNamed? y = some m) (h2 : s.vm.method? m = some meth) (h3 : meth.code = some c) (h4 : c.code = bytes)
    (h5 : (c.maxLocals == mx && c.exceptionTable.isEmpty && decide (c.maxStack ≤ mostOperands) && decide (meth.sig.returnType = rt) && !meth.locks && decide (parseMethodDescriptor y.desc = some meth.sig)) = true) : (Jvm.Cond.code y bytes mx rt).before a s = true := by
  simp only [Bool.and_eq_true, beq_iff_eq, Bool.not_eq_true', decide_eq_true_eq] at h5
  obtain ⟨⟨⟨⟨⟨g1, g2⟩, g3⟩, g4⟩, g5⟩, g6⟩ := h5
  simp [Cond.before, Cond.holds, Cond.value, h1, h2, h3, h4, g1, g2, g3, g4, g5, g6]
def isCode : Jvm.Cond → Bool
  | .code _ _ _ _ => true
  | _ => false
theorem all_split {L : List Jvm.Cond} {P : Jvm.Cond → Bool} (h1 : L.all (fun c => isCode c || P c) = true) (h2 : ∀ c ∈ L.filter isCode, P c = true) : L.all P = true := by
  refine List.all_eq_true.mpr fun c hc => ?_
  have h := List.all_eq_true.mp h1 c hc
  rcases Bool.eq_false_or_eq_true (isCode c) with hi | hi
  · exact h2 c (List.mem_filter.mpr ⟨hc, hi⟩)
  · simpa [hi] using h
set_option maxRecDepth 65536 in
theorem w_c0 : (Jvm.Cond.code x code maxLocals ret).before args0 about1 = true := code_word (m := ⟨1, 1⟩) (meth := k1m1) (c := k1c1) (by decide +kernel) rfl rfl rfl (by decide +kernel)
set_option maxRecDepth 65536 in
theorem w_c1 : (Jvm.Cond.code ({ cls := "com/example/quorumkeel/quorumkeel/protocol/TransactionStateIsFinalPinLaw", name := "pick", desc := "(I)Lcom/example/quorumkeel/quorumkeel/protocol/TransactionState;" } : Jvm.MethodName) method_3_code (1 : Nat) (Option.some (Jvm.ClassFile.FieldType.object "com/example/quorumkeel/quorumkeel/protocol/TransactionState"))).before args0 about1 = true := code_word (m := ⟨1, 2⟩) (meth := k1m2) (c := k1c2) (by decide +kernel) rfl rfl rfl (by decide +kernel)
set_option maxRecDepth 65536 in
theorem w_c2 : (Jvm.Cond.code ({ cls := "com/example/quorumkeel/quorumkeel/protocol/TransactionState", name := "isFinal", desc := "()Z" } : Jvm.MethodName) prog_38_method_5_code (1 : Nat) (Option.some Jvm.ClassFile.FieldType.boolean)).before args0 about1 = true := code_word (m := ⟨6, 0⟩) (meth := k6m0) (c := k6c0) (by decide +kernel) rfl rfl rfl (by decide +kernel)
def codes1 : List Jvm.Cond := [Jvm.Cond.code x code maxLocals ret, Jvm.Cond.code ({ cls := "com/example/quorumkeel/quorumkeel/protocol/TransactionStateIsFinalPinLaw", name := "pick", desc := "(I)Lcom/example/quorumkeel/quorumkeel/protocol/TransactionState;" } : Jvm.MethodName) method_3_code (1 : Nat) (Option.some (Jvm.ClassFile.FieldType.object "com/example/quorumkeel/quorumkeel/protocol/TransactionState")), Jvm.Cond.code ({ cls := "com/example/quorumkeel/quorumkeel/protocol/TransactionState", name := "isFinal", desc := "()Z" } : Jvm.MethodName) prog_38_method_5_code (1 : Nat) (Option.some Jvm.ClassFile.FieldType.boolean)]
set_option maxRecDepth 65536 in
theorem codes_eq : words1.filter isCode = codes1 := rfl
theorem w_codes : ∀ c ∈ words1.filter isCode, c.before args0 about1 = true := by
  rw [codes_eq]
  intro c hc
  simp only [codes1, List.mem_cons, List.not_mem_nil, or_false] at hc
  rcases hc with rfl | rfl | rfl
  · exact w_c0
  · exact w_c1
  · exact w_c2
set_option maxRecDepth 65536 in
theorem w_t1 : (words1.take 24).all (fun c => isCode c || c.before args0 about1) = true := by decide +kernel
set_option maxRecDepth 65536 in
theorem w_t2 : (words1.drop 24).all (fun c => isCode c || c.before args0 about1) = true := by decide +kernel
theorem w_tables : (allAtoms (Jvm.Cond.code x code maxLocals ret :: tables_1)).before args0 about1 = true := by
  rw [allAtoms_all]
  show words1.all (fun c => c.before args0 about1) = true
  refine all_split ?_ w_codes
  rw [← List.take_append_drop 24 words1, List.all_append, w_t1, w_t2]
  rfl
set_option maxRecDepth 65536 in
theorem w_case : (Jvm.Cond.and given_1 narrow_1).before args0 about1 = true := by decide +kernel
theorem w_applies : (headSpec (Jvm.Cond.code x code maxLocals ret :: tables_1) room_1).applies x e0.platform about1 = true :=
  (Spec.applies_iff w_frames).mpr ⟨w_running, w_runnable, w_alone, w_named, w_hears, w_ripe, w_room, w_tables⟩
theorem atStart : AtStart classFile x code maxLocals ret World_1 tables_1 room_1 Calls_1 rest_1 Pre_1 launch0 p0 e0 about1 theMethod args0 below0 :=
  ⟨lists_1, trivial, launch0.admits_env _ _ _, launch0.least_env, fairChoices_fair.cas, fairChoices_fair.clock, w_frames, w_args, w_heap, w_applies, trivial, trivial, w_case⟩
end start1
theorem witness_1 : WitnessClaimed_1 := ⟨start1.p0, start1.e0, start1.about1, start1.theMethod, start1.args0, start1.below0, start1.atStart⟩
end Jvm.Pilot.@@N@@
