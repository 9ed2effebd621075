import JvmDerived
import JvmDerived.Pilot.@@N@@Statement
import JvmDerived.Pilot.@@N@@Code
set_option linter.unusedVariables false
set_option linter.unusedSimpArgs false
namespace Jvm.RoadKit
open Sem ClassFile Op Lib Jvm.Stand Jvm.Free Jvm.LawKit
section New
variable {p : Program} {l : Launch} {e : Env} {R : Room} {s : State} {m : MethodId} {args : Array Value} {below : List Frame} {meth : Method} {c : Code} {T : State} {locs : List Loc} {cells slots : Nat}
theorem retI (X : Stand p l e R s m args below meth c T locs cells slots) (hx : p.tables.exec = Jvm.exec) {pc : Nat} {Ls : Array Slot} {z : Int32} {rest : List Value} (hret : meth.sig.returnType = some .int) (hd : decode c.code pc = .ok (.ireturn, 1)) {fs : List Frame}
    (hl : ∀ (f : JFrame) (acts : List Action), f.method = m → f.locked = none → f.entered = [] → (doReturn e (T.setTop f) acts (some (.int z))).1 = T.setFrames fs) : Steps p.tables e below (T.setTop (mkF m pc Ls (.int z :: rest))) (T.setFrames fs) := by
  have hm' : T.vm.method? m = some meth := X.method'
  have hn : narrow .int (.int z) = .int z := rfl
  show Steps p.tables e below (T.setTop { method := m, pc := pc, locals := Ls, stack := _ :: rest, locked := none }) _
  jvm_step X.here [X.here.top, hx, hd, hm', hret, hn]
  first | (intro acts; rw [hl _ acts rfl rfl rfl]) | rw [hl _ _ rfl rfl rfl]
  exact Steps.refl _
end New
end Jvm.RoadKit
namespace Jvm.Pilot.@@N@@
open Jvm Jvm.ClassFile Sem Op Lib Jvm.Free Jvm.Stand Jvm.LawKit Jvm.RoadKit Bundle Jvm.Pilot.@@N@@.Jvm.D
section OwnGo
variable {p : Program} {l : Launch} {e : Env} {R : Room} {s : State} {m : MethodId} {args : Array Value} {below : List Frame} {meth : Method} {c : Code} {T : State} {locs : List Loc} {cells slots : Nat} {Q : Option Value → Heap → List Loc → Prop} {ck sk : Nat}
/-- from the state S the body comes to its end, and what it returns and leaves meets Q -/
def own_Go (p : Program) (e : Env) (below : List Frame) (s : State) (Q : Option Value → Heap → List Loc → Prop) (ck sk : Nat) (S : State) : Prop :=
  ∃ s₂ o, Steps p.tables e below S s₂ ∧ s₂.status = .running ∧ Ended s₂ below o ∧ ∃ v L, o = .returned v ∧ Q v s₂.heap L ∧ FrameEnd s o s₂ L ck sk
theorem own_go {S S' : State} (st : ∀ t, Steps p.tables e below S' t → Steps p.tables e below S t) (k : own_Go p e below s Q ck sk S') : own_Go p e below s Q ck sk S := by
  obtain ⟨a, b, h, r⟩ := k; exact ⟨a, b, st _ h, r⟩
theorem own_goT {S S' : State} (st : Steps p.tables e below S S') (k : own_Go p e below s Q ck sk S') : own_Go p e below s Q ck sk S := own_go (fun _ h => st.trans h) k
theorem own_retI (X : Stand p l e R s m args below meth c T locs cells slots) (hx : p.tables.exec = Jvm.exec) (hlk : meth.locks = false) {pc : Nat} {Ls : Array Slot} {z : Int32} {rest : List Value} (hret : meth.sig.returnType = some .int) (hd : decode c.code pc = .ok (.ireturn, 1)) (hc : cells ≤ ck) (hs : slots ≤ sk)
    (q : Q (some (.int z)) T.heap locs) : own_Go p e below s Q ck sk (T.setTop (mkF m pc Ls (.int z :: rest))) := by
  obtain ⟨fs, hr, hrun, hended, hW, hsame⟩ := X.leave (v := some (.int z)) (fun h => by rw [hret] at h; cases h) hlk
  exact ⟨_, _, retI X hx hret hd hr, hrun, hended, _, _, rfl, q, ⟨_, rfl⟩, hW, hsame.mono hc hs⟩
theorem own_retN (X : Stand p l e R s m args below meth c T locs cells slots) (hx : p.tables.exec = Jvm.exec) (hlk : meth.locks = false) {t : FieldType} {pc : Nat} {Ls : Array Slot} {z : Int32} {rest : List Value} (ht : t = .boolean ∨ t = .byte ∨ t = .char ∨ t = .short) (hret : meth.sig.returnType = some t) (hd : decode c.code pc = .ok (.ireturn, 1)) (hc : cells ≤ ck) (hs : slots ≤ sk)
    (q : Q (some (.int (nar t z))) T.heap locs) : own_Go p e below s Q ck sk (T.setTop (mkF m pc Ls (.int z :: rest))) := by
  obtain ⟨fs, hr, hrun, hended, hW, hsame⟩ := X.leave (v := some (.int (nar t z))) (fun h => by rw [hret] at h; cases h) hlk
  exact ⟨_, _, retN X hx hret ht hd hr, hrun, hended, _, _, rfl, q, ⟨_, rfl⟩, hW, hsame.mono hc hs⟩
theorem own_ret0 (X : Stand p l e R s m args below meth c T locs cells slots) (hx : p.tables.exec = Jvm.exec) (hlk : meth.locks = false) {pc : Nat} {Ls : Array Slot} (hret : meth.sig.returnType = none) (hd : decode c.code pc = .ok (.return_, 1)) (hc : cells ≤ ck) (hs : slots ≤ sk)
    (q : Q none T.heap locs) : own_Go p e below s Q ck sk (T.setTop (mkF m pc Ls [])) := by
  obtain ⟨fs, hr, hrun, hended, hW, hsame⟩ := X.leave (v := none) (fun _ => rfl) hlk
  exact ⟨_, _, X.returnOut hx hret hd hr, hrun, hended, _, _, rfl, q, ⟨_, rfl⟩, hW, hsame.mono hc hs⟩
theorem own_retA (X : Stand p l e R s m args below meth c T locs cells slots) (hx : p.tables.exec = Jvm.exec) (hlk : meth.locks = false) {t : FieldType} {pc : Nat} {Ls : Array Slot} {w : Value} (hw : w.isRef = true) (ht : t.isReference = true) (hret : meth.sig.returnType = some t) (hd : decode c.code pc = .ok (.areturn, 1)) (hc : cells ≤ ck) (hs : slots ≤ sk)
    (q : Q (some w) T.heap locs) : own_Go p e below s Q ck sk (T.setTop (mkF m pc Ls [w])) := by
  obtain ⟨fs, hr, hrun, hended, hW, hsame⟩ := X.leave (v := some w) (fun h => by rw [hret] at h; cases h) hlk
  exact ⟨_, _, X.areturnOut hx hw hret ht hd hr, hrun, hended, _, _, rfl, q, ⟨_, rfl⟩, hW, hsame.mono hc hs⟩
theorem own_retJ (X : Stand p l e R s m args below meth c T locs cells slots) (hx : p.tables.exec = Jvm.exec) (hlk : meth.locks = false) {pc : Nat} {Ls : Array Slot} {w : Int64} (hret : meth.sig.returnType = some .long) (hd : decode c.code pc = .ok (.lreturn, 1)) (hc : cells ≤ ck) (hs : slots ≤ sk)
    (q : Q (some (.long w)) T.heap locs) : own_Go p e below s Q ck sk (T.setTop (mkF m pc Ls [.long w])) := by
  obtain ⟨fs, hr, hrun, hended, hW, hsame⟩ := X.leave (v := some (.long w)) (fun h => by rw [hret] at h; cases h) hlk
  exact ⟨_, _, X.lreturnOut hx hret hd hr, hrun, hended, _, _, rfl, q, ⟨_, rfl⟩, hW, hsame.mono hc hs⟩
end OwnGo
theorem own_retD {p : Program} {l : Launch} {e : Env} {R : Room} {s : State} {m : MethodId} {args : Array Value} {below : List Frame} {meth : Method} {c : Code} {T : State} {locs : List Loc} {cells slots : Nat} {Q : Option Value → Heap → List Loc → Prop} {ck sk : Nat} (X : Stand p l e R s m args below meth c T locs cells slots) (hx : p.tables.exec = Jvm.exec) (hlk : meth.locks = false) {pc : Nat} {Ls : Array Slot} {w : UInt64} (hret : meth.sig.returnType = some .double) (hd : decode c.code pc = .ok (.dreturn, 1)) (hc : cells ≤ ck) (hs : slots ≤ sk)
    (q : Q (some (.double w)) T.heap locs) : own_Go p e below s Q ck sk (T.setTop (mkF m pc Ls [.double w])) := by
  obtain ⟨fs, hr, hrun, hended, hW, hsame⟩ := X.leave (v := some (.double w)) (fun h => by rw [hret] at h; cases h) hlk
  exact ⟨_, _, retOut X hx hret rfl (Or.inr (Or.inr (Or.inl ⟨rfl, rfl, _, rfl⟩))) hd hr, hrun, hended, _, _, rfl, q, ⟨_, rfl⟩, hW, hsame.mono hc hs⟩
theorem own_leq {x y : Int64} (h : x = y) : lcmpW x y = 0 := (lw_eq x y).mpr h
theorem own_lne {x y : Int64} (h : ¬ x = y) : ¬ lcmpW x y = 0 := fun q => h ((lw_eq x y).mp q)
theorem own_llt {x y : Int64} (h : x < y) : lcmpW x y < 0 := (lw_lt x y).mpr h
theorem own_lnlt {x y : Int64} (h : ¬ x < y) : ¬ lcmpW x y < 0 := fun q => h ((lw_lt x y).mp q)
theorem own_lgt {x y : Int64} (h : y < x) : 0 < lcmpW x y := (lw_gt x y).mpr h
theorem own_lngt {x y : Int64} (h : ¬ y < x) : ¬ 0 < lcmpW x y := fun q => h ((lw_gt x y).mp q)
theorem own_ltr {x y : Int32} {k : Int} (h : x < y) (e : y.toInt = k) : x.toInt < k := by rw [← e]; exact Int32.lt_iff_toInt_lt.mp h
theorem own_ltl {x y : Int32} {k : Int} (h : x < y) (e : x.toInt = k) : k < y.toInt := by rw [← e]; exact Int32.lt_iff_toInt_lt.mp h
theorem own_nltr {x y : Int32} {k : Int} (h : ¬ x < y) (e : y.toInt = k) : k ≤ x.toInt := by rw [← e]; exact Int.not_lt.mp fun q => h (Int32.lt_iff_toInt_lt.mpr q)
theorem own_nltl {x y : Int32} {k : Int} (h : ¬ x < y) (e : x.toInt = k) : y.toInt ≤ k := by rw [← e]; exact Int.not_lt.mp fun q => h (Int32.lt_iff_toInt_lt.mpr q)
theorem own_eqr {x y : Int32} {k : Int} (h : x = y) (e : y.toInt = k) : x.toInt = k := by rw [← e, h]
theorem own_neqr {x y : Int32} {k : Int} (h : ¬ x = y) (e : y.toInt = k) : ¬ x.toInt = k := by rw [← e]; exact fun q => h (Int32.toInt_inj.mp q)
theorem own_selP {s : State} {args : Array Value} {y : MethodName} {n : Nat} (wi : (Jvm.Cond.instantiable y.cls n).before args s = true) (wp : (Jvm.Cond.privateMethod y).before args s = true) (wn : (Jvm.Cond.instanceMethod y).before args s = true) (hy : y.cls ≠ "java/lang/invoke/MethodHandle" ∧ y.cls ≠ "java/lang/invoke/VarHandle") : (Jvm.Cond.selects y.cls y y).before args s = true := by
  obtain ⟨c, k, h1, h2, -, h4, -⟩ := Cond.instantiable_spec wi
  exact Jvm.Stand.selects_self_of_private h1 h2 (Bool.or_eq_false_iff.mp h4).1 (Cond.privateMethod_at wp) wn hy
theorem own_eqInt {t : Term} {k : Int32} {args : Array Value} {s : State} (h : (Jvm.Cond.eq t (Term.int k)).value args s none s [] = some true) : t.eval args s none [] s = some (.int k) := by
  have hk : (Term.int k).eval args s none [] s = some (.int k) := rfl
  cases ht : t.eval args s none [] s with
  | none => simp [Jvm.Cond.value, ht] at h
  | some v => cases v <;> simp [Jvm.Cond.value, ht, hk] at h; rw [h]
def own_pk (k : Int32) (a_OR a_AND a_EQUAL a_NOT_EQUAL a_LESS a_LESS_OR_EQUAL a_GREATER a_GREATER_OR_EQUAL a_ADD a_SUBTRACT a_MULTIPLY a_DIVIDE a_MODULO a_UNION : Addr) : Addr := if k = (0 : Int32) then a_OR else if k = (1 : Int32) then a_AND else if k = (2 : Int32) then a_EQUAL else if k = (3 : Int32) then a_NOT_EQUAL else if k = (4 : Int32) then a_LESS else if k = (5 : Int32) then a_LESS_OR_EQUAL else if k = (6 : Int32) then a_GREATER else if k = (7 : Int32) then a_GREATER_OR_EQUAL else if k = (8 : Int32) then a_ADD else if k = (9 : Int32) then a_SUBTRACT else if k = (10 : Int32) then a_MULTIPLY else if k = (11 : Int32) then a_DIVIDE else if k = (12 : Int32) then a_MODULO else a_UNION
def own_in (a a_EQUAL a_NOT_EQUAL a_LESS a_LESS_OR_EQUAL a_GREATER a_GREATER_OR_EQUAL : Addr) : Int32 := if a = a_EQUAL then 1 else if a = a_NOT_EQUAL then 1 else if a = a_LESS then 1 else if a = a_LESS_OR_EQUAL then 1 else if a = a_GREATER then 1 else if a = a_GREATER_OR_EQUAL then 1 else 0
theorem own_cases (k : Int32) (h0 : 0 ≤ k.toInt) (h1 : k.toInt < 14) : k = (0 : Int32) ∨ k = (1 : Int32) ∨ k = (2 : Int32) ∨ k = (3 : Int32) ∨ k = (4 : Int32) ∨ k = (5 : Int32) ∨ k = (6 : Int32) ∨ k = (7 : Int32) ∨ k = (8 : Int32) ∨ k = (9 : Int32) ∨ k = (10 : Int32) ∨ k = (11 : Int32) ∨ k = (12 : Int32) ∨ k = (13 : Int32) := by
  have h : k.toInt = 0 ∨ k.toInt = 1 ∨ k.toInt = 2 ∨ k.toInt = 3 ∨ k.toInt = 4 ∨ k.toInt = 5 ∨ k.toInt = 6 ∨ k.toInt = 7 ∨ k.toInt = 8 ∨ k.toInt = 9 ∨ k.toInt = 10 ∨ k.toInt = 11 ∨ k.toInt = 12 ∨ k.toInt = 13 := by omega
  rcases h with h | h | h | h | h | h | h | h | h | h | h | h | h | h
  · exact Or.inl (Int32.toInt_inj.mp (h.trans (by decide)))
  · exact Or.inr (Or.inl (Int32.toInt_inj.mp (h.trans (by decide))))
  · exact Or.inr (Or.inr (Or.inl (Int32.toInt_inj.mp (h.trans (by decide)))))
  · exact Or.inr (Or.inr (Or.inr (Or.inl (Int32.toInt_inj.mp (h.trans (by decide))))))
  · exact Or.inr (Or.inr (Or.inr (Or.inr (Or.inl (Int32.toInt_inj.mp (h.trans (by decide)))))))
  · exact Or.inr (Or.inr (Or.inr (Or.inr (Or.inr (Or.inl (Int32.toInt_inj.mp (h.trans (by decide))))))))
  · exact Or.inr (Or.inr (Or.inr (Or.inr (Or.inr (Or.inr (Or.inl (Int32.toInt_inj.mp (h.trans (by decide)))))))))
  · exact Or.inr (Or.inr (Or.inr (Or.inr (Or.inr (Or.inr (Or.inr (Or.inl (Int32.toInt_inj.mp (h.trans (by decide))))))))))
  · exact Or.inr (Or.inr (Or.inr (Or.inr (Or.inr (Or.inr (Or.inr (Or.inr (Or.inl (Int32.toInt_inj.mp (h.trans (by decide)))))))))))
  · exact Or.inr (Or.inr (Or.inr (Or.inr (Or.inr (Or.inr (Or.inr (Or.inr (Or.inr (Or.inl (Int32.toInt_inj.mp (h.trans (by decide))))))))))))
  · exact Or.inr (Or.inr (Or.inr (Or.inr (Or.inr (Or.inr (Or.inr (Or.inr (Or.inr (Or.inr (Or.inl (Int32.toInt_inj.mp (h.trans (by decide)))))))))))))
  · exact Or.inr (Or.inr (Or.inr (Or.inr (Or.inr (Or.inr (Or.inr (Or.inr (Or.inr (Or.inr (Or.inr (Or.inl (Int32.toInt_inj.mp (h.trans (by decide))))))))))))))
  · exact Or.inr (Or.inr (Or.inr (Or.inr (Or.inr (Or.inr (Or.inr (Or.inr (Or.inr (Or.inr (Or.inr (Or.inr (Or.inl (Int32.toInt_inj.mp (h.trans (by decide)))))))))))))))
  · exact Or.inr (Or.inr (Or.inr (Or.inr (Or.inr (Or.inr (Or.inr (Or.inr (Or.inr (Or.inr (Or.inr (Or.inr (Or.inr (Int32.toInt_inj.mp (h.trans (by decide)))))))))))))))
theorem d1_0 : decode method_3_code 0 = .ok (.iload_n 0, 1) := by decide +kernel
theorem d1_1 : decode method_3_code 1 = .ok (.ifCond .ne 7, 3) := by decide +kernel
theorem d1_8 : decode method_3_code 8 = .ok (.iload_n 0, 1) := by decide +kernel
theorem d1_9 : decode method_3_code 9 = .ok (.iconst 1, 1) := by decide +kernel
theorem d1_10 : decode method_3_code 10 = .ok (.if_icmp .ne 7, 3) := by decide +kernel
theorem d1_17 : decode method_3_code 17 = .ok (.iload_n 0, 1) := by decide +kernel
theorem d1_18 : decode method_3_code 18 = .ok (.iconst 2, 1) := by decide +kernel
theorem d1_19 : decode method_3_code 19 = .ok (.if_icmp .ne 7, 3) := by decide +kernel
theorem d1_26 : decode method_3_code 26 = .ok (.iload_n 0, 1) := by decide +kernel
theorem d1_27 : decode method_3_code 27 = .ok (.iconst 3, 1) := by decide +kernel
theorem d1_28 : decode method_3_code 28 = .ok (.if_icmp .ne 7, 3) := by decide +kernel
theorem d1_35 : decode method_3_code 35 = .ok (.iload_n 0, 1) := by decide +kernel
theorem d1_36 : decode method_3_code 36 = .ok (.iconst 4, 1) := by decide +kernel
theorem d1_37 : decode method_3_code 37 = .ok (.if_icmp .ne 7, 3) := by decide +kernel
theorem d1_44 : decode method_3_code 44 = .ok (.iload_n 0, 1) := by decide +kernel
theorem d1_45 : decode method_3_code 45 = .ok (.iconst 5, 1) := by decide +kernel
theorem d1_46 : decode method_3_code 46 = .ok (.if_icmp .ne 7, 3) := by decide +kernel
theorem d1_53 : decode method_3_code 53 = .ok (.iload_n 0, 1) := by decide +kernel
theorem d1_54 : decode method_3_code 54 = .ok (.bipush 6, 2) := by decide +kernel
theorem d1_56 : decode method_3_code 56 = .ok (.if_icmp .ne 7, 3) := by decide +kernel
theorem d1_63 : decode method_3_code 63 = .ok (.iload_n 0, 1) := by decide +kernel
theorem d1_64 : decode method_3_code 64 = .ok (.bipush 7, 2) := by decide +kernel
theorem d1_66 : decode method_3_code 66 = .ok (.if_icmp .ne 7, 3) := by decide +kernel
theorem d1_73 : decode method_3_code 73 = .ok (.iload_n 0, 1) := by decide +kernel
theorem d1_74 : decode method_3_code 74 = .ok (.bipush 8, 2) := by decide +kernel
theorem d1_76 : decode method_3_code 76 = .ok (.if_icmp .ne 7, 3) := by decide +kernel
theorem d1_83 : decode method_3_code 83 = .ok (.iload_n 0, 1) := by decide +kernel
theorem d1_84 : decode method_3_code 84 = .ok (.bipush 9, 2) := by decide +kernel
theorem d1_86 : decode method_3_code 86 = .ok (.if_icmp .ne 7, 3) := by decide +kernel
theorem d1_93 : decode method_3_code 93 = .ok (.iload_n 0, 1) := by decide +kernel
theorem d1_94 : decode method_3_code 94 = .ok (.bipush 10, 2) := by decide +kernel
theorem d1_96 : decode method_3_code 96 = .ok (.if_icmp .ne 7, 3) := by decide +kernel
theorem d1_103 : decode method_3_code 103 = .ok (.iload_n 0, 1) := by decide +kernel
theorem d1_104 : decode method_3_code 104 = .ok (.bipush 11, 2) := by decide +kernel
theorem d1_106 : decode method_3_code 106 = .ok (.if_icmp .ne 7, 3) := by decide +kernel
theorem d1_113 : decode method_3_code 113 = .ok (.iload_n 0, 1) := by decide +kernel
theorem d1_114 : decode method_3_code 114 = .ok (.bipush 12, 2) := by decide +kernel
theorem d1_116 : decode method_3_code 116 = .ok (.if_icmp .ne 7, 3) := by decide +kernel
theorem d1_123 : decode method_3_code 123 = .ok (.getstatic 60, 3) := by decide +kernel
theorem d1_126 : decode method_3_code 126 = .ok (.areturn, 1) := by decide +kernel
theorem d1_119 : decode method_3_code 119 = .ok (.getstatic 57, 3) := by decide +kernel
theorem d1_122 : decode method_3_code 122 = .ok (.areturn, 1) := by decide +kernel
theorem d1_109 : decode method_3_code 109 = .ok (.getstatic 54, 3) := by decide +kernel
theorem d1_112 : decode method_3_code 112 = .ok (.areturn, 1) := by decide +kernel
theorem d1_99 : decode method_3_code 99 = .ok (.getstatic 51, 3) := by decide +kernel
theorem d1_102 : decode method_3_code 102 = .ok (.areturn, 1) := by decide +kernel
theorem d1_89 : decode method_3_code 89 = .ok (.getstatic 48, 3) := by decide +kernel
theorem d1_92 : decode method_3_code 92 = .ok (.areturn, 1) := by decide +kernel
theorem d1_79 : decode method_3_code 79 = .ok (.getstatic 45, 3) := by decide +kernel
theorem d1_82 : decode method_3_code 82 = .ok (.areturn, 1) := by decide +kernel
theorem d1_69 : decode method_3_code 69 = .ok (.getstatic 42, 3) := by decide +kernel
theorem d1_72 : decode method_3_code 72 = .ok (.areturn, 1) := by decide +kernel
theorem d1_59 : decode method_3_code 59 = .ok (.getstatic 39, 3) := by decide +kernel
theorem d1_62 : decode method_3_code 62 = .ok (.areturn, 1) := by decide +kernel
theorem d1_49 : decode method_3_code 49 = .ok (.getstatic 36, 3) := by decide +kernel
theorem d1_52 : decode method_3_code 52 = .ok (.areturn, 1) := by decide +kernel
theorem d1_40 : decode method_3_code 40 = .ok (.getstatic 33, 3) := by decide +kernel
theorem d1_43 : decode method_3_code 43 = .ok (.areturn, 1) := by decide +kernel
theorem d1_31 : decode method_3_code 31 = .ok (.getstatic 30, 3) := by decide +kernel
theorem d1_34 : decode method_3_code 34 = .ok (.areturn, 1) := by decide +kernel
theorem d1_22 : decode method_3_code 22 = .ok (.getstatic 27, 3) := by decide +kernel
theorem d1_25 : decode method_3_code 25 = .ok (.areturn, 1) := by decide +kernel
theorem d1_13 : decode method_3_code 13 = .ok (.getstatic 24, 3) := by decide +kernel
theorem d1_16 : decode method_3_code 16 = .ok (.areturn, 1) := by decide +kernel
theorem d1_4 : decode method_3_code 4 = .ok (.getstatic 20, 3) := by decide +kernel
theorem d1_7 : decode method_3_code 7 = .ok (.areturn, 1) := by decide +kernel
theorem d2_0 : decode prog_142_method_4_code 0 = .ok (.aload_n 0, 1) := by decide +kernel
theorem d2_1 : decode prog_142_method_4_code 1 = .ok (.getstatic 10, 3) := by decide +kernel
theorem d2_4 : decode prog_142_method_4_code 4 = .ok (.if_acmp .eq 38, 3) := by decide +kernel
theorem d2_42 : decode prog_142_method_4_code 42 = .ok (.iconst 1, 1) := by decide +kernel
theorem d2_43 : decode prog_142_method_4_code 43 = .ok (.goto 4, 3) := by decide +kernel
theorem d2_47 : decode prog_142_method_4_code 47 = .ok (.ireturn, 1) := by decide +kernel
theorem d2_7 : decode prog_142_method_4_code 7 = .ok (.aload_n 0, 1) := by decide +kernel
theorem d2_8 : decode prog_142_method_4_code 8 = .ok (.getstatic 13, 3) := by decide +kernel
theorem d2_11 : decode prog_142_method_4_code 11 = .ok (.if_acmp .eq 31, 3) := by decide +kernel
theorem d2_14 : decode prog_142_method_4_code 14 = .ok (.aload_n 0, 1) := by decide +kernel
theorem d2_15 : decode prog_142_method_4_code 15 = .ok (.getstatic 16, 3) := by decide +kernel
theorem d2_18 : decode prog_142_method_4_code 18 = .ok (.if_acmp .eq 24, 3) := by decide +kernel
theorem d2_21 : decode prog_142_method_4_code 21 = .ok (.aload_n 0, 1) := by decide +kernel
theorem d2_22 : decode prog_142_method_4_code 22 = .ok (.getstatic 19, 3) := by decide +kernel
theorem d2_25 : decode prog_142_method_4_code 25 = .ok (.if_acmp .eq 17, 3) := by decide +kernel
theorem d2_28 : decode prog_142_method_4_code 28 = .ok (.aload_n 0, 1) := by decide +kernel
theorem d2_29 : decode prog_142_method_4_code 29 = .ok (.getstatic 22, 3) := by decide +kernel
theorem d2_32 : decode prog_142_method_4_code 32 = .ok (.if_acmp .eq 10, 3) := by decide +kernel
theorem d2_35 : decode prog_142_method_4_code 35 = .ok (.aload_n 0, 1) := by decide +kernel
theorem d2_36 : decode prog_142_method_4_code 36 = .ok (.getstatic 25, 3) := by decide +kernel
theorem d2_39 : decode prog_142_method_4_code 39 = .ok (.if_acmp .ne 7, 3) := by decide +kernel
theorem d2_46 : decode prog_142_method_4_code 46 = .ok (.iconst 0, 1) := by decide +kernel
theorem pn_88 : plainName "com/example/umform/umform/model/xpath/OperatorIsComparisonPinLaw" = true := by first | (simp [plainName, overriddenIn]; done) | decide +kernel
theorem ef_rm1 (m : MethodId) (x0 : Int32) : entryFrame m #[(.int x0)] 1 = mkF m 0 #[.val (.int x0)] [] := by first | (simp [entryFrame, mkF, argsToLocals, Value.category]; done) | rfl
def Q_rm1 (Z : State) (p0 : Int32) (a_OR a_AND a_EQUAL a_NOT_EQUAL a_LESS a_LESS_OR_EQUAL a_GREATER a_GREATER_OR_EQUAL a_ADD a_SUBTRACT a_MULTIPLY a_DIVIDE a_MODULO a_UNION : Addr) (h0 : Heap) (n0 : Nat) (v : Option Value) (h : Heap) (L : List Loc) : Prop := v = some (.ref (own_pk p0 a_OR a_AND a_EQUAL a_NOT_EQUAL a_LESS a_LESS_OR_EQUAL a_GREATER a_GREATER_OR_EQUAL a_ADD a_SUBTRACT a_MULTIPLY a_DIVIDE a_MODULO a_UNION)) ∧ h = h0 ∧ L = []
set_option maxRecDepth 65536 in
set_option maxHeartbeats 40000000 in
theorem rm1 (l : Launch) (Z : State) (a0 : Array Value) (hw : ∀ d ∈ tables_1, d.before a0 Z = true) (ws : List Jvm.Cond) (p0 : Int32) (a_OR a_AND a_EQUAL a_NOT_EQUAL a_LESS a_LESS_OR_EQUAL a_GREATER a_GREATER_OR_EQUAL a_ADD a_SUBTRACT a_MULTIPLY a_DIVIDE a_MODULO a_UNION : Addr) (h0 : Heap) (n0 : Nat) (Z0 : n0 ≤ h0.size) (S_OR : Sta Z h0 "com/example/umform/umform/model/xpath/Operation$Operator" "OR" "Lcom/example/umform/umform/model/xpath/Operation$Operator;" (.ref a_OR)) (S_EQUAL : Sta Z h0 "com/example/umform/umform/model/xpath/Operation$Operator" "EQUAL" "Lcom/example/umform/umform/model/xpath/Operation$Operator;" (.ref a_EQUAL)) (S_NOT_EQUAL : Sta Z h0 "com/example/umform/umform/model/xpath/Operation$Operator" "NOT_EQUAL" "Lcom/example/umform/umform/model/xpath/Operation$Operator;" (.ref a_NOT_EQUAL)) (S_LESS : Sta Z h0 "com/example/umform/umform/model/xpath/Operation$Operator" "LESS" "Lcom/example/umform/umform/model/xpath/Operation$Operator;" (.ref a_LESS)) (S_LESS_OR_EQUAL : Sta Z h0 "com/example/umform/umform/model/xpath/Operation$Operator" "LESS_OR_EQUAL" "Lcom/example/umform/umform/model/xpath/Operation$Operator;" (.ref a_LESS_OR_EQUAL)) (S_GREATER : Sta Z h0 "com/example/umform/umform/model/xpath/Operation$Operator" "GREATER" "Lcom/example/umform/umform/model/xpath/Operation$Operator;" (.ref a_GREATER)) (S_GREATER_OR_EQUAL : Sta Z h0 "com/example/umform/umform/model/xpath/Operation$Operator" "GREATER_OR_EQUAL" "Lcom/example/umform/umform/model/xpath/Operation$Operator;" (.ref a_GREATER_OR_EQUAL)) (S_MODULO : Sta Z h0 "com/example/umform/umform/model/xpath/Operation$Operator" "MODULO" "Lcom/example/umform/umform/model/xpath/Operation$Operator;" (.ref a_MODULO)) (S_UNION : Sta Z h0 "com/example/umform/umform/model/xpath/Operation$Operator" "UNION" "Lcom/example/umform/umform/model/xpath/Operation$Operator;" (.ref a_UNION)) (S_DIVIDE : Sta Z h0 "com/example/umform/umform/model/xpath/Operation$Operator" "DIVIDE" "Lcom/example/umform/umform/model/xpath/Operation$Operator;" (.ref a_DIVIDE)) (S_MULTIPLY : Sta Z h0 "com/example/umform/umform/model/xpath/Operation$Operator" "MULTIPLY" "Lcom/example/umform/umform/model/xpath/Operation$Operator;" (.ref a_MULTIPLY)) (S_ADD : Sta Z h0 "com/example/umform/umform/model/xpath/Operation$Operator" "ADD" "Lcom/example/umform/umform/model/xpath/Operation$Operator;" (.ref a_ADD)) (S_AND : Sta Z h0 "com/example/umform/umform/model/xpath/Operation$Operator" "AND" "Lcom/example/umform/umform/model/xpath/Operation$Operator;" (.ref a_AND)) (S_SUBTRACT : Sta Z h0 "com/example/umform/umform/model/xpath/Operation$Operator" "SUBTRACT" "Lcom/example/umform/umform/model/xpath/Operation$Operator;" (.ref a_SUBTRACT)) :
    MetFree l (⟨"com/example/umform/umform/model/xpath/OperatorIsComparisonPinLaw", "operatorAt", "(I)Lcom/example/umform/umform/model/xpath/Operation$Operator;"⟩ : MethodName) (head1 (Jvm.Cond.code (⟨"com/example/umform/umform/model/xpath/OperatorIsComparisonPinLaw", "operatorAt", "(I)Lcom/example/umform/umform/model/xpath/Operation$Operator;"⟩ : MethodName) method_3_code 1 (some (.object "com/example/umform/umform/model/xpath/Operation$Operator")) :: ws) ({ frames := 0, cells := 0, slots := 0, locals := 0 } : Room)) (fun a U => a = #[(.int p0)] ∧ Z.Warmed39 U.vm ∧ U.heap = h0) (fun _ _ _ _ _ => True) (fun _ U o U' => ∃ v L, o = .returned v ∧ Q_rm1 Z p0 a_OR a_AND a_EQUAL a_NOT_EQUAL a_LESS a_LESS_OR_EQUAL a_GREATER a_GREATER_OR_EQUAL a_ADD a_SUBTRACT a_MULTIPLY a_DIVIDE a_MODULO a_UNION h0 n0 v U'.heap L ∧ FrameEnd U o U' L ({ frames := 0, cells := 0, slots := 0, locals := 0 } : Room).cells ({ frames := 0, cells := 0, slots := 0, locals := 0 } : Room).slots) := by
  refine MetFree.of_bodySF (plainFor_of_name pn_88) hisR ?_
  intro p e s m args below meth c s₁ Bd hml0 hP hK
  obtain ⟨rfl, hZ, hh⟩ := hP
  have hx := Bd.exec
  have hby := Bd.bytes
  have hlk := Bd.notSynchronized
  have hml : c.maxLocals = 1 := hml0
  have hown : s.vm.findClass "com/example/umform/umform/model/xpath/OperatorIsComparisonPinLaw" = some m.cls := findClass_of_methodNamed Bd.named
  have hnm := (name_of_methodNamed Bd.named Bd.method).1
  have X0 : Stand p l e ({ frames := 0, cells := 0, slots := 0, locals := 0 } : Room) s m #[(.int p0)] below meth c s₁ [] 0 0 := Stand.of_body Bd
  have e0 : s₁.heap = h0 := by rw [← hh, Bd.state]; rfl
  have N0 := Fr.nil n0
  change own_Go p e below s (Q_rm1 Z p0 a_OR a_AND a_EQUAL a_NOT_EQUAL a_LESS a_LESS_OR_EQUAL a_GREATER a_GREATER_OR_EQUAL a_ADD a_SUBTRACT a_MULTIPLY a_DIVIDE a_MODULO a_UNION h0 n0) ({ frames := 0, cells := 0, slots := 0, locals := 0 } : Room).cells ({ frames := 0, cells := 0, slots := 0, locals := 0 } : Room).slots _
  refine own_go (S' := (s₁.setTop (mkF m 0 #[.val (.int p0)] []))) (fun _ k => castTop (ef_rm1 m p0) k) ?_
  refine own_go (S' := (s₁.setTop (mkF m 1 #[.val (.int p0)] [(.int p0)]))) (fun _ k => XS.iloadN X0.here hx rfl (hb hby d1_0) rfl k) ?_
  by_cases b1_1 : p0 = (0 : Int32)
  · refine own_go (S' := (s₁.setTop (mkF m 4 #[.val (.int p0)] []))) (fun _ k => XS.ifNo X0.here hx rfl (hb hby d1_1) rfl ((if0 _ _).trans (teq b1_1).2) k) ?_
    obtain ⟨T27, X27, e27, st27⟩ := getS2 X0 hx hZ hown (host := "") (Or.inl (hw _ (List.mem_of_getElem? (i := 5) rfl))) Via.refl e0 S_OR (g := (mkF m 4 #[.val (.int p0)] [])) rfl (hb hby d1_4)
    refine own_go (S' := (T27.setTop (mkF m 7 #[.val (.int p0)] [(.ref a_OR)]))) st27 ?_
    refine own_retA X27 hx hlk (rfl) rfl Bd.returns (hb hby d1_7) (by decide) (by decide) ?_
    exact ⟨by unfold own_pk; rw [if_pos b1_1], e27, rfl⟩
  · refine own_go (S' := (s₁.setTop (mkF m 10 #[.val (.int p0)] [(.int (1 : Int32)), (.int p0)]))) (fun _ k => XS.ifYes X0.here hx rfl (pc0 := 1) (pc' := 8) rfl (hb hby d1_1) rfl ((if0 _ _).trans (feq b1_1).2) (by decide) (by decide) (XS.iloadN X0.here hx rfl (hb hby d1_8) rfl (XS.iconst X0.here hx rfl (hb hby d1_9) k))) ?_
    by_cases b10_2 : p0 = (1 : Int32)
    · refine own_go (S' := (s₁.setTop (mkF m 13 #[.val (.int p0)] []))) (fun _ k => XS.icmpNo X0.here hx rfl (hb hby d1_10) rfl (teq b10_2).2 k) ?_
      obtain ⟨T26, X26, e26, st26⟩ := getS2 X0 hx hZ hown (host := "") (Or.inl (hw _ (List.mem_of_getElem? (i := 39) rfl))) Via.refl e0 S_AND (g := (mkF m 13 #[.val (.int p0)] [])) rfl (hb hby d1_13)
      refine own_go (S' := (T26.setTop (mkF m 16 #[.val (.int p0)] [(.ref a_AND)]))) st26 ?_
      refine own_retA X26 hx hlk (rfl) rfl Bd.returns (hb hby d1_16) (by decide) (by decide) ?_
      exact ⟨by unfold own_pk; rw [if_neg b1_1, if_pos b10_2], e26, rfl⟩
    · refine own_go (S' := (s₁.setTop (mkF m 19 #[.val (.int p0)] [(.int (2 : Int32)), (.int p0)]))) (fun _ k => XS.icmpYes X0.here hx rfl (pc0 := 10) (pc' := 17) rfl (hb hby d1_10) rfl (feq b10_2).2 (by decide) (by decide) (XS.iloadN X0.here hx rfl (hb hby d1_17) rfl (XS.iconst X0.here hx rfl (hb hby d1_18) k))) ?_
      by_cases b19_3 : p0 = (2 : Int32)
      · refine own_go (S' := (s₁.setTop (mkF m 22 #[.val (.int p0)] []))) (fun _ k => XS.icmpNo X0.here hx rfl (hb hby d1_19) rfl (teq b19_3).2 k) ?_
        obtain ⟨T25, X25, e25, st25⟩ := getS2 X0 hx hZ hown (host := "") (Or.inl (hw _ (List.mem_of_getElem? (i := 32) rfl))) Via.refl e0 S_EQUAL (g := (mkF m 22 #[.val (.int p0)] [])) rfl (hb hby d1_22)
        refine own_go (S' := (T25.setTop (mkF m 25 #[.val (.int p0)] [(.ref a_EQUAL)]))) st25 ?_
        refine own_retA X25 hx hlk (rfl) rfl Bd.returns (hb hby d1_25) (by decide) (by decide) ?_
        exact ⟨by unfold own_pk; rw [if_neg b1_1, if_neg b10_2, if_pos b19_3], e25, rfl⟩
      · refine own_go (S' := (s₁.setTop (mkF m 28 #[.val (.int p0)] [(.int (3 : Int32)), (.int p0)]))) (fun _ k => XS.icmpYes X0.here hx rfl (pc0 := 19) (pc' := 26) rfl (hb hby d1_19) rfl (feq b19_3).2 (by decide) (by decide) (XS.iloadN X0.here hx rfl (hb hby d1_26) rfl (XS.iconst X0.here hx rfl (hb hby d1_27) k))) ?_
        by_cases b28_4 : p0 = (3 : Int32)
        · refine own_go (S' := (s₁.setTop (mkF m 31 #[.val (.int p0)] []))) (fun _ k => XS.icmpNo X0.here hx rfl (hb hby d1_28) rfl (teq b28_4).2 k) ?_
          obtain ⟨T24, X24, e24, st24⟩ := getS2 X0 hx hZ hown (host := "") (Or.inl (hw _ (List.mem_of_getElem? (i := 25) rfl))) Via.refl e0 S_NOT_EQUAL (g := (mkF m 31 #[.val (.int p0)] [])) rfl (hb hby d1_31)
          refine own_go (S' := (T24.setTop (mkF m 34 #[.val (.int p0)] [(.ref a_NOT_EQUAL)]))) st24 ?_
          refine own_retA X24 hx hlk (rfl) rfl Bd.returns (hb hby d1_34) (by decide) (by decide) ?_
          exact ⟨by unfold own_pk; rw [if_neg b1_1, if_neg b10_2, if_neg b19_3, if_pos b28_4], e24, rfl⟩
        · refine own_go (S' := (s₁.setTop (mkF m 37 #[.val (.int p0)] [(.int (4 : Int32)), (.int p0)]))) (fun _ k => XS.icmpYes X0.here hx rfl (pc0 := 28) (pc' := 35) rfl (hb hby d1_28) rfl (feq b28_4).2 (by decide) (by decide) (XS.iloadN X0.here hx rfl (hb hby d1_35) rfl (XS.iconst X0.here hx rfl (hb hby d1_36) k))) ?_
          by_cases b37_5 : p0 = (4 : Int32)
          · refine own_go (S' := (s₁.setTop (mkF m 40 #[.val (.int p0)] []))) (fun _ k => XS.icmpNo X0.here hx rfl (hb hby d1_37) rfl (teq b37_5).2 k) ?_
            obtain ⟨T23, X23, e23, st23⟩ := getS2 X0 hx hZ hown (host := "") (Or.inl (hw _ (List.mem_of_getElem? (i := 30) rfl))) Via.refl e0 S_LESS (g := (mkF m 40 #[.val (.int p0)] [])) rfl (hb hby d1_40)
            refine own_go (S' := (T23.setTop (mkF m 43 #[.val (.int p0)] [(.ref a_LESS)]))) st23 ?_
            refine own_retA X23 hx hlk (rfl) rfl Bd.returns (hb hby d1_43) (by decide) (by decide) ?_
            exact ⟨by unfold own_pk; rw [if_neg b1_1, if_neg b10_2, if_neg b19_3, if_neg b28_4, if_pos b37_5], e23, rfl⟩
          · refine own_go (S' := (s₁.setTop (mkF m 46 #[.val (.int p0)] [(.int (5 : Int32)), (.int p0)]))) (fun _ k => XS.icmpYes X0.here hx rfl (pc0 := 37) (pc' := 44) rfl (hb hby d1_37) rfl (feq b37_5).2 (by decide) (by decide) (XS.iloadN X0.here hx rfl (hb hby d1_44) rfl (XS.iconst X0.here hx rfl (hb hby d1_45) k))) ?_
            by_cases b46_6 : p0 = (5 : Int32)
            · refine own_go (S' := (s₁.setTop (mkF m 49 #[.val (.int p0)] []))) (fun _ k => XS.icmpNo X0.here hx rfl (hb hby d1_46) rfl (teq b46_6).2 k) ?_
              obtain ⟨T22, X22, e22, st22⟩ := getS2 X0 hx hZ hown (host := "") (Or.inl (hw _ (List.mem_of_getElem? (i := 43) rfl))) Via.refl e0 S_LESS_OR_EQUAL (g := (mkF m 49 #[.val (.int p0)] [])) rfl (hb hby d1_49)
              refine own_go (S' := (T22.setTop (mkF m 52 #[.val (.int p0)] [(.ref a_LESS_OR_EQUAL)]))) st22 ?_
              refine own_retA X22 hx hlk (rfl) rfl Bd.returns (hb hby d1_52) (by decide) (by decide) ?_
              exact ⟨by unfold own_pk; rw [if_neg b1_1, if_neg b10_2, if_neg b19_3, if_neg b28_4, if_neg b37_5, if_pos b46_6], e22, rfl⟩
            · refine own_go (S' := (s₁.setTop (mkF m 56 #[.val (.int p0)] [(.int (6 : Int32)), (.int p0)]))) (fun _ k => XS.icmpYes X0.here hx rfl (pc0 := 46) (pc' := 53) rfl (hb hby d1_46) rfl (feq b46_6).2 (by decide) (by decide) (XS.iloadN X0.here hx rfl (hb hby d1_53) rfl (XS.bipush X0.here hx rfl (hb hby d1_54) k))) ?_
              by_cases b56_7 : p0 = (6 : Int32)
              · refine own_go (S' := (s₁.setTop (mkF m 59 #[.val (.int p0)] []))) (fun _ k => XS.icmpNo X0.here hx rfl (hb hby d1_56) rfl (teq b56_7).2 k) ?_
                obtain ⟨T21, X21, e21, st21⟩ := getS2 X0 hx hZ hown (host := "") (Or.inl (hw _ (List.mem_of_getElem? (i := 44) rfl))) Via.refl e0 S_GREATER (g := (mkF m 59 #[.val (.int p0)] [])) rfl (hb hby d1_59)
                refine own_go (S' := (T21.setTop (mkF m 62 #[.val (.int p0)] [(.ref a_GREATER)]))) st21 ?_
                refine own_retA X21 hx hlk (rfl) rfl Bd.returns (hb hby d1_62) (by decide) (by decide) ?_
                exact ⟨by unfold own_pk; rw [if_neg b1_1, if_neg b10_2, if_neg b19_3, if_neg b28_4, if_neg b37_5, if_neg b46_6, if_pos b56_7], e21, rfl⟩
              · refine own_go (S' := (s₁.setTop (mkF m 66 #[.val (.int p0)] [(.int (7 : Int32)), (.int p0)]))) (fun _ k => XS.icmpYes X0.here hx rfl (pc0 := 56) (pc' := 63) rfl (hb hby d1_56) rfl (feq b56_7).2 (by decide) (by decide) (XS.iloadN X0.here hx rfl (hb hby d1_63) rfl (XS.bipush X0.here hx rfl (hb hby d1_64) k))) ?_
                by_cases b66_8 : p0 = (7 : Int32)
                · refine own_go (S' := (s₁.setTop (mkF m 69 #[.val (.int p0)] []))) (fun _ k => XS.icmpNo X0.here hx rfl (hb hby d1_66) rfl (teq b66_8).2 k) ?_
                  obtain ⟨T20, X20, e20, st20⟩ := getS2 X0 hx hZ hown (host := "") (Or.inl (hw _ (List.mem_of_getElem? (i := 31) rfl))) Via.refl e0 S_GREATER_OR_EQUAL (g := (mkF m 69 #[.val (.int p0)] [])) rfl (hb hby d1_69)
                  refine own_go (S' := (T20.setTop (mkF m 72 #[.val (.int p0)] [(.ref a_GREATER_OR_EQUAL)]))) st20 ?_
                  refine own_retA X20 hx hlk (rfl) rfl Bd.returns (hb hby d1_72) (by decide) (by decide) ?_
                  exact ⟨by unfold own_pk; rw [if_neg b1_1, if_neg b10_2, if_neg b19_3, if_neg b28_4, if_neg b37_5, if_neg b46_6, if_neg b56_7, if_pos b66_8], e20, rfl⟩
                · refine own_go (S' := (s₁.setTop (mkF m 76 #[.val (.int p0)] [(.int (8 : Int32)), (.int p0)]))) (fun _ k => XS.icmpYes X0.here hx rfl (pc0 := 66) (pc' := 73) rfl (hb hby d1_66) rfl (feq b66_8).2 (by decide) (by decide) (XS.iloadN X0.here hx rfl (hb hby d1_73) rfl (XS.bipush X0.here hx rfl (hb hby d1_74) k))) ?_
                  by_cases b76_9 : p0 = (8 : Int32)
                  · refine own_go (S' := (s₁.setTop (mkF m 79 #[.val (.int p0)] []))) (fun _ k => XS.icmpNo X0.here hx rfl (hb hby d1_76) rfl (teq b76_9).2 k) ?_
                    obtain ⟨T19, X19, e19, st19⟩ := getS2 X0 hx hZ hown (host := "") (Or.inl (hw _ (List.mem_of_getElem? (i := 37) rfl))) Via.refl e0 S_ADD (g := (mkF m 79 #[.val (.int p0)] [])) rfl (hb hby d1_79)
                    refine own_go (S' := (T19.setTop (mkF m 82 #[.val (.int p0)] [(.ref a_ADD)]))) st19 ?_
                    refine own_retA X19 hx hlk (rfl) rfl Bd.returns (hb hby d1_82) (by decide) (by decide) ?_
                    exact ⟨by unfold own_pk; rw [if_neg b1_1, if_neg b10_2, if_neg b19_3, if_neg b28_4, if_neg b37_5, if_neg b46_6, if_neg b56_7, if_neg b66_8, if_pos b76_9], e19, rfl⟩
                  · refine own_go (S' := (s₁.setTop (mkF m 86 #[.val (.int p0)] [(.int (9 : Int32)), (.int p0)]))) (fun _ k => XS.icmpYes X0.here hx rfl (pc0 := 76) (pc' := 83) rfl (hb hby d1_76) rfl (feq b76_9).2 (by decide) (by decide) (XS.iloadN X0.here hx rfl (hb hby d1_83) rfl (XS.bipush X0.here hx rfl (hb hby d1_84) k))) ?_
                    by_cases b86_10 : p0 = (9 : Int32)
                    · refine own_go (S' := (s₁.setTop (mkF m 89 #[.val (.int p0)] []))) (fun _ k => XS.icmpNo X0.here hx rfl (hb hby d1_86) rfl (teq b86_10).2 k) ?_
                      obtain ⟨T18, X18, e18, st18⟩ := getS2 X0 hx hZ hown (host := "") (Or.inl (hw _ (List.mem_of_getElem? (i := 41) rfl))) Via.refl e0 S_SUBTRACT (g := (mkF m 89 #[.val (.int p0)] [])) rfl (hb hby d1_89)
                      refine own_go (S' := (T18.setTop (mkF m 92 #[.val (.int p0)] [(.ref a_SUBTRACT)]))) st18 ?_
                      refine own_retA X18 hx hlk (rfl) rfl Bd.returns (hb hby d1_92) (by decide) (by decide) ?_
                      exact ⟨by unfold own_pk; rw [if_neg b1_1, if_neg b10_2, if_neg b19_3, if_neg b28_4, if_neg b37_5, if_neg b46_6, if_neg b56_7, if_neg b66_8, if_neg b76_9, if_pos b86_10], e18, rfl⟩
                    · refine own_go (S' := (s₁.setTop (mkF m 96 #[.val (.int p0)] [(.int (10 : Int32)), (.int p0)]))) (fun _ k => XS.icmpYes X0.here hx rfl (pc0 := 86) (pc' := 93) rfl (hb hby d1_86) rfl (feq b86_10).2 (by decide) (by decide) (XS.iloadN X0.here hx rfl (hb hby d1_93) rfl (XS.bipush X0.here hx rfl (hb hby d1_94) k))) ?_
                      by_cases b96_11 : p0 = (10 : Int32)
                      · refine own_go (S' := (s₁.setTop (mkF m 99 #[.val (.int p0)] []))) (fun _ k => XS.icmpNo X0.here hx rfl (hb hby d1_96) rfl (teq b96_11).2 k) ?_
                        obtain ⟨T17, X17, e17, st17⟩ := getS2 X0 hx hZ hown (host := "") (Or.inl (hw _ (List.mem_of_getElem? (i := 35) rfl))) Via.refl e0 S_MULTIPLY (g := (mkF m 99 #[.val (.int p0)] [])) rfl (hb hby d1_99)
                        refine own_go (S' := (T17.setTop (mkF m 102 #[.val (.int p0)] [(.ref a_MULTIPLY)]))) st17 ?_
                        refine own_retA X17 hx hlk (rfl) rfl Bd.returns (hb hby d1_102) (by decide) (by decide) ?_
                        exact ⟨by unfold own_pk; rw [if_neg b1_1, if_neg b10_2, if_neg b19_3, if_neg b28_4, if_neg b37_5, if_neg b46_6, if_neg b56_7, if_neg b66_8, if_neg b76_9, if_neg b86_10, if_pos b96_11], e17, rfl⟩
                      · refine own_go (S' := (s₁.setTop (mkF m 106 #[.val (.int p0)] [(.int (11 : Int32)), (.int p0)]))) (fun _ k => XS.icmpYes X0.here hx rfl (pc0 := 96) (pc' := 103) rfl (hb hby d1_96) rfl (feq b96_11).2 (by decide) (by decide) (XS.iloadN X0.here hx rfl (hb hby d1_103) rfl (XS.bipush X0.here hx rfl (hb hby d1_104) k))) ?_
                        by_cases b106_12 : p0 = (11 : Int32)
                        · refine own_go (S' := (s₁.setTop (mkF m 109 #[.val (.int p0)] []))) (fun _ k => XS.icmpNo X0.here hx rfl (hb hby d1_106) rfl (teq b106_12).2 k) ?_
                          obtain ⟨T16, X16, e16, st16⟩ := getS2 X0 hx hZ hown (host := "") (Or.inl (hw _ (List.mem_of_getElem? (i := 33) rfl))) Via.refl e0 S_DIVIDE (g := (mkF m 109 #[.val (.int p0)] [])) rfl (hb hby d1_109)
                          refine own_go (S' := (T16.setTop (mkF m 112 #[.val (.int p0)] [(.ref a_DIVIDE)]))) st16 ?_
                          refine own_retA X16 hx hlk (rfl) rfl Bd.returns (hb hby d1_112) (by decide) (by decide) ?_
                          exact ⟨by unfold own_pk; rw [if_neg b1_1, if_neg b10_2, if_neg b19_3, if_neg b28_4, if_neg b37_5, if_neg b46_6, if_neg b56_7, if_neg b66_8, if_neg b76_9, if_neg b86_10, if_neg b96_11, if_pos b106_12], e16, rfl⟩
                        · refine own_go (S' := (s₁.setTop (mkF m 116 #[.val (.int p0)] [(.int (12 : Int32)), (.int p0)]))) (fun _ k => XS.icmpYes X0.here hx rfl (pc0 := 106) (pc' := 113) rfl (hb hby d1_106) rfl (feq b106_12).2 (by decide) (by decide) (XS.iloadN X0.here hx rfl (hb hby d1_113) rfl (XS.bipush X0.here hx rfl (hb hby d1_114) k))) ?_
                          by_cases b116_13 : p0 = (12 : Int32)
                          · refine own_go (S' := (s₁.setTop (mkF m 119 #[.val (.int p0)] []))) (fun _ k => XS.icmpNo X0.here hx rfl (hb hby d1_116) rfl (teq b116_13).2 k) ?_
                            obtain ⟨T15, X15, e15, st15⟩ := getS2 X0 hx hZ hown (host := "") (Or.inl (hw _ (List.mem_of_getElem? (i := 26) rfl))) Via.refl e0 S_MODULO (g := (mkF m 119 #[.val (.int p0)] [])) rfl (hb hby d1_119)
                            refine own_go (S' := (T15.setTop (mkF m 122 #[.val (.int p0)] [(.ref a_MODULO)]))) st15 ?_
                            refine own_retA X15 hx hlk (rfl) rfl Bd.returns (hb hby d1_122) (by decide) (by decide) ?_
                            exact ⟨by unfold own_pk; rw [if_neg b1_1, if_neg b10_2, if_neg b19_3, if_neg b28_4, if_neg b37_5, if_neg b46_6, if_neg b56_7, if_neg b66_8, if_neg b76_9, if_neg b86_10, if_neg b96_11, if_neg b106_12, if_pos b116_13], e15, rfl⟩
                          · refine own_go (S' := (s₁.setTop (mkF m 123 #[.val (.int p0)] []))) (fun _ k => XS.icmpYes X0.here hx rfl (pc0 := 116) (pc' := 123) rfl (hb hby d1_116) rfl (feq b116_13).2 (by decide) (by decide) k) ?_
                            obtain ⟨T14, X14, e14, st14⟩ := getS2 X0 hx hZ hown (host := "") (Or.inl (hw _ (List.mem_of_getElem? (i := 28) rfl))) Via.refl e0 S_UNION (g := (mkF m 123 #[.val (.int p0)] [])) rfl (hb hby d1_123)
                            refine own_go (S' := (T14.setTop (mkF m 126 #[.val (.int p0)] [(.ref a_UNION)]))) st14 ?_
                            refine own_retA X14 hx hlk (rfl) rfl Bd.returns (hb hby d1_126) (by decide) (by decide) ?_
                            exact ⟨by unfold own_pk; rw [if_neg b1_1, if_neg b10_2, if_neg b19_3, if_neg b28_4, if_neg b37_5, if_neg b46_6, if_neg b56_7, if_neg b66_8, if_neg b76_9, if_neg b86_10, if_neg b96_11, if_neg b106_12, if_neg b116_13], e14, rfl⟩
theorem pn_89 : plainName "com/example/umform/umform/model/xpath/Operation$Operator" = true := by first | (simp [plainName, overriddenIn]; done) | decide +kernel
theorem ef_rm2 (m : MethodId) (x0 : Addr) : entryFrame m #[(.ref x0)] 1 = mkF m 0 #[.val (.ref x0)] [] := by first | (simp [entryFrame, mkF, argsToLocals, Value.category]; done) | rfl
def Q_rm2 (Z : State) (b0 a_EQUAL a_NOT_EQUAL a_LESS a_LESS_OR_EQUAL a_GREATER a_GREATER_OR_EQUAL : Addr) (h0 : Heap) (n0 : Nat) (v : Option Value) (h : Heap) (L : List Loc) : Prop := v = some (.int (own_in b0 a_EQUAL a_NOT_EQUAL a_LESS a_LESS_OR_EQUAL a_GREATER a_GREATER_OR_EQUAL)) ∧ h = h0 ∧ L = []
set_option maxRecDepth 65536 in
set_option maxHeartbeats 40000000 in
theorem rm2 (l : Launch) (Z : State) (a0 : Array Value) (hw : ∀ d ∈ tables_1, d.before a0 Z = true) (ws : List Jvm.Cond) (b0 a_EQUAL a_NOT_EQUAL a_LESS a_LESS_OR_EQUAL a_GREATER a_GREATER_OR_EQUAL : Addr) (h0 : Heap) (n0 : Nat) (Z0 : n0 ≤ h0.size) (S_EQUAL : Sta Z h0 "com/example/umform/umform/model/xpath/Operation$Operator" "EQUAL" "Lcom/example/umform/umform/model/xpath/Operation$Operator;" (.ref a_EQUAL)) (S_NOT_EQUAL : Sta Z h0 "com/example/umform/umform/model/xpath/Operation$Operator" "NOT_EQUAL" "Lcom/example/umform/umform/model/xpath/Operation$Operator;" (.ref a_NOT_EQUAL)) (S_LESS : Sta Z h0 "com/example/umform/umform/model/xpath/Operation$Operator" "LESS" "Lcom/example/umform/umform/model/xpath/Operation$Operator;" (.ref a_LESS)) (S_LESS_OR_EQUAL : Sta Z h0 "com/example/umform/umform/model/xpath/Operation$Operator" "LESS_OR_EQUAL" "Lcom/example/umform/umform/model/xpath/Operation$Operator;" (.ref a_LESS_OR_EQUAL)) (S_GREATER : Sta Z h0 "com/example/umform/umform/model/xpath/Operation$Operator" "GREATER" "Lcom/example/umform/umform/model/xpath/Operation$Operator;" (.ref a_GREATER)) (S_GREATER_OR_EQUAL : Sta Z h0 "com/example/umform/umform/model/xpath/Operation$Operator" "GREATER_OR_EQUAL" "Lcom/example/umform/umform/model/xpath/Operation$Operator;" (.ref a_GREATER_OR_EQUAL)) :
    MetFree l (⟨"com/example/umform/umform/model/xpath/Operation$Operator", "isComparison", "()Z"⟩ : MethodName) (head1 (Jvm.Cond.code (⟨"com/example/umform/umform/model/xpath/Operation$Operator", "isComparison", "()Z"⟩ : MethodName) prog_142_method_4_code 1 (some .boolean) :: ws) ({ frames := 0, cells := 0, slots := 0, locals := 0 } : Room)) (fun a U => a = #[(.ref b0)] ∧ Z.Warmed39 U.vm ∧ U.heap = h0) (fun _ _ _ _ _ => True) (fun _ U o U' => ∃ v L, o = .returned v ∧ Q_rm2 Z b0 a_EQUAL a_NOT_EQUAL a_LESS a_LESS_OR_EQUAL a_GREATER a_GREATER_OR_EQUAL h0 n0 v U'.heap L ∧ FrameEnd U o U' L ({ frames := 0, cells := 0, slots := 0, locals := 0 } : Room).cells ({ frames := 0, cells := 0, slots := 0, locals := 0 } : Room).slots) := by
  refine MetFree.of_bodySF (plainFor_of_name pn_89) hisR ?_
  intro p e s m args below meth c s₁ Bd hml0 hP hK
  obtain ⟨rfl, hZ, hh⟩ := hP
  have hx := Bd.exec
  have hby := Bd.bytes
  have hlk := Bd.notSynchronized
  have hml : c.maxLocals = 1 := hml0
  have hown : s.vm.findClass "com/example/umform/umform/model/xpath/Operation$Operator" = some m.cls := findClass_of_methodNamed Bd.named
  have hnm := (name_of_methodNamed Bd.named Bd.method).1
  have X0 : Stand p l e ({ frames := 0, cells := 0, slots := 0, locals := 0 } : Room) s m #[(.ref b0)] below meth c s₁ [] 0 0 := Stand.of_body Bd
  have e0 : s₁.heap = h0 := by rw [← hh, Bd.state]; rfl
  have N0 := Fr.nil n0
  change own_Go p e below s (Q_rm2 Z b0 a_EQUAL a_NOT_EQUAL a_LESS a_LESS_OR_EQUAL a_GREATER a_GREATER_OR_EQUAL h0 n0) ({ frames := 0, cells := 0, slots := 0, locals := 0 } : Room).cells ({ frames := 0, cells := 0, slots := 0, locals := 0 } : Room).slots _
  refine own_go (S' := (s₁.setTop (mkF m 0 #[.val (.ref b0)] []))) (fun _ k => castTop (ef_rm2 m b0) k) ?_
  refine own_go (S' := (s₁.setTop (mkF m 1 #[.val (.ref b0)] [(.ref b0)]))) (fun _ k => XS.aloadN X0.here hx rfl (hb hby d2_0) rfl rfl k) ?_
  obtain ⟨T1, X1, e1, st1⟩ := getS2 X0 hx hZ hown (host := "") (Or.inl (hw _ (List.mem_of_getElem? (i := 13) rfl))) Via.refl e0 S_EQUAL (g := (mkF m 1 #[.val (.ref b0)] [(.ref b0)])) rfl (hb hby d2_1)
  refine own_go (S' := (T1.setTop (mkF m 4 #[.val (.ref b0)] [(.ref a_EQUAL), (.ref b0)]))) st1 ?_
  by_cases q0 : b0 = a_EQUAL
  · refine own_go (S' := (T1.setTop (mkF m 47 #[.val (.ref b0)] [(.int (1 : Int32))]))) (fun _ k => Jvm.RoadKit.acmp (g := (mkF m 4 #[.val (.ref b0)] [(.ref a_EQUAL), (.ref b0)])) X1 hx rfl rfl rfl (pc0 := 4) (pc' := 42) (same := true) rfl (hb hby d2_4) rfl (decide_eq_true (congrArg Value.ref q0)) (by decide) (by decide) (XS.iconst X1.here hx rfl (hb hby d2_42) (XS.goto X1.here hx rfl (pc0 := 43) (pc' := 47) rfl (hb hby d2_43) (by decide) (by decide) k))) ?_
    refine own_retN (t := .boolean) X1 hx hlk (by simp) Bd.returns (hb hby d2_47) (by decide) (by decide) ?_
    exact ⟨congrArg (fun z => some (Value.int z)) (show (nar .boolean (1 : Int32)) = own_in b0 a_EQUAL a_NOT_EQUAL a_LESS a_LESS_OR_EQUAL a_GREATER a_GREATER_OR_EQUAL from by unfold own_in; rw [if_pos q0] <;> rfl), e1, rfl⟩
  · refine own_go (S' := (T1.setTop (mkF m 8 #[.val (.ref b0)] [(.ref b0)]))) (fun _ k => Jvm.RoadKit.acmp (g := (mkF m 4 #[.val (.ref b0)] [(.ref a_EQUAL), (.ref b0)])) X1 hx rfl rfl rfl (pc0 := 4) (pc' := 7) (same := false) rfl (hb hby d2_4) rfl (decide_eq_false fun q => q0 (Value.ref.inj q)) (by decide) (by decide) (XS.aloadN X1.here hx rfl (hb hby d2_7) rfl rfl k)) ?_
    obtain ⟨T2, X2, e2, st2⟩ := getS2 X1 hx hZ hown (host := "") (Or.inl (hw _ (List.mem_of_getElem? (i := 15) rfl))) Via.refl e1 S_NOT_EQUAL (g := (mkF m 8 #[.val (.ref b0)] [(.ref b0)])) rfl (hb hby d2_8)
    refine own_go (S' := (T2.setTop (mkF m 11 #[.val (.ref b0)] [(.ref a_NOT_EQUAL), (.ref b0)]))) st2 ?_
    by_cases q1 : b0 = a_NOT_EQUAL
    · refine own_go (S' := (T2.setTop (mkF m 47 #[.val (.ref b0)] [(.int (1 : Int32))]))) (fun _ k => Jvm.RoadKit.acmp (g := (mkF m 11 #[.val (.ref b0)] [(.ref a_NOT_EQUAL), (.ref b0)])) X2 hx rfl rfl rfl (pc0 := 11) (pc' := 42) (same := true) rfl (hb hby d2_11) rfl (decide_eq_true (congrArg Value.ref q1)) (by decide) (by decide) (XS.iconst X2.here hx rfl (hb hby d2_42) (XS.goto X2.here hx rfl (pc0 := 43) (pc' := 47) rfl (hb hby d2_43) (by decide) (by decide) k))) ?_
      refine own_retN (t := .boolean) X2 hx hlk (by simp) Bd.returns (hb hby d2_47) (by decide) (by decide) ?_
      exact ⟨congrArg (fun z => some (Value.int z)) (show (nar .boolean (1 : Int32)) = own_in b0 a_EQUAL a_NOT_EQUAL a_LESS a_LESS_OR_EQUAL a_GREATER a_GREATER_OR_EQUAL from by unfold own_in; rw [if_neg q0, if_pos q1] <;> rfl), e2, rfl⟩
    · refine own_go (S' := (T2.setTop (mkF m 15 #[.val (.ref b0)] [(.ref b0)]))) (fun _ k => Jvm.RoadKit.acmp (g := (mkF m 11 #[.val (.ref b0)] [(.ref a_NOT_EQUAL), (.ref b0)])) X2 hx rfl rfl rfl (pc0 := 11) (pc' := 14) (same := false) rfl (hb hby d2_11) rfl (decide_eq_false fun q => q1 (Value.ref.inj q)) (by decide) (by decide) (XS.aloadN X2.here hx rfl (hb hby d2_14) rfl rfl k)) ?_
      obtain ⟨T3, X3, e3, st3⟩ := getS2 X2 hx hZ hown (host := "") (Or.inl (hw _ (List.mem_of_getElem? (i := 17) rfl))) Via.refl e2 S_LESS (g := (mkF m 15 #[.val (.ref b0)] [(.ref b0)])) rfl (hb hby d2_15)
      refine own_go (S' := (T3.setTop (mkF m 18 #[.val (.ref b0)] [(.ref a_LESS), (.ref b0)]))) st3 ?_
      by_cases q2 : b0 = a_LESS
      · refine own_go (S' := (T3.setTop (mkF m 47 #[.val (.ref b0)] [(.int (1 : Int32))]))) (fun _ k => Jvm.RoadKit.acmp (g := (mkF m 18 #[.val (.ref b0)] [(.ref a_LESS), (.ref b0)])) X3 hx rfl rfl rfl (pc0 := 18) (pc' := 42) (same := true) rfl (hb hby d2_18) rfl (decide_eq_true (congrArg Value.ref q2)) (by decide) (by decide) (XS.iconst X3.here hx rfl (hb hby d2_42) (XS.goto X3.here hx rfl (pc0 := 43) (pc' := 47) rfl (hb hby d2_43) (by decide) (by decide) k))) ?_
        refine own_retN (t := .boolean) X3 hx hlk (by simp) Bd.returns (hb hby d2_47) (by decide) (by decide) ?_
        exact ⟨congrArg (fun z => some (Value.int z)) (show (nar .boolean (1 : Int32)) = own_in b0 a_EQUAL a_NOT_EQUAL a_LESS a_LESS_OR_EQUAL a_GREATER a_GREATER_OR_EQUAL from by unfold own_in; rw [if_neg q0, if_neg q1, if_pos q2] <;> rfl), e3, rfl⟩
      · refine own_go (S' := (T3.setTop (mkF m 22 #[.val (.ref b0)] [(.ref b0)]))) (fun _ k => Jvm.RoadKit.acmp (g := (mkF m 18 #[.val (.ref b0)] [(.ref a_LESS), (.ref b0)])) X3 hx rfl rfl rfl (pc0 := 18) (pc' := 21) (same := false) rfl (hb hby d2_18) rfl (decide_eq_false fun q => q2 (Value.ref.inj q)) (by decide) (by decide) (XS.aloadN X3.here hx rfl (hb hby d2_21) rfl rfl k)) ?_
        obtain ⟨T4, X4, e4, st4⟩ := getS2 X3 hx hZ hown (host := "") (Or.inl (hw _ (List.mem_of_getElem? (i := 19) rfl))) Via.refl e3 S_LESS_OR_EQUAL (g := (mkF m 22 #[.val (.ref b0)] [(.ref b0)])) rfl (hb hby d2_22)
        refine own_go (S' := (T4.setTop (mkF m 25 #[.val (.ref b0)] [(.ref a_LESS_OR_EQUAL), (.ref b0)]))) st4 ?_
        by_cases q3 : b0 = a_LESS_OR_EQUAL
        · refine own_go (S' := (T4.setTop (mkF m 47 #[.val (.ref b0)] [(.int (1 : Int32))]))) (fun _ k => Jvm.RoadKit.acmp (g := (mkF m 25 #[.val (.ref b0)] [(.ref a_LESS_OR_EQUAL), (.ref b0)])) X4 hx rfl rfl rfl (pc0 := 25) (pc' := 42) (same := true) rfl (hb hby d2_25) rfl (decide_eq_true (congrArg Value.ref q3)) (by decide) (by decide) (XS.iconst X4.here hx rfl (hb hby d2_42) (XS.goto X4.here hx rfl (pc0 := 43) (pc' := 47) rfl (hb hby d2_43) (by decide) (by decide) k))) ?_
          refine own_retN (t := .boolean) X4 hx hlk (by simp) Bd.returns (hb hby d2_47) (by decide) (by decide) ?_
          exact ⟨congrArg (fun z => some (Value.int z)) (show (nar .boolean (1 : Int32)) = own_in b0 a_EQUAL a_NOT_EQUAL a_LESS a_LESS_OR_EQUAL a_GREATER a_GREATER_OR_EQUAL from by unfold own_in; rw [if_neg q0, if_neg q1, if_neg q2, if_pos q3] <;> rfl), e4, rfl⟩
        · refine own_go (S' := (T4.setTop (mkF m 29 #[.val (.ref b0)] [(.ref b0)]))) (fun _ k => Jvm.RoadKit.acmp (g := (mkF m 25 #[.val (.ref b0)] [(.ref a_LESS_OR_EQUAL), (.ref b0)])) X4 hx rfl rfl rfl (pc0 := 25) (pc' := 28) (same := false) rfl (hb hby d2_25) rfl (decide_eq_false fun q => q3 (Value.ref.inj q)) (by decide) (by decide) (XS.aloadN X4.here hx rfl (hb hby d2_28) rfl rfl k)) ?_
          obtain ⟨T5, X5, e5, st5⟩ := getS2 X4 hx hZ hown (host := "") (Or.inl (hw _ (List.mem_of_getElem? (i := 21) rfl))) Via.refl e4 S_GREATER (g := (mkF m 29 #[.val (.ref b0)] [(.ref b0)])) rfl (hb hby d2_29)
          refine own_go (S' := (T5.setTop (mkF m 32 #[.val (.ref b0)] [(.ref a_GREATER), (.ref b0)]))) st5 ?_
          by_cases q4 : b0 = a_GREATER
          · refine own_go (S' := (T5.setTop (mkF m 47 #[.val (.ref b0)] [(.int (1 : Int32))]))) (fun _ k => Jvm.RoadKit.acmp (g := (mkF m 32 #[.val (.ref b0)] [(.ref a_GREATER), (.ref b0)])) X5 hx rfl rfl rfl (pc0 := 32) (pc' := 42) (same := true) rfl (hb hby d2_32) rfl (decide_eq_true (congrArg Value.ref q4)) (by decide) (by decide) (XS.iconst X5.here hx rfl (hb hby d2_42) (XS.goto X5.here hx rfl (pc0 := 43) (pc' := 47) rfl (hb hby d2_43) (by decide) (by decide) k))) ?_
            refine own_retN (t := .boolean) X5 hx hlk (by simp) Bd.returns (hb hby d2_47) (by decide) (by decide) ?_
            exact ⟨congrArg (fun z => some (Value.int z)) (show (nar .boolean (1 : Int32)) = own_in b0 a_EQUAL a_NOT_EQUAL a_LESS a_LESS_OR_EQUAL a_GREATER a_GREATER_OR_EQUAL from by unfold own_in; rw [if_neg q0, if_neg q1, if_neg q2, if_neg q3, if_pos q4] <;> rfl), e5, rfl⟩
          · refine own_go (S' := (T5.setTop (mkF m 36 #[.val (.ref b0)] [(.ref b0)]))) (fun _ k => Jvm.RoadKit.acmp (g := (mkF m 32 #[.val (.ref b0)] [(.ref a_GREATER), (.ref b0)])) X5 hx rfl rfl rfl (pc0 := 32) (pc' := 35) (same := false) rfl (hb hby d2_32) rfl (decide_eq_false fun q => q4 (Value.ref.inj q)) (by decide) (by decide) (XS.aloadN X5.here hx rfl (hb hby d2_35) rfl rfl k)) ?_
            obtain ⟨T6, X6, e6, st6⟩ := getS2 X5 hx hZ hown (host := "") (Or.inl (hw _ (List.mem_of_getElem? (i := 23) rfl))) Via.refl e5 S_GREATER_OR_EQUAL (g := (mkF m 36 #[.val (.ref b0)] [(.ref b0)])) rfl (hb hby d2_36)
            refine own_go (S' := (T6.setTop (mkF m 39 #[.val (.ref b0)] [(.ref a_GREATER_OR_EQUAL), (.ref b0)]))) st6 ?_
            by_cases q5 : b0 = a_GREATER_OR_EQUAL
            · refine own_go (S' := (T6.setTop (mkF m 47 #[.val (.ref b0)] [(.int (1 : Int32))]))) (fun _ k => Jvm.RoadKit.acmp (g := (mkF m 39 #[.val (.ref b0)] [(.ref a_GREATER_OR_EQUAL), (.ref b0)])) X6 hx rfl rfl rfl (pc0 := 39) (pc' := 42) (same := true) rfl (hb hby d2_39) rfl (decide_eq_true (congrArg Value.ref q5)) (by decide) (by decide) (XS.iconst X6.here hx rfl (hb hby d2_42) (XS.goto X6.here hx rfl (pc0 := 43) (pc' := 47) rfl (hb hby d2_43) (by decide) (by decide) k))) ?_
              refine own_retN (t := .boolean) X6 hx hlk (by simp) Bd.returns (hb hby d2_47) (by decide) (by decide) ?_
              exact ⟨congrArg (fun z => some (Value.int z)) (show (nar .boolean (1 : Int32)) = own_in b0 a_EQUAL a_NOT_EQUAL a_LESS a_LESS_OR_EQUAL a_GREATER a_GREATER_OR_EQUAL from by unfold own_in; rw [if_neg q0, if_neg q1, if_neg q2, if_neg q3, if_neg q4, if_pos q5] <;> rfl), e6, rfl⟩
            · refine own_go (S' := (T6.setTop (mkF m 47 #[.val (.ref b0)] [(.int (0 : Int32))]))) (fun _ k => Jvm.RoadKit.acmp (g := (mkF m 39 #[.val (.ref b0)] [(.ref a_GREATER_OR_EQUAL), (.ref b0)])) X6 hx rfl rfl rfl (pc0 := 39) (pc' := 46) (same := false) rfl (hb hby d2_39) rfl (decide_eq_false fun q => q5 (Value.ref.inj q)) (by decide) (by decide) (XS.iconst X6.here hx rfl (hb hby d2_46) k)) ?_
              refine own_retN (t := .boolean) X6 hx hlk (by simp) Bd.returns (hb hby d2_47) (by decide) (by decide) ?_
              exact ⟨congrArg (fun z => some (Value.int z)) (show (nar .boolean (0 : Int32)) = own_in b0 a_EQUAL a_NOT_EQUAL a_LESS a_LESS_OR_EQUAL a_GREATER a_GREATER_OR_EQUAL from by unfold own_in; rw [if_neg q0, if_neg q1, if_neg q2, if_neg q3, if_neg q4, if_neg q5] <;> rfl), e6, rfl⟩
theorem pd_90 : parseMethodDescriptor "(I)Lcom/example/umform/umform/model/xpath/Operation$Operator;" = some ⟨[.int], some (.object "com/example/umform/umform/model/xpath/Operation$Operator")⟩ := by decide +kernel
theorem pd_91 : parseMethodDescriptor "()Z" = some ⟨[], some .boolean⟩ := by decide +kernel
theorem ef_rm0 (m : MethodId) (x0 : Int32) : entryFrame m #[(.int x0)] maxLocals = mkF m 0 #[.val (.int x0), .unset, .unset, .unset] [] := by first | (simp [entryFrame, mkF, argsToLocals, Value.category, maxLocals]; done) | rfl
def Q_rm0 (Z : State) (i0 : Int32) (a_OR a_EQUAL a_NOT_EQUAL a_LESS a_LESS_OR_EQUAL a_GREATER a_GREATER_OR_EQUAL a_MODULO a_UNION a_DIVIDE a_MULTIPLY a_ADD a_AND a_SUBTRACT : Addr) (h0 : Heap) (n0 : Nat) (v : Option Value) (h : Heap) (L : List Loc) : Prop := v = some (.int 1) ∧ Fr n0 L
set_option maxRecDepth 65536 in
set_option maxHeartbeats 40000000 in
theorem rm0 (l : Launch) (Z : State) (a0 : Array Value) (hw : ∀ d ∈ tables_1, d.before a0 Z = true) (ws : List Jvm.Cond) (i0 : Int32) (a_OR a_EQUAL a_NOT_EQUAL a_LESS a_LESS_OR_EQUAL a_GREATER a_GREATER_OR_EQUAL a_MODULO a_UNION a_DIVIDE a_MULTIPLY a_ADD a_AND a_SUBTRACT : Addr) (h0 : Heap) (n0 : Nat) (Z0 : n0 ≤ h0.size) (S_OR : Sta Z h0 "com/example/umform/umform/model/xpath/Operation$Operator" "OR" "Lcom/example/umform/umform/model/xpath/Operation$Operator;" (.ref a_OR)) (S_EQUAL : Sta Z h0 "com/example/umform/umform/model/xpath/Operation$Operator" "EQUAL" "Lcom/example/umform/umform/model/xpath/Operation$Operator;" (.ref a_EQUAL)) (S_NOT_EQUAL : Sta Z h0 "com/example/umform/umform/model/xpath/Operation$Operator" "NOT_EQUAL" "Lcom/example/umform/umform/model/xpath/Operation$Operator;" (.ref a_NOT_EQUAL)) (S_LESS : Sta Z h0 "com/example/umform/umform/model/xpath/Operation$Operator" "LESS" "Lcom/example/umform/umform/model/xpath/Operation$Operator;" (.ref a_LESS)) (S_LESS_OR_EQUAL : Sta Z h0 "com/example/umform/umform/model/xpath/Operation$Operator" "LESS_OR_EQUAL" "Lcom/example/umform/umform/model/xpath/Operation$Operator;" (.ref a_LESS_OR_EQUAL)) (S_GREATER : Sta Z h0 "com/example/umform/umform/model/xpath/Operation$Operator" "GREATER" "Lcom/example/umform/umform/model/xpath/Operation$Operator;" (.ref a_GREATER)) (S_GREATER_OR_EQUAL : Sta Z h0 "com/example/umform/umform/model/xpath/Operation$Operator" "GREATER_OR_EQUAL" "Lcom/example/umform/umform/model/xpath/Operation$Operator;" (.ref a_GREATER_OR_EQUAL)) (S_MODULO : Sta Z h0 "com/example/umform/umform/model/xpath/Operation$Operator" "MODULO" "Lcom/example/umform/umform/model/xpath/Operation$Operator;" (.ref a_MODULO)) (S_UNION : Sta Z h0 "com/example/umform/umform/model/xpath/Operation$Operator" "UNION" "Lcom/example/umform/umform/model/xpath/Operation$Operator;" (.ref a_UNION)) (S_DIVIDE : Sta Z h0 "com/example/umform/umform/model/xpath/Operation$Operator" "DIVIDE" "Lcom/example/umform/umform/model/xpath/Operation$Operator;" (.ref a_DIVIDE)) (S_MULTIPLY : Sta Z h0 "com/example/umform/umform/model/xpath/Operation$Operator" "MULTIPLY" "Lcom/example/umform/umform/model/xpath/Operation$Operator;" (.ref a_MULTIPLY)) (S_ADD : Sta Z h0 "com/example/umform/umform/model/xpath/Operation$Operator" "ADD" "Lcom/example/umform/umform/model/xpath/Operation$Operator;" (.ref a_ADD)) (S_AND : Sta Z h0 "com/example/umform/umform/model/xpath/Operation$Operator" "AND" "Lcom/example/umform/umform/model/xpath/Operation$Operator;" (.ref a_AND)) (S_SUBTRACT : Sta Z h0 "com/example/umform/umform/model/xpath/Operation$Operator" "SUBTRACT" "Lcom/example/umform/umform/model/xpath/Operation$Operator;" (.ref a_SUBTRACT)) (E_OR : Exa Z h0 a_OR "com/example/umform/umform/model/xpath/Operation$Operator") (E_EQUAL : Exa Z h0 a_EQUAL "com/example/umform/umform/model/xpath/Operation$Operator") (E_NOT_EQUAL : Exa Z h0 a_NOT_EQUAL "com/example/umform/umform/model/xpath/Operation$Operator") (E_LESS : Exa Z h0 a_LESS "com/example/umform/umform/model/xpath/Operation$Operator") (E_LESS_OR_EQUAL : Exa Z h0 a_LESS_OR_EQUAL "com/example/umform/umform/model/xpath/Operation$Operator") (E_GREATER : Exa Z h0 a_GREATER "com/example/umform/umform/model/xpath/Operation$Operator") (E_GREATER_OR_EQUAL : Exa Z h0 a_GREATER_OR_EQUAL "com/example/umform/umform/model/xpath/Operation$Operator") (E_MODULO : Exa Z h0 a_MODULO "com/example/umform/umform/model/xpath/Operation$Operator") (E_UNION : Exa Z h0 a_UNION "com/example/umform/umform/model/xpath/Operation$Operator") (E_DIVIDE : Exa Z h0 a_DIVIDE "com/example/umform/umform/model/xpath/Operation$Operator") (E_MULTIPLY : Exa Z h0 a_MULTIPLY "com/example/umform/umform/model/xpath/Operation$Operator") (E_ADD : Exa Z h0 a_ADD "com/example/umform/umform/model/xpath/Operation$Operator") (E_AND : Exa Z h0 a_AND "com/example/umform/umform/model/xpath/Operation$Operator") (E_SUBTRACT : Exa Z h0 a_SUBTRACT "com/example/umform/umform/model/xpath/Operation$Operator") (F_OR_ordinal : Fld Z h0 a_OR "java/lang/Enum" "ordinal" "I" (.int (0 : Int32))) (F_EQUAL_ordinal : Fld Z h0 a_EQUAL "java/lang/Enum" "ordinal" "I" (.int (2 : Int32))) (F_NOT_EQUAL_ordinal : Fld Z h0 a_NOT_EQUAL "java/lang/Enum" "ordinal" "I" (.int (3 : Int32))) (F_LESS_ordinal : Fld Z h0 a_LESS "java/lang/Enum" "ordinal" "I" (.int (4 : Int32))) (F_LESS_OR_EQUAL_ordinal : Fld Z h0 a_LESS_OR_EQUAL "java/lang/Enum" "ordinal" "I" (.int (5 : Int32))) (F_GREATER_ordinal : Fld Z h0 a_GREATER "java/lang/Enum" "ordinal" "I" (.int (6 : Int32))) (F_GREATER_OR_EQUAL_ordinal : Fld Z h0 a_GREATER_OR_EQUAL "java/lang/Enum" "ordinal" "I" (.int (7 : Int32))) (F_MODULO_ordinal : Fld Z h0 a_MODULO "java/lang/Enum" "ordinal" "I" (.int (12 : Int32))) (F_UNION_ordinal : Fld Z h0 a_UNION "java/lang/Enum" "ordinal" "I" (.int (13 : Int32))) (F_DIVIDE_ordinal : Fld Z h0 a_DIVIDE "java/lang/Enum" "ordinal" "I" (.int (11 : Int32))) (F_MULTIPLY_ordinal : Fld Z h0 a_MULTIPLY "java/lang/Enum" "ordinal" "I" (.int (10 : Int32))) (F_ADD_ordinal : Fld Z h0 a_ADD "java/lang/Enum" "ordinal" "I" (.int (8 : Int32))) (F_AND_ordinal : Fld Z h0 a_AND "java/lang/Enum" "ordinal" "I" (.int (1 : Int32))) (F_SUBTRACT_ordinal : Fld Z h0 a_SUBTRACT "java/lang/Enum" "ordinal" "I" (.int (9 : Int32))) :
    MetFree l x (head1 (Jvm.Cond.code x code maxLocals ret :: ws) room_1) (fun a U => a = #[(.int i0)] ∧ Z.Warmed39 U.vm ∧ U.heap = h0) (fun _ _ _ _ _ => True) (fun _ U o U' => ∃ v L, o = .returned v ∧ Q_rm0 Z i0 a_OR a_EQUAL a_NOT_EQUAL a_LESS a_LESS_OR_EQUAL a_GREATER a_GREATER_OR_EQUAL a_MODULO a_UNION a_DIVIDE a_MULTIPLY a_ADD a_AND a_SUBTRACT h0 n0 v U'.heap L ∧ FrameEnd U o U' L room_1.cells room_1.slots) := by
  refine MetFree.of_bodySF (plainFor_of_name pn_88) hisR ?_
  intro p e s m args below meth c s₁ Bd hml0 hP hK
  obtain ⟨rfl, hZ, hh⟩ := hP
  have hx := Bd.exec
  have hby := Bd.bytes
  have hlk := Bd.notSynchronized
  have hml : c.maxLocals = 4 := hml0
  have hown : s.vm.findClass "com/example/umform/umform/model/xpath/OperatorIsComparisonPinLaw" = some m.cls := findClass_of_methodNamed Bd.named
  have hnm := (name_of_methodNamed Bd.named Bd.method).1
  have X0 : Stand p l e room_1 s m #[(.int i0)] below meth c s₁ [] 0 0 := Stand.of_body Bd
  have e0 : s₁.heap = h0 := by rw [← hh, Bd.state]; rfl
  have N0 := Fr.nil n0
  change own_Go p e below s (Q_rm0 Z i0 a_OR a_EQUAL a_NOT_EQUAL a_LESS a_LESS_OR_EQUAL a_GREATER a_GREATER_OR_EQUAL a_MODULO a_UNION a_DIVIDE a_MULTIPLY a_ADD a_AND a_SUBTRACT h0 n0) room_1.cells room_1.slots _
  refine own_go (S' := (s₁.setTop (mkF m 0 #[.val (.int i0), .unset, .unset, .unset] []))) (fun _ k => castTop (ef_rm0 m i0) k) ?_
  have n_OR_EQUAL : a_OR ≠ a_EQUAL := F_OR_ordinal.ne F_EQUAL_ordinal (by first | decide | simp)
  have n_OR_NOT_EQUAL : a_OR ≠ a_NOT_EQUAL := F_OR_ordinal.ne F_NOT_EQUAL_ordinal (by first | decide | simp)
  have n_OR_LESS : a_OR ≠ a_LESS := F_OR_ordinal.ne F_LESS_ordinal (by first | decide | simp)
  have n_OR_LESS_OR_EQUAL : a_OR ≠ a_LESS_OR_EQUAL := F_OR_ordinal.ne F_LESS_OR_EQUAL_ordinal (by first | decide | simp)
  have n_OR_GREATER : a_OR ≠ a_GREATER := F_OR_ordinal.ne F_GREATER_ordinal (by first | decide | simp)
  have n_OR_GREATER_OR_EQUAL : a_OR ≠ a_GREATER_OR_EQUAL := F_OR_ordinal.ne F_GREATER_OR_EQUAL_ordinal (by first | decide | simp)
  have n_AND_EQUAL : a_AND ≠ a_EQUAL := F_AND_ordinal.ne F_EQUAL_ordinal (by first | decide | simp)
  have n_AND_NOT_EQUAL : a_AND ≠ a_NOT_EQUAL := F_AND_ordinal.ne F_NOT_EQUAL_ordinal (by first | decide | simp)
  have n_AND_LESS : a_AND ≠ a_LESS := F_AND_ordinal.ne F_LESS_ordinal (by first | decide | simp)
  have n_AND_LESS_OR_EQUAL : a_AND ≠ a_LESS_OR_EQUAL := F_AND_ordinal.ne F_LESS_OR_EQUAL_ordinal (by first | decide | simp)
  have n_AND_GREATER : a_AND ≠ a_GREATER := F_AND_ordinal.ne F_GREATER_ordinal (by first | decide | simp)
  have n_AND_GREATER_OR_EQUAL : a_AND ≠ a_GREATER_OR_EQUAL := F_AND_ordinal.ne F_GREATER_OR_EQUAL_ordinal (by first | decide | simp)
  have n_EQUAL_NOT_EQUAL : a_EQUAL ≠ a_NOT_EQUAL := F_EQUAL_ordinal.ne F_NOT_EQUAL_ordinal (by first | decide | simp)
  have n_EQUAL_LESS : a_EQUAL ≠ a_LESS := F_EQUAL_ordinal.ne F_LESS_ordinal (by first | decide | simp)
  have n_EQUAL_LESS_OR_EQUAL : a_EQUAL ≠ a_LESS_OR_EQUAL := F_EQUAL_ordinal.ne F_LESS_OR_EQUAL_ordinal (by first | decide | simp)
  have n_EQUAL_GREATER : a_EQUAL ≠ a_GREATER := F_EQUAL_ordinal.ne F_GREATER_ordinal (by first | decide | simp)
  have n_EQUAL_GREATER_OR_EQUAL : a_EQUAL ≠ a_GREATER_OR_EQUAL := F_EQUAL_ordinal.ne F_GREATER_OR_EQUAL_ordinal (by first | decide | simp)
  have n_NOT_EQUAL_EQUAL : a_NOT_EQUAL ≠ a_EQUAL := F_NOT_EQUAL_ordinal.ne F_EQUAL_ordinal (by first | decide | simp)
  have n_NOT_EQUAL_LESS : a_NOT_EQUAL ≠ a_LESS := F_NOT_EQUAL_ordinal.ne F_LESS_ordinal (by first | decide | simp)
  have n_NOT_EQUAL_LESS_OR_EQUAL : a_NOT_EQUAL ≠ a_LESS_OR_EQUAL := F_NOT_EQUAL_ordinal.ne F_LESS_OR_EQUAL_ordinal (by first | decide | simp)
  have n_NOT_EQUAL_GREATER : a_NOT_EQUAL ≠ a_GREATER := F_NOT_EQUAL_ordinal.ne F_GREATER_ordinal (by first | decide | simp)
  have n_NOT_EQUAL_GREATER_OR_EQUAL : a_NOT_EQUAL ≠ a_GREATER_OR_EQUAL := F_NOT_EQUAL_ordinal.ne F_GREATER_OR_EQUAL_ordinal (by first | decide | simp)
  have n_LESS_EQUAL : a_LESS ≠ a_EQUAL := F_LESS_ordinal.ne F_EQUAL_ordinal (by first | decide | simp)
  have n_LESS_NOT_EQUAL : a_LESS ≠ a_NOT_EQUAL := F_LESS_ordinal.ne F_NOT_EQUAL_ordinal (by first | decide | simp)
  have n_LESS_LESS_OR_EQUAL : a_LESS ≠ a_LESS_OR_EQUAL := F_LESS_ordinal.ne F_LESS_OR_EQUAL_ordinal (by first | decide | simp)
  have n_LESS_GREATER : a_LESS ≠ a_GREATER := F_LESS_ordinal.ne F_GREATER_ordinal (by first | decide | simp)
  have n_LESS_GREATER_OR_EQUAL : a_LESS ≠ a_GREATER_OR_EQUAL := F_LESS_ordinal.ne F_GREATER_OR_EQUAL_ordinal (by first | decide | simp)
  have n_LESS_OR_EQUAL_EQUAL : a_LESS_OR_EQUAL ≠ a_EQUAL := F_LESS_OR_EQUAL_ordinal.ne F_EQUAL_ordinal (by first | decide | simp)
  have n_LESS_OR_EQUAL_NOT_EQUAL : a_LESS_OR_EQUAL ≠ a_NOT_EQUAL := F_LESS_OR_EQUAL_ordinal.ne F_NOT_EQUAL_ordinal (by first | decide | simp)
  have n_LESS_OR_EQUAL_LESS : a_LESS_OR_EQUAL ≠ a_LESS := F_LESS_OR_EQUAL_ordinal.ne F_LESS_ordinal (by first | decide | simp)
  have n_LESS_OR_EQUAL_GREATER : a_LESS_OR_EQUAL ≠ a_GREATER := F_LESS_OR_EQUAL_ordinal.ne F_GREATER_ordinal (by first | decide | simp)
  have n_LESS_OR_EQUAL_GREATER_OR_EQUAL : a_LESS_OR_EQUAL ≠ a_GREATER_OR_EQUAL := F_LESS_OR_EQUAL_ordinal.ne F_GREATER_OR_EQUAL_ordinal (by first | decide | simp)
  have n_GREATER_EQUAL : a_GREATER ≠ a_EQUAL := F_GREATER_ordinal.ne F_EQUAL_ordinal (by first | decide | simp)
  have n_GREATER_NOT_EQUAL : a_GREATER ≠ a_NOT_EQUAL := F_GREATER_ordinal.ne F_NOT_EQUAL_ordinal (by first | decide | simp)
  have n_GREATER_LESS : a_GREATER ≠ a_LESS := F_GREATER_ordinal.ne F_LESS_ordinal (by first | decide | simp)
  have n_GREATER_LESS_OR_EQUAL : a_GREATER ≠ a_LESS_OR_EQUAL := F_GREATER_ordinal.ne F_LESS_OR_EQUAL_ordinal (by first | decide | simp)
  have n_GREATER_GREATER_OR_EQUAL : a_GREATER ≠ a_GREATER_OR_EQUAL := F_GREATER_ordinal.ne F_GREATER_OR_EQUAL_ordinal (by first | decide | simp)
  have n_GREATER_OR_EQUAL_EQUAL : a_GREATER_OR_EQUAL ≠ a_EQUAL := F_GREATER_OR_EQUAL_ordinal.ne F_EQUAL_ordinal (by first | decide | simp)
  have n_GREATER_OR_EQUAL_NOT_EQUAL : a_GREATER_OR_EQUAL ≠ a_NOT_EQUAL := F_GREATER_OR_EQUAL_ordinal.ne F_NOT_EQUAL_ordinal (by first | decide | simp)
  have n_GREATER_OR_EQUAL_LESS : a_GREATER_OR_EQUAL ≠ a_LESS := F_GREATER_OR_EQUAL_ordinal.ne F_LESS_ordinal (by first | decide | simp)
  have n_GREATER_OR_EQUAL_LESS_OR_EQUAL : a_GREATER_OR_EQUAL ≠ a_LESS_OR_EQUAL := F_GREATER_OR_EQUAL_ordinal.ne F_LESS_OR_EQUAL_ordinal (by first | decide | simp)
  have n_GREATER_OR_EQUAL_GREATER : a_GREATER_OR_EQUAL ≠ a_GREATER := F_GREATER_OR_EQUAL_ordinal.ne F_GREATER_ordinal (by first | decide | simp)
  have n_ADD_EQUAL : a_ADD ≠ a_EQUAL := F_ADD_ordinal.ne F_EQUAL_ordinal (by first | decide | simp)
  have n_ADD_NOT_EQUAL : a_ADD ≠ a_NOT_EQUAL := F_ADD_ordinal.ne F_NOT_EQUAL_ordinal (by first | decide | simp)
  have n_ADD_LESS : a_ADD ≠ a_LESS := F_ADD_ordinal.ne F_LESS_ordinal (by first | decide | simp)
  have n_ADD_LESS_OR_EQUAL : a_ADD ≠ a_LESS_OR_EQUAL := F_ADD_ordinal.ne F_LESS_OR_EQUAL_ordinal (by first | decide | simp)
  have n_ADD_GREATER : a_ADD ≠ a_GREATER := F_ADD_ordinal.ne F_GREATER_ordinal (by first | decide | simp)
  have n_ADD_GREATER_OR_EQUAL : a_ADD ≠ a_GREATER_OR_EQUAL := F_ADD_ordinal.ne F_GREATER_OR_EQUAL_ordinal (by first | decide | simp)
  have n_SUBTRACT_EQUAL : a_SUBTRACT ≠ a_EQUAL := F_SUBTRACT_ordinal.ne F_EQUAL_ordinal (by first | decide | simp)
  have n_SUBTRACT_NOT_EQUAL : a_SUBTRACT ≠ a_NOT_EQUAL := F_SUBTRACT_ordinal.ne F_NOT_EQUAL_ordinal (by first | decide | simp)
  have n_SUBTRACT_LESS : a_SUBTRACT ≠ a_LESS := F_SUBTRACT_ordinal.ne F_LESS_ordinal (by first | decide | simp)
  have n_SUBTRACT_LESS_OR_EQUAL : a_SUBTRACT ≠ a_LESS_OR_EQUAL := F_SUBTRACT_ordinal.ne F_LESS_OR_EQUAL_ordinal (by first | decide | simp)
  have n_SUBTRACT_GREATER : a_SUBTRACT ≠ a_GREATER := F_SUBTRACT_ordinal.ne F_GREATER_ordinal (by first | decide | simp)
  have n_SUBTRACT_GREATER_OR_EQUAL : a_SUBTRACT ≠ a_GREATER_OR_EQUAL := F_SUBTRACT_ordinal.ne F_GREATER_OR_EQUAL_ordinal (by first | decide | simp)
  have n_MULTIPLY_EQUAL : a_MULTIPLY ≠ a_EQUAL := F_MULTIPLY_ordinal.ne F_EQUAL_ordinal (by first | decide | simp)
  have n_MULTIPLY_NOT_EQUAL : a_MULTIPLY ≠ a_NOT_EQUAL := F_MULTIPLY_ordinal.ne F_NOT_EQUAL_ordinal (by first | decide | simp)
  have n_MULTIPLY_LESS : a_MULTIPLY ≠ a_LESS := F_MULTIPLY_ordinal.ne F_LESS_ordinal (by first | decide | simp)
  have n_MULTIPLY_LESS_OR_EQUAL : a_MULTIPLY ≠ a_LESS_OR_EQUAL := F_MULTIPLY_ordinal.ne F_LESS_OR_EQUAL_ordinal (by first | decide | simp)
  have n_MULTIPLY_GREATER : a_MULTIPLY ≠ a_GREATER := F_MULTIPLY_ordinal.ne F_GREATER_ordinal (by first | decide | simp)
  have n_MULTIPLY_GREATER_OR_EQUAL : a_MULTIPLY ≠ a_GREATER_OR_EQUAL := F_MULTIPLY_ordinal.ne F_GREATER_OR_EQUAL_ordinal (by first | decide | simp)
  have n_DIVIDE_EQUAL : a_DIVIDE ≠ a_EQUAL := F_DIVIDE_ordinal.ne F_EQUAL_ordinal (by first | decide | simp)
  have n_DIVIDE_NOT_EQUAL : a_DIVIDE ≠ a_NOT_EQUAL := F_DIVIDE_ordinal.ne F_NOT_EQUAL_ordinal (by first | decide | simp)
  have n_DIVIDE_LESS : a_DIVIDE ≠ a_LESS := F_DIVIDE_ordinal.ne F_LESS_ordinal (by first | decide | simp)
  have n_DIVIDE_LESS_OR_EQUAL : a_DIVIDE ≠ a_LESS_OR_EQUAL := F_DIVIDE_ordinal.ne F_LESS_OR_EQUAL_ordinal (by first | decide | simp)
  have n_DIVIDE_GREATER : a_DIVIDE ≠ a_GREATER := F_DIVIDE_ordinal.ne F_GREATER_ordinal (by first | decide | simp)
  have n_DIVIDE_GREATER_OR_EQUAL : a_DIVIDE ≠ a_GREATER_OR_EQUAL := F_DIVIDE_ordinal.ne F_GREATER_OR_EQUAL_ordinal (by first | decide | simp)
  have n_MODULO_EQUAL : a_MODULO ≠ a_EQUAL := F_MODULO_ordinal.ne F_EQUAL_ordinal (by first | decide | simp)
  have n_MODULO_NOT_EQUAL : a_MODULO ≠ a_NOT_EQUAL := F_MODULO_ordinal.ne F_NOT_EQUAL_ordinal (by first | decide | simp)
  have n_MODULO_LESS : a_MODULO ≠ a_LESS := F_MODULO_ordinal.ne F_LESS_ordinal (by first | decide | simp)
  have n_MODULO_LESS_OR_EQUAL : a_MODULO ≠ a_LESS_OR_EQUAL := F_MODULO_ordinal.ne F_LESS_OR_EQUAL_ordinal (by first | decide | simp)
  have n_MODULO_GREATER : a_MODULO ≠ a_GREATER := F_MODULO_ordinal.ne F_GREATER_ordinal (by first | decide | simp)
  have n_MODULO_GREATER_OR_EQUAL : a_MODULO ≠ a_GREATER_OR_EQUAL := F_MODULO_ordinal.ne F_GREATER_OR_EQUAL_ordinal (by first | decide | simp)
  have n_UNION_EQUAL : a_UNION ≠ a_EQUAL := F_UNION_ordinal.ne F_EQUAL_ordinal (by first | decide | simp)
  have n_UNION_NOT_EQUAL : a_UNION ≠ a_NOT_EQUAL := F_UNION_ordinal.ne F_NOT_EQUAL_ordinal (by first | decide | simp)
  have n_UNION_LESS : a_UNION ≠ a_LESS := F_UNION_ordinal.ne F_LESS_ordinal (by first | decide | simp)
  have n_UNION_LESS_OR_EQUAL : a_UNION ≠ a_LESS_OR_EQUAL := F_UNION_ordinal.ne F_LESS_OR_EQUAL_ordinal (by first | decide | simp)
  have n_UNION_GREATER : a_UNION ≠ a_GREATER := F_UNION_ordinal.ne F_GREATER_ordinal (by first | decide | simp)
  have n_UNION_GREATER_OR_EQUAL : a_UNION ≠ a_GREATER_OR_EQUAL := F_UNION_ordinal.ne F_GREATER_OR_EQUAL_ordinal (by first | decide | simp)
  have hr1 := c_andS i0 (2147483647 : Int32)
  have hr2 := c_irem (i0 &&& (2147483647 : Int32)) (14 : Int32) 14 (by decide)
  have hr3 := hr2.1 (hr1.2.2 (by decide))
  obtain ⟨kk, hkk⟩ : ∃ z, z = ((i0 &&& (2147483647 : Int32)) % (14 : Int32)) := ⟨_, rfl⟩
  rw [← hkk] at hr3
  have hkc := own_cases kk (by omega) (by omega)
  refine own_go (S' := (s₁.setTop (mkF m 1 #[.val (.int i0), .unset, .unset, .unset] [(.int i0)]))) (fun _ k => XS.iloadN X0.here hx rfl (hb hby at_0) rfl k) ?_
  refine own_go (S' := (s₁.setTop (mkF m 3 #[.val (.int i0), .unset, .unset, .unset] [(.int (2147483647 : Int32)), (.int i0)]))) (X0.ldcInt hx hown (mvT hZ (hw _ (List.mem_of_getElem? (i := 0) rfl))) (g := (mkF m 1 #[.val (.int i0), .unset, .unset, .unset] [(.int i0)])) rfl (hb hby at_1)) ?_
  refine own_go (S' := (s₁.setTop (mkF m 7 #[.val (.int i0), .unset, .unset, .unset] [(.int ((i0 &&& (2147483647 : Int32)) % (14 : Int32)))]))) (fun _ k => XS.iand X0.here hx rfl (hb hby at_3) rfl (XS.bipush X0.here hx rfl (hb hby at_4) (iremM X0 hx (g := (mkF m 6 #[.val (.int i0), .unset, .unset, .unset] [(.int (14 : Int32)), (.int (i0 &&& (2147483647 : Int32)))])) rfl (hb hby at_6) rfl (by decide) k))) ?_
  rw [← hkk]
  refine own_go (S' := (s₁.setTop (mkF m 8 #[.val (.int i0), .val (.int kk), .unset, .unset] []))) (fun _ k => XS.istoreN X0.here hx rfl (hb hby at_7) rfl (l' := #[.val (.int i0), .val (.int kk), .unset, .unset]) rfl k) ?_
  clear hr3 hkk
  rcases hkc with rfl | rfl | rfl | rfl | rfl | rfl | rfl | rfl | rfl | rfl | rfl | rfl | rfl | rfl
  · refine own_go (S' := (s₁.setTop (mkF m 9 #[.val (.int i0), .val (.int (0 : Int32)), .unset, .unset] [(.int (0 : Int32))]))) (fun _ k => XS.iloadN X0.here hx rfl (hb hby at_8) rfl k) ?_
    obtain ⟨v1, _, ⟨T1, L1, k1, n1⟩, -, X1, ⟨Lc1, hQ1, l1, y1, z1⟩, st1⟩ := Jvm.LawKit.callS X0 hx (y := (⟨"com/example/umform/umform/model/xpath/OperatorIsComparisonPinLaw", "operatorAt", "(I)Lcom/example/umform/umform/model/xpath/Operation$Operator;"⟩ : MethodName)) hown (mvT hZ (hw _ (List.mem_of_getElem? (i := 1) rfl))) (mvT hZ (hw _ (List.mem_of_getElem? (i := 2) rfl))) (mvT hZ (hw _ (List.mem_of_getElem? (i := 3) rfl))) (mvT hZ (hw _ (List.mem_of_getElem? (i := 4) rfl))) (by decide) (backOf (W := 0) (rm1 l Z a0 hw [] (0 : Int32) a_OR a_AND a_EQUAL a_NOT_EQUAL a_LESS a_LESS_OR_EQUAL a_GREATER a_GREATER_OR_EQUAL a_ADD a_SUBTRACT a_MULTIPLY a_DIVIDE a_MODULO a_UNION h0 n0 Z0 S_OR S_EQUAL S_NOT_EQUAL S_LESS S_LESS_OR_EQUAL S_GREATER S_GREATER_OR_EQUAL S_MODULO S_UNION S_DIVIDE S_MULTIPLY S_ADD S_AND S_SUBTRACT) hZ (hw _ (List.mem_of_getElem? (i := 4) rfl)) (hw _ (List.mem_of_getElem? (i := 3) rfl)) (by decide) (by decide)) (g := (mkF m 9 #[.val (.int i0), .val (.int (0 : Int32)), .unset, .unset] [(.int (0 : Int32))])) rfl (by rw [hml]; rfl) (argsL := [(.int (0 : Int32))]) (rest := []) (lenOf pd_90 rfl) rfl (by show 2 * 0 + _ ≤ _; exact Nat.le_of_eq rfl) (hb hby at_9) (fun _ _ => ⟨rfl, e0, (by decide : 0 + 0 ≤ _), (by decide : 0 + 0 ≤ _)⟩)
    dsimp only [Pt.U, Pt.locs, Pt.cells, Pt.slots] at X1 l1 y1 z1 st1 hQ1
    subst l1 y1 z1
    obtain ⟨hv1, eh1, rfl⟩ := hQ1
    rw [show own_pk (0 : Int32) a_OR a_AND a_EQUAL a_NOT_EQUAL a_LESS a_LESS_OR_EQUAL a_GREATER a_GREATER_OR_EQUAL a_ADD a_SUBTRACT a_MULTIPLY a_DIVIDE a_MODULO a_UNION = a_OR from by first | rfl | (simp [own_pk]; done) | decide] at hv1
    subst hv1
    refine own_go (S' := (T1.setTop (mkF m 12 #[.val (.int i0), .val (.int (0 : Int32)), .unset, .unset] [(.ref a_OR)]))) st1 ?_
    refine own_go (S' := (T1.setTop (mkF m 31 #[.val (.int i0), .val (.int (0 : Int32)), .val (.ref a_OR), .val (.int (0 : Int32))] [(.ref a_OR)]))) (fun _ k => XS.astoreN X1.here hx rfl (hb hby at_12) rfl rfl (l' := #[.val (.int i0), .val (.int (0 : Int32)), .val (.ref a_OR), .unset]) rfl (XS.iloadN X1.here hx rfl (hb hby at_13) rfl (XS.iconst X1.here hx rfl (hb hby at_14) (XS.icmpYes X1.here hx rfl (pc0 := 15) (pc' := 28) rfl (hb hby at_15) rfl (tlt (by decide)).1 (by decide) (by decide) (XS.iconst X1.here hx rfl (hb hby at_28) (XS.istoreN X1.here hx rfl (hb hby at_29) rfl (l' := #[.val (.int i0), .val (.int (0 : Int32)), .val (.ref a_OR), .val (.int (0 : Int32))]) rfl (XS.aloadN X1.here hx rfl (hb hby at_30) rfl rfl k))))))) ?_
    obtain ⟨cq2, kq2, q2a, q2b, q2c⟩ := isOf hZ eh1 E_OR
    obtain ⟨v2, _, ⟨T2, L2, k2, n2⟩, -, X2, ⟨Lc2, hQ2, l2, y2, z2⟩, st2⟩ := X1.virtualBack hx (y := (⟨"com/example/umform/umform/model/xpath/Operation$Operator", "isComparison", "()Z"⟩ : MethodName)) (z := (⟨"com/example/umform/umform/model/xpath/Operation$Operator", "isComparison", "()Z"⟩ : MethodName)) hown (mvT hZ (hw _ (List.mem_of_getElem? (i := 8) rfl))) (mvT hZ (hw _ (List.mem_of_getElem? (i := 9) rfl))) (notFace_of_selects (args := #[]) (mvT hZ (hw _ (List.mem_of_getElem? (i := 11) rfl)))) (mvT hZ (hw _ (List.mem_of_getElem? (i := 11) rfl))) (mvT hZ (hw _ (List.mem_of_getElem? (i := 10) rfl))) (by decide) (backOf (W := 0) (rm2 l Z a0 hw [] a_OR a_EQUAL a_NOT_EQUAL a_LESS a_LESS_OR_EQUAL a_GREATER a_GREATER_OR_EQUAL h0 n0 Z0 S_EQUAL S_NOT_EQUAL S_LESS S_LESS_OR_EQUAL S_GREATER S_GREATER_OR_EQUAL) hZ (hw _ (List.mem_of_getElem? (i := 12) rfl)) (hw _ (List.mem_of_getElem? (i := 6) rfl)) (by decide) (by decide)) q2a q2c (g := (mkF m 31 #[.val (.int i0), .val (.int (0 : Int32)), .val (.ref a_OR), .val (.int (0 : Int32))] [(.ref a_OR)])) rfl (by rw [hml]; rfl) (Steps.refl _) (argsL := []) (rest := []) (lenOf pd_91 rfl) rfl (by show 2 * 0 + _ ≤ _; exact Nat.le_of_eq rfl) (hb hby at_31) (fun _ _ => ⟨rfl, eh1, (by decide : 0 + 0 ≤ _), (by decide : 0 + 0 ≤ _)⟩)
    dsimp only [Pt.U, Pt.locs, Pt.cells, Pt.slots] at X2 l2 y2 z2 st2 hQ2
    subst l2 y2 z2
    obtain ⟨rfl, eh2, rfl⟩ := hQ2
    refine own_goT (S' := (T2.setTop (mkF m 34 #[.val (.int i0), .val (.int (0 : Int32)), .val (.ref a_OR), .val (.int (0 : Int32))] [(.int (own_in a_OR a_EQUAL a_NOT_EQUAL a_LESS a_LESS_OR_EQUAL a_GREATER a_GREATER_OR_EQUAL))]))) st2 ?_
    refine own_go (S' := (T2.setTop (mkF m 43 #[.val (.int i0), .val (.int (0 : Int32)), .val (.ref a_OR), .val (.int (0 : Int32))] [(.int (1 : Int32))]))) (fun _ k => XS.iloadN X2.here hx rfl (hb hby at_34) rfl (XS.icmpNo X2.here hx rfl (hb hby at_35) rfl (teq (by simp [own_in, n_OR_EQUAL, n_OR_NOT_EQUAL, n_OR_LESS, n_OR_LESS_OR_EQUAL, n_OR_GREATER, n_OR_GREATER_OR_EQUAL])).2 (XS.iconst X2.here hx rfl (hb hby at_38) (XS.goto X2.here hx rfl (pc0 := 39) (pc' := 43) rfl (hb hby at_39) (by decide) (by decide) k)))) ?_
    refine own_retN (t := .boolean) X2 hx hlk (by simp) Bd.returns (hb hby at_43) (by decide) (by decide) ?_
    exact ⟨rfl, by simpa using N0⟩
  · refine own_go (S' := (s₁.setTop (mkF m 9 #[.val (.int i0), .val (.int (1 : Int32)), .unset, .unset] [(.int (1 : Int32))]))) (fun _ k => XS.iloadN X0.here hx rfl (hb hby at_8) rfl k) ?_
    obtain ⟨v3, _, ⟨T3, L3, k3, n3⟩, -, X3, ⟨Lc3, hQ3, l3, y3, z3⟩, st3⟩ := Jvm.LawKit.callS X0 hx (y := (⟨"com/example/umform/umform/model/xpath/OperatorIsComparisonPinLaw", "operatorAt", "(I)Lcom/example/umform/umform/model/xpath/Operation$Operator;"⟩ : MethodName)) hown (mvT hZ (hw _ (List.mem_of_getElem? (i := 1) rfl))) (mvT hZ (hw _ (List.mem_of_getElem? (i := 2) rfl))) (mvT hZ (hw _ (List.mem_of_getElem? (i := 3) rfl))) (mvT hZ (hw _ (List.mem_of_getElem? (i := 4) rfl))) (by decide) (backOf (W := 0) (rm1 l Z a0 hw [] (1 : Int32) a_OR a_AND a_EQUAL a_NOT_EQUAL a_LESS a_LESS_OR_EQUAL a_GREATER a_GREATER_OR_EQUAL a_ADD a_SUBTRACT a_MULTIPLY a_DIVIDE a_MODULO a_UNION h0 n0 Z0 S_OR S_EQUAL S_NOT_EQUAL S_LESS S_LESS_OR_EQUAL S_GREATER S_GREATER_OR_EQUAL S_MODULO S_UNION S_DIVIDE S_MULTIPLY S_ADD S_AND S_SUBTRACT) hZ (hw _ (List.mem_of_getElem? (i := 4) rfl)) (hw _ (List.mem_of_getElem? (i := 3) rfl)) (by decide) (by decide)) (g := (mkF m 9 #[.val (.int i0), .val (.int (1 : Int32)), .unset, .unset] [(.int (1 : Int32))])) rfl (by rw [hml]; rfl) (argsL := [(.int (1 : Int32))]) (rest := []) (lenOf pd_90 rfl) rfl (by show 2 * 0 + _ ≤ _; exact Nat.le_of_eq rfl) (hb hby at_9) (fun _ _ => ⟨rfl, e0, (by decide : 0 + 0 ≤ _), (by decide : 0 + 0 ≤ _)⟩)
    dsimp only [Pt.U, Pt.locs, Pt.cells, Pt.slots] at X3 l3 y3 z3 st3 hQ3
    subst l3 y3 z3
    obtain ⟨hv3, eh3, rfl⟩ := hQ3
    rw [show own_pk (1 : Int32) a_OR a_AND a_EQUAL a_NOT_EQUAL a_LESS a_LESS_OR_EQUAL a_GREATER a_GREATER_OR_EQUAL a_ADD a_SUBTRACT a_MULTIPLY a_DIVIDE a_MODULO a_UNION = a_AND from by first | rfl | (simp [own_pk]; done) | decide] at hv3
    subst hv3
    refine own_go (S' := (T3.setTop (mkF m 12 #[.val (.int i0), .val (.int (1 : Int32)), .unset, .unset] [(.ref a_AND)]))) st3 ?_
    refine own_go (S' := (T3.setTop (mkF m 31 #[.val (.int i0), .val (.int (1 : Int32)), .val (.ref a_AND), .val (.int (0 : Int32))] [(.ref a_AND)]))) (fun _ k => XS.astoreN X3.here hx rfl (hb hby at_12) rfl rfl (l' := #[.val (.int i0), .val (.int (1 : Int32)), .val (.ref a_AND), .unset]) rfl (XS.iloadN X3.here hx rfl (hb hby at_13) rfl (XS.iconst X3.here hx rfl (hb hby at_14) (XS.icmpYes X3.here hx rfl (pc0 := 15) (pc' := 28) rfl (hb hby at_15) rfl (tlt (by decide)).1 (by decide) (by decide) (XS.iconst X3.here hx rfl (hb hby at_28) (XS.istoreN X3.here hx rfl (hb hby at_29) rfl (l' := #[.val (.int i0), .val (.int (1 : Int32)), .val (.ref a_AND), .val (.int (0 : Int32))]) rfl (XS.aloadN X3.here hx rfl (hb hby at_30) rfl rfl k))))))) ?_
    obtain ⟨cq4, kq4, q4a, q4b, q4c⟩ := isOf hZ eh3 E_AND
    obtain ⟨v4, _, ⟨T4, L4, k4, n4⟩, -, X4, ⟨Lc4, hQ4, l4, y4, z4⟩, st4⟩ := X3.virtualBack hx (y := (⟨"com/example/umform/umform/model/xpath/Operation$Operator", "isComparison", "()Z"⟩ : MethodName)) (z := (⟨"com/example/umform/umform/model/xpath/Operation$Operator", "isComparison", "()Z"⟩ : MethodName)) hown (mvT hZ (hw _ (List.mem_of_getElem? (i := 8) rfl))) (mvT hZ (hw _ (List.mem_of_getElem? (i := 9) rfl))) (notFace_of_selects (args := #[]) (mvT hZ (hw _ (List.mem_of_getElem? (i := 11) rfl)))) (mvT hZ (hw _ (List.mem_of_getElem? (i := 11) rfl))) (mvT hZ (hw _ (List.mem_of_getElem? (i := 10) rfl))) (by decide) (backOf (W := 0) (rm2 l Z a0 hw [] a_AND a_EQUAL a_NOT_EQUAL a_LESS a_LESS_OR_EQUAL a_GREATER a_GREATER_OR_EQUAL h0 n0 Z0 S_EQUAL S_NOT_EQUAL S_LESS S_LESS_OR_EQUAL S_GREATER S_GREATER_OR_EQUAL) hZ (hw _ (List.mem_of_getElem? (i := 12) rfl)) (hw _ (List.mem_of_getElem? (i := 6) rfl)) (by decide) (by decide)) q4a q4c (g := (mkF m 31 #[.val (.int i0), .val (.int (1 : Int32)), .val (.ref a_AND), .val (.int (0 : Int32))] [(.ref a_AND)])) rfl (by rw [hml]; rfl) (Steps.refl _) (argsL := []) (rest := []) (lenOf pd_91 rfl) rfl (by show 2 * 0 + _ ≤ _; exact Nat.le_of_eq rfl) (hb hby at_31) (fun _ _ => ⟨rfl, eh3, (by decide : 0 + 0 ≤ _), (by decide : 0 + 0 ≤ _)⟩)
    dsimp only [Pt.U, Pt.locs, Pt.cells, Pt.slots] at X4 l4 y4 z4 st4 hQ4
    subst l4 y4 z4
    obtain ⟨rfl, eh4, rfl⟩ := hQ4
    refine own_goT (S' := (T4.setTop (mkF m 34 #[.val (.int i0), .val (.int (1 : Int32)), .val (.ref a_AND), .val (.int (0 : Int32))] [(.int (own_in a_AND a_EQUAL a_NOT_EQUAL a_LESS a_LESS_OR_EQUAL a_GREATER a_GREATER_OR_EQUAL))]))) st4 ?_
    refine own_go (S' := (T4.setTop (mkF m 43 #[.val (.int i0), .val (.int (1 : Int32)), .val (.ref a_AND), .val (.int (0 : Int32))] [(.int (1 : Int32))]))) (fun _ k => XS.iloadN X4.here hx rfl (hb hby at_34) rfl (XS.icmpNo X4.here hx rfl (hb hby at_35) rfl (teq (by simp [own_in, n_AND_EQUAL, n_AND_NOT_EQUAL, n_AND_LESS, n_AND_LESS_OR_EQUAL, n_AND_GREATER, n_AND_GREATER_OR_EQUAL])).2 (XS.iconst X4.here hx rfl (hb hby at_38) (XS.goto X4.here hx rfl (pc0 := 39) (pc' := 43) rfl (hb hby at_39) (by decide) (by decide) k)))) ?_
    refine own_retN (t := .boolean) X4 hx hlk (by simp) Bd.returns (hb hby at_43) (by decide) (by decide) ?_
    exact ⟨rfl, by simpa using N0⟩
  · refine own_go (S' := (s₁.setTop (mkF m 9 #[.val (.int i0), .val (.int (2 : Int32)), .unset, .unset] [(.int (2 : Int32))]))) (fun _ k => XS.iloadN X0.here hx rfl (hb hby at_8) rfl k) ?_
    obtain ⟨v5, _, ⟨T5, L5, k5, n5⟩, -, X5, ⟨Lc5, hQ5, l5, y5, z5⟩, st5⟩ := Jvm.LawKit.callS X0 hx (y := (⟨"com/example/umform/umform/model/xpath/OperatorIsComparisonPinLaw", "operatorAt", "(I)Lcom/example/umform/umform/model/xpath/Operation$Operator;"⟩ : MethodName)) hown (mvT hZ (hw _ (List.mem_of_getElem? (i := 1) rfl))) (mvT hZ (hw _ (List.mem_of_getElem? (i := 2) rfl))) (mvT hZ (hw _ (List.mem_of_getElem? (i := 3) rfl))) (mvT hZ (hw _ (List.mem_of_getElem? (i := 4) rfl))) (by decide) (backOf (W := 0) (rm1 l Z a0 hw [] (2 : Int32) a_OR a_AND a_EQUAL a_NOT_EQUAL a_LESS a_LESS_OR_EQUAL a_GREATER a_GREATER_OR_EQUAL a_ADD a_SUBTRACT a_MULTIPLY a_DIVIDE a_MODULO a_UNION h0 n0 Z0 S_OR S_EQUAL S_NOT_EQUAL S_LESS S_LESS_OR_EQUAL S_GREATER S_GREATER_OR_EQUAL S_MODULO S_UNION S_DIVIDE S_MULTIPLY S_ADD S_AND S_SUBTRACT) hZ (hw _ (List.mem_of_getElem? (i := 4) rfl)) (hw _ (List.mem_of_getElem? (i := 3) rfl)) (by decide) (by decide)) (g := (mkF m 9 #[.val (.int i0), .val (.int (2 : Int32)), .unset, .unset] [(.int (2 : Int32))])) rfl (by rw [hml]; rfl) (argsL := [(.int (2 : Int32))]) (rest := []) (lenOf pd_90 rfl) rfl (by show 2 * 0 + _ ≤ _; exact Nat.le_of_eq rfl) (hb hby at_9) (fun _ _ => ⟨rfl, e0, (by decide : 0 + 0 ≤ _), (by decide : 0 + 0 ≤ _)⟩)
    dsimp only [Pt.U, Pt.locs, Pt.cells, Pt.slots] at X5 l5 y5 z5 st5 hQ5
    subst l5 y5 z5
    obtain ⟨hv5, eh5, rfl⟩ := hQ5
    rw [show own_pk (2 : Int32) a_OR a_AND a_EQUAL a_NOT_EQUAL a_LESS a_LESS_OR_EQUAL a_GREATER a_GREATER_OR_EQUAL a_ADD a_SUBTRACT a_MULTIPLY a_DIVIDE a_MODULO a_UNION = a_EQUAL from by first | rfl | (simp [own_pk]; done) | decide] at hv5
    subst hv5
    refine own_go (S' := (T5.setTop (mkF m 12 #[.val (.int i0), .val (.int (2 : Int32)), .unset, .unset] [(.ref a_EQUAL)]))) st5 ?_
    refine own_go (S' := (T5.setTop (mkF m 25 #[.val (.int i0), .val (.int (2 : Int32)), .val (.ref a_EQUAL), .unset] [(.int (1 : Int32))]))) (fun _ k => XS.astoreN X5.here hx rfl (hb hby at_12) rfl rfl (l' := #[.val (.int i0), .val (.int (2 : Int32)), .val (.ref a_EQUAL), .unset]) rfl (XS.iloadN X5.here hx rfl (hb hby at_13) rfl (XS.iconst X5.here hx rfl (hb hby at_14) (XS.icmpNo X5.here hx rfl (hb hby at_15) rfl (flt (by decide)).1 (XS.iloadN X5.here hx rfl (hb hby at_18) rfl (XS.bipush X5.here hx rfl (hb hby at_19) (XS.icmpNo X5.here hx rfl (hb hby at_21) rfl (flt (by decide)).2.2.1 (XS.iconst X5.here hx rfl (hb hby at_24) k)))))))) ?_
    refine own_go (S' := (T5.setTop (mkF m 31 #[.val (.int i0), .val (.int (2 : Int32)), .val (.ref a_EQUAL), .val (.int (1 : Int32))] [(.ref a_EQUAL)]))) (fun _ k => XS.goto X5.here hx rfl (pc0 := 25) (pc' := 29) rfl (hb hby at_25) (by decide) (by decide) (XS.istoreN X5.here hx rfl (hb hby at_29) rfl (l' := #[.val (.int i0), .val (.int (2 : Int32)), .val (.ref a_EQUAL), .val (.int (1 : Int32))]) rfl (XS.aloadN X5.here hx rfl (hb hby at_30) rfl rfl k))) ?_
    obtain ⟨cq6, kq6, q6a, q6b, q6c⟩ := isOf hZ eh5 E_EQUAL
    obtain ⟨v6, _, ⟨T6, L6, k6, n6⟩, -, X6, ⟨Lc6, hQ6, l6, y6, z6⟩, st6⟩ := X5.virtualBack hx (y := (⟨"com/example/umform/umform/model/xpath/Operation$Operator", "isComparison", "()Z"⟩ : MethodName)) (z := (⟨"com/example/umform/umform/model/xpath/Operation$Operator", "isComparison", "()Z"⟩ : MethodName)) hown (mvT hZ (hw _ (List.mem_of_getElem? (i := 8) rfl))) (mvT hZ (hw _ (List.mem_of_getElem? (i := 9) rfl))) (notFace_of_selects (args := #[]) (mvT hZ (hw _ (List.mem_of_getElem? (i := 11) rfl)))) (mvT hZ (hw _ (List.mem_of_getElem? (i := 11) rfl))) (mvT hZ (hw _ (List.mem_of_getElem? (i := 10) rfl))) (by decide) (backOf (W := 0) (rm2 l Z a0 hw [] a_EQUAL a_EQUAL a_NOT_EQUAL a_LESS a_LESS_OR_EQUAL a_GREATER a_GREATER_OR_EQUAL h0 n0 Z0 S_EQUAL S_NOT_EQUAL S_LESS S_LESS_OR_EQUAL S_GREATER S_GREATER_OR_EQUAL) hZ (hw _ (List.mem_of_getElem? (i := 12) rfl)) (hw _ (List.mem_of_getElem? (i := 6) rfl)) (by decide) (by decide)) q6a q6c (g := (mkF m 31 #[.val (.int i0), .val (.int (2 : Int32)), .val (.ref a_EQUAL), .val (.int (1 : Int32))] [(.ref a_EQUAL)])) rfl (by rw [hml]; rfl) (Steps.refl _) (argsL := []) (rest := []) (lenOf pd_91 rfl) rfl (by show 2 * 0 + _ ≤ _; exact Nat.le_of_eq rfl) (hb hby at_31) (fun _ _ => ⟨rfl, eh5, (by decide : 0 + 0 ≤ _), (by decide : 0 + 0 ≤ _)⟩)
    dsimp only [Pt.U, Pt.locs, Pt.cells, Pt.slots] at X6 l6 y6 z6 st6 hQ6
    subst l6 y6 z6
    obtain ⟨rfl, eh6, rfl⟩ := hQ6
    refine own_goT (S' := (T6.setTop (mkF m 34 #[.val (.int i0), .val (.int (2 : Int32)), .val (.ref a_EQUAL), .val (.int (1 : Int32))] [(.int (own_in a_EQUAL a_EQUAL a_NOT_EQUAL a_LESS a_LESS_OR_EQUAL a_GREATER a_GREATER_OR_EQUAL))]))) st6 ?_
    refine own_go (S' := (T6.setTop (mkF m 43 #[.val (.int i0), .val (.int (2 : Int32)), .val (.ref a_EQUAL), .val (.int (1 : Int32))] [(.int (1 : Int32))]))) (fun _ k => XS.iloadN X6.here hx rfl (hb hby at_34) rfl (XS.icmpNo X6.here hx rfl (hb hby at_35) rfl (teq (by simp [own_in, n_EQUAL_NOT_EQUAL, n_EQUAL_LESS, n_EQUAL_LESS_OR_EQUAL, n_EQUAL_GREATER, n_EQUAL_GREATER_OR_EQUAL])).2 (XS.iconst X6.here hx rfl (hb hby at_38) (XS.goto X6.here hx rfl (pc0 := 39) (pc' := 43) rfl (hb hby at_39) (by decide) (by decide) k)))) ?_
    refine own_retN (t := .boolean) X6 hx hlk (by simp) Bd.returns (hb hby at_43) (by decide) (by decide) ?_
    exact ⟨rfl, by simpa using N0⟩
  · refine own_go (S' := (s₁.setTop (mkF m 9 #[.val (.int i0), .val (.int (3 : Int32)), .unset, .unset] [(.int (3 : Int32))]))) (fun _ k => XS.iloadN X0.here hx rfl (hb hby at_8) rfl k) ?_
    obtain ⟨v7, _, ⟨T7, L7, k7, n7⟩, -, X7, ⟨Lc7, hQ7, l7, y7, z7⟩, st7⟩ := Jvm.LawKit.callS X0 hx (y := (⟨"com/example/umform/umform/model/xpath/OperatorIsComparisonPinLaw", "operatorAt", "(I)Lcom/example/umform/umform/model/xpath/Operation$Operator;"⟩ : MethodName)) hown (mvT hZ (hw _ (List.mem_of_getElem? (i := 1) rfl))) (mvT hZ (hw _ (List.mem_of_getElem? (i := 2) rfl))) (mvT hZ (hw _ (List.mem_of_getElem? (i := 3) rfl))) (mvT hZ (hw _ (List.mem_of_getElem? (i := 4) rfl))) (by decide) (backOf (W := 0) (rm1 l Z a0 hw [] (3 : Int32) a_OR a_AND a_EQUAL a_NOT_EQUAL a_LESS a_LESS_OR_EQUAL a_GREATER a_GREATER_OR_EQUAL a_ADD a_SUBTRACT a_MULTIPLY a_DIVIDE a_MODULO a_UNION h0 n0 Z0 S_OR S_EQUAL S_NOT_EQUAL S_LESS S_LESS_OR_EQUAL S_GREATER S_GREATER_OR_EQUAL S_MODULO S_UNION S_DIVIDE S_MULTIPLY S_ADD S_AND S_SUBTRACT) hZ (hw _ (List.mem_of_getElem? (i := 4) rfl)) (hw _ (List.mem_of_getElem? (i := 3) rfl)) (by decide) (by decide)) (g := (mkF m 9 #[.val (.int i0), .val (.int (3 : Int32)), .unset, .unset] [(.int (3 : Int32))])) rfl (by rw [hml]; rfl) (argsL := [(.int (3 : Int32))]) (rest := []) (lenOf pd_90 rfl) rfl (by show 2 * 0 + _ ≤ _; exact Nat.le_of_eq rfl) (hb hby at_9) (fun _ _ => ⟨rfl, e0, (by decide : 0 + 0 ≤ _), (by decide : 0 + 0 ≤ _)⟩)
    dsimp only [Pt.U, Pt.locs, Pt.cells, Pt.slots] at X7 l7 y7 z7 st7 hQ7
    subst l7 y7 z7
    obtain ⟨hv7, eh7, rfl⟩ := hQ7
    rw [show own_pk (3 : Int32) a_OR a_AND a_EQUAL a_NOT_EQUAL a_LESS a_LESS_OR_EQUAL a_GREATER a_GREATER_OR_EQUAL a_ADD a_SUBTRACT a_MULTIPLY a_DIVIDE a_MODULO a_UNION = a_NOT_EQUAL from by first | rfl | (simp [own_pk]; done) | decide] at hv7
    subst hv7
    refine own_go (S' := (T7.setTop (mkF m 12 #[.val (.int i0), .val (.int (3 : Int32)), .unset, .unset] [(.ref a_NOT_EQUAL)]))) st7 ?_
    refine own_go (S' := (T7.setTop (mkF m 25 #[.val (.int i0), .val (.int (3 : Int32)), .val (.ref a_NOT_EQUAL), .unset] [(.int (1 : Int32))]))) (fun _ k => XS.astoreN X7.here hx rfl (hb hby at_12) rfl rfl (l' := #[.val (.int i0), .val (.int (3 : Int32)), .val (.ref a_NOT_EQUAL), .unset]) rfl (XS.iloadN X7.here hx rfl (hb hby at_13) rfl (XS.iconst X7.here hx rfl (hb hby at_14) (XS.icmpNo X7.here hx rfl (hb hby at_15) rfl (flt (by decide)).1 (XS.iloadN X7.here hx rfl (hb hby at_18) rfl (XS.bipush X7.here hx rfl (hb hby at_19) (XS.icmpNo X7.here hx rfl (hb hby at_21) rfl (flt (by decide)).2.2.1 (XS.iconst X7.here hx rfl (hb hby at_24) k)))))))) ?_
    refine own_go (S' := (T7.setTop (mkF m 31 #[.val (.int i0), .val (.int (3 : Int32)), .val (.ref a_NOT_EQUAL), .val (.int (1 : Int32))] [(.ref a_NOT_EQUAL)]))) (fun _ k => XS.goto X7.here hx rfl (pc0 := 25) (pc' := 29) rfl (hb hby at_25) (by decide) (by decide) (XS.istoreN X7.here hx rfl (hb hby at_29) rfl (l' := #[.val (.int i0), .val (.int (3 : Int32)), .val (.ref a_NOT_EQUAL), .val (.int (1 : Int32))]) rfl (XS.aloadN X7.here hx rfl (hb hby at_30) rfl rfl k))) ?_
    obtain ⟨cq8, kq8, q8a, q8b, q8c⟩ := isOf hZ eh7 E_NOT_EQUAL
    obtain ⟨v8, _, ⟨T8, L8, k8, n8⟩, -, X8, ⟨Lc8, hQ8, l8, y8, z8⟩, st8⟩ := X7.virtualBack hx (y := (⟨"com/example/umform/umform/model/xpath/Operation$Operator", "isComparison", "()Z"⟩ : MethodName)) (z := (⟨"com/example/umform/umform/model/xpath/Operation$Operator", "isComparison", "()Z"⟩ : MethodName)) hown (mvT hZ (hw _ (List.mem_of_getElem? (i := 8) rfl))) (mvT hZ (hw _ (List.mem_of_getElem? (i := 9) rfl))) (notFace_of_selects (args := #[]) (mvT hZ (hw _ (List.mem_of_getElem? (i := 11) rfl)))) (mvT hZ (hw _ (List.mem_of_getElem? (i := 11) rfl))) (mvT hZ (hw _ (List.mem_of_getElem? (i := 10) rfl))) (by decide) (backOf (W := 0) (rm2 l Z a0 hw [] a_NOT_EQUAL a_EQUAL a_NOT_EQUAL a_LESS a_LESS_OR_EQUAL a_GREATER a_GREATER_OR_EQUAL h0 n0 Z0 S_EQUAL S_NOT_EQUAL S_LESS S_LESS_OR_EQUAL S_GREATER S_GREATER_OR_EQUAL) hZ (hw _ (List.mem_of_getElem? (i := 12) rfl)) (hw _ (List.mem_of_getElem? (i := 6) rfl)) (by decide) (by decide)) q8a q8c (g := (mkF m 31 #[.val (.int i0), .val (.int (3 : Int32)), .val (.ref a_NOT_EQUAL), .val (.int (1 : Int32))] [(.ref a_NOT_EQUAL)])) rfl (by rw [hml]; rfl) (Steps.refl _) (argsL := []) (rest := []) (lenOf pd_91 rfl) rfl (by show 2 * 0 + _ ≤ _; exact Nat.le_of_eq rfl) (hb hby at_31) (fun _ _ => ⟨rfl, eh7, (by decide : 0 + 0 ≤ _), (by decide : 0 + 0 ≤ _)⟩)
    dsimp only [Pt.U, Pt.locs, Pt.cells, Pt.slots] at X8 l8 y8 z8 st8 hQ8
    subst l8 y8 z8
    obtain ⟨rfl, eh8, rfl⟩ := hQ8
    refine own_goT (S' := (T8.setTop (mkF m 34 #[.val (.int i0), .val (.int (3 : Int32)), .val (.ref a_NOT_EQUAL), .val (.int (1 : Int32))] [(.int (own_in a_NOT_EQUAL a_EQUAL a_NOT_EQUAL a_LESS a_LESS_OR_EQUAL a_GREATER a_GREATER_OR_EQUAL))]))) st8 ?_
    refine own_go (S' := (T8.setTop (mkF m 43 #[.val (.int i0), .val (.int (3 : Int32)), .val (.ref a_NOT_EQUAL), .val (.int (1 : Int32))] [(.int (1 : Int32))]))) (fun _ k => XS.iloadN X8.here hx rfl (hb hby at_34) rfl (XS.icmpNo X8.here hx rfl (hb hby at_35) rfl (teq (by simp [own_in, n_NOT_EQUAL_EQUAL, n_NOT_EQUAL_LESS, n_NOT_EQUAL_LESS_OR_EQUAL, n_NOT_EQUAL_GREATER, n_NOT_EQUAL_GREATER_OR_EQUAL])).2 (XS.iconst X8.here hx rfl (hb hby at_38) (XS.goto X8.here hx rfl (pc0 := 39) (pc' := 43) rfl (hb hby at_39) (by decide) (by decide) k)))) ?_
    refine own_retN (t := .boolean) X8 hx hlk (by simp) Bd.returns (hb hby at_43) (by decide) (by decide) ?_
    exact ⟨rfl, by simpa using N0⟩
  · refine own_go (S' := (s₁.setTop (mkF m 9 #[.val (.int i0), .val (.int (4 : Int32)), .unset, .unset] [(.int (4 : Int32))]))) (fun _ k => XS.iloadN X0.here hx rfl (hb hby at_8) rfl k) ?_
    obtain ⟨v9, _, ⟨T9, L9, k9, n9⟩, -, X9, ⟨Lc9, hQ9, l9, y9, z9⟩, st9⟩ := Jvm.LawKit.callS X0 hx (y := (⟨"com/example/umform/umform/model/xpath/OperatorIsComparisonPinLaw", "operatorAt", "(I)Lcom/example/umform/umform/model/xpath/Operation$Operator;"⟩ : MethodName)) hown (mvT hZ (hw _ (List.mem_of_getElem? (i := 1) rfl))) (mvT hZ (hw _ (List.mem_of_getElem? (i := 2) rfl))) (mvT hZ (hw _ (List.mem_of_getElem? (i := 3) rfl))) (mvT hZ (hw _ (List.mem_of_getElem? (i := 4) rfl))) (by decide) (backOf (W := 0) (rm1 l Z a0 hw [] (4 : Int32) a_OR a_AND a_EQUAL a_NOT_EQUAL a_LESS a_LESS_OR_EQUAL a_GREATER a_GREATER_OR_EQUAL a_ADD a_SUBTRACT a_MULTIPLY a_DIVIDE a_MODULO a_UNION h0 n0 Z0 S_OR S_EQUAL S_NOT_EQUAL S_LESS S_LESS_OR_EQUAL S_GREATER S_GREATER_OR_EQUAL S_MODULO S_UNION S_DIVIDE S_MULTIPLY S_ADD S_AND S_SUBTRACT) hZ (hw _ (List.mem_of_getElem? (i := 4) rfl)) (hw _ (List.mem_of_getElem? (i := 3) rfl)) (by decide) (by decide)) (g := (mkF m 9 #[.val (.int i0), .val (.int (4 : Int32)), .unset, .unset] [(.int (4 : Int32))])) rfl (by rw [hml]; rfl) (argsL := [(.int (4 : Int32))]) (rest := []) (lenOf pd_90 rfl) rfl (by show 2 * 0 + _ ≤ _; exact Nat.le_of_eq rfl) (hb hby at_9) (fun _ _ => ⟨rfl, e0, (by decide : 0 + 0 ≤ _), (by decide : 0 + 0 ≤ _)⟩)
    dsimp only [Pt.U, Pt.locs, Pt.cells, Pt.slots] at X9 l9 y9 z9 st9 hQ9
    subst l9 y9 z9
    obtain ⟨hv9, eh9, rfl⟩ := hQ9
    rw [show own_pk (4 : Int32) a_OR a_AND a_EQUAL a_NOT_EQUAL a_LESS a_LESS_OR_EQUAL a_GREATER a_GREATER_OR_EQUAL a_ADD a_SUBTRACT a_MULTIPLY a_DIVIDE a_MODULO a_UNION = a_LESS from by first | rfl | (simp [own_pk]; done) | decide] at hv9
    subst hv9
    refine own_go (S' := (T9.setTop (mkF m 12 #[.val (.int i0), .val (.int (4 : Int32)), .unset, .unset] [(.ref a_LESS)]))) st9 ?_
    refine own_go (S' := (T9.setTop (mkF m 25 #[.val (.int i0), .val (.int (4 : Int32)), .val (.ref a_LESS), .unset] [(.int (1 : Int32))]))) (fun _ k => XS.astoreN X9.here hx rfl (hb hby at_12) rfl rfl (l' := #[.val (.int i0), .val (.int (4 : Int32)), .val (.ref a_LESS), .unset]) rfl (XS.iloadN X9.here hx rfl (hb hby at_13) rfl (XS.iconst X9.here hx rfl (hb hby at_14) (XS.icmpNo X9.here hx rfl (hb hby at_15) rfl (flt (by decide)).1 (XS.iloadN X9.here hx rfl (hb hby at_18) rfl (XS.bipush X9.here hx rfl (hb hby at_19) (XS.icmpNo X9.here hx rfl (hb hby at_21) rfl (flt (by decide)).2.2.1 (XS.iconst X9.here hx rfl (hb hby at_24) k)))))))) ?_
    refine own_go (S' := (T9.setTop (mkF m 31 #[.val (.int i0), .val (.int (4 : Int32)), .val (.ref a_LESS), .val (.int (1 : Int32))] [(.ref a_LESS)]))) (fun _ k => XS.goto X9.here hx rfl (pc0 := 25) (pc' := 29) rfl (hb hby at_25) (by decide) (by decide) (XS.istoreN X9.here hx rfl (hb hby at_29) rfl (l' := #[.val (.int i0), .val (.int (4 : Int32)), .val (.ref a_LESS), .val (.int (1 : Int32))]) rfl (XS.aloadN X9.here hx rfl (hb hby at_30) rfl rfl k))) ?_
    obtain ⟨cq10, kq10, q10a, q10b, q10c⟩ := isOf hZ eh9 E_LESS
    obtain ⟨v10, _, ⟨T10, L10, k10, n10⟩, -, X10, ⟨Lc10, hQ10, l10, y10, z10⟩, st10⟩ := X9.virtualBack hx (y := (⟨"com/example/umform/umform/model/xpath/Operation$Operator", "isComparison", "()Z"⟩ : MethodName)) (z := (⟨"com/example/umform/umform/model/xpath/Operation$Operator", "isComparison", "()Z"⟩ : MethodName)) hown (mvT hZ (hw _ (List.mem_of_getElem? (i := 8) rfl))) (mvT hZ (hw _ (List.mem_of_getElem? (i := 9) rfl))) (notFace_of_selects (args := #[]) (mvT hZ (hw _ (List.mem_of_getElem? (i := 11) rfl)))) (mvT hZ (hw _ (List.mem_of_getElem? (i := 11) rfl))) (mvT hZ (hw _ (List.mem_of_getElem? (i := 10) rfl))) (by decide) (backOf (W := 0) (rm2 l Z a0 hw [] a_LESS a_EQUAL a_NOT_EQUAL a_LESS a_LESS_OR_EQUAL a_GREATER a_GREATER_OR_EQUAL h0 n0 Z0 S_EQUAL S_NOT_EQUAL S_LESS S_LESS_OR_EQUAL S_GREATER S_GREATER_OR_EQUAL) hZ (hw _ (List.mem_of_getElem? (i := 12) rfl)) (hw _ (List.mem_of_getElem? (i := 6) rfl)) (by decide) (by decide)) q10a q10c (g := (mkF m 31 #[.val (.int i0), .val (.int (4 : Int32)), .val (.ref a_LESS), .val (.int (1 : Int32))] [(.ref a_LESS)])) rfl (by rw [hml]; rfl) (Steps.refl _) (argsL := []) (rest := []) (lenOf pd_91 rfl) rfl (by show 2 * 0 + _ ≤ _; exact Nat.le_of_eq rfl) (hb hby at_31) (fun _ _ => ⟨rfl, eh9, (by decide : 0 + 0 ≤ _), (by decide : 0 + 0 ≤ _)⟩)
    dsimp only [Pt.U, Pt.locs, Pt.cells, Pt.slots] at X10 l10 y10 z10 st10 hQ10
    subst l10 y10 z10
    obtain ⟨rfl, eh10, rfl⟩ := hQ10
    refine own_goT (S' := (T10.setTop (mkF m 34 #[.val (.int i0), .val (.int (4 : Int32)), .val (.ref a_LESS), .val (.int (1 : Int32))] [(.int (own_in a_LESS a_EQUAL a_NOT_EQUAL a_LESS a_LESS_OR_EQUAL a_GREATER a_GREATER_OR_EQUAL))]))) st10 ?_
    refine own_go (S' := (T10.setTop (mkF m 43 #[.val (.int i0), .val (.int (4 : Int32)), .val (.ref a_LESS), .val (.int (1 : Int32))] [(.int (1 : Int32))]))) (fun _ k => XS.iloadN X10.here hx rfl (hb hby at_34) rfl (XS.icmpNo X10.here hx rfl (hb hby at_35) rfl (teq (by simp [own_in, n_LESS_EQUAL, n_LESS_NOT_EQUAL, n_LESS_LESS_OR_EQUAL, n_LESS_GREATER, n_LESS_GREATER_OR_EQUAL])).2 (XS.iconst X10.here hx rfl (hb hby at_38) (XS.goto X10.here hx rfl (pc0 := 39) (pc' := 43) rfl (hb hby at_39) (by decide) (by decide) k)))) ?_
    refine own_retN (t := .boolean) X10 hx hlk (by simp) Bd.returns (hb hby at_43) (by decide) (by decide) ?_
    exact ⟨rfl, by simpa using N0⟩
  · refine own_go (S' := (s₁.setTop (mkF m 9 #[.val (.int i0), .val (.int (5 : Int32)), .unset, .unset] [(.int (5 : Int32))]))) (fun _ k => XS.iloadN X0.here hx rfl (hb hby at_8) rfl k) ?_
    obtain ⟨v11, _, ⟨T11, L11, k11, n11⟩, -, X11, ⟨Lc11, hQ11, l11, y11, z11⟩, st11⟩ := Jvm.LawKit.callS X0 hx (y := (⟨"com/example/umform/umform/model/xpath/OperatorIsComparisonPinLaw", "operatorAt", "(I)Lcom/example/umform/umform/model/xpath/Operation$Operator;"⟩ : MethodName)) hown (mvT hZ (hw _ (List.mem_of_getElem? (i := 1) rfl))) (mvT hZ (hw _ (List.mem_of_getElem? (i := 2) rfl))) (mvT hZ (hw _ (List.mem_of_getElem? (i := 3) rfl))) (mvT hZ (hw _ (List.mem_of_getElem? (i := 4) rfl))) (by decide) (backOf (W := 0) (rm1 l Z a0 hw [] (5 : Int32) a_OR a_AND a_EQUAL a_NOT_EQUAL a_LESS a_LESS_OR_EQUAL a_GREATER a_GREATER_OR_EQUAL a_ADD a_SUBTRACT a_MULTIPLY a_DIVIDE a_MODULO a_UNION h0 n0 Z0 S_OR S_EQUAL S_NOT_EQUAL S_LESS S_LESS_OR_EQUAL S_GREATER S_GREATER_OR_EQUAL S_MODULO S_UNION S_DIVIDE S_MULTIPLY S_ADD S_AND S_SUBTRACT) hZ (hw _ (List.mem_of_getElem? (i := 4) rfl)) (hw _ (List.mem_of_getElem? (i := 3) rfl)) (by decide) (by decide)) (g := (mkF m 9 #[.val (.int i0), .val (.int (5 : Int32)), .unset, .unset] [(.int (5 : Int32))])) rfl (by rw [hml]; rfl) (argsL := [(.int (5 : Int32))]) (rest := []) (lenOf pd_90 rfl) rfl (by show 2 * 0 + _ ≤ _; exact Nat.le_of_eq rfl) (hb hby at_9) (fun _ _ => ⟨rfl, e0, (by decide : 0 + 0 ≤ _), (by decide : 0 + 0 ≤ _)⟩)
    dsimp only [Pt.U, Pt.locs, Pt.cells, Pt.slots] at X11 l11 y11 z11 st11 hQ11
    subst l11 y11 z11
    obtain ⟨hv11, eh11, rfl⟩ := hQ11
    rw [show own_pk (5 : Int32) a_OR a_AND a_EQUAL a_NOT_EQUAL a_LESS a_LESS_OR_EQUAL a_GREATER a_GREATER_OR_EQUAL a_ADD a_SUBTRACT a_MULTIPLY a_DIVIDE a_MODULO a_UNION = a_LESS_OR_EQUAL from by first | rfl | (simp [own_pk]; done) | decide] at hv11
    subst hv11
    refine own_go (S' := (T11.setTop (mkF m 12 #[.val (.int i0), .val (.int (5 : Int32)), .unset, .unset] [(.ref a_LESS_OR_EQUAL)]))) st11 ?_
    refine own_go (S' := (T11.setTop (mkF m 25 #[.val (.int i0), .val (.int (5 : Int32)), .val (.ref a_LESS_OR_EQUAL), .unset] [(.int (1 : Int32))]))) (fun _ k => XS.astoreN X11.here hx rfl (hb hby at_12) rfl rfl (l' := #[.val (.int i0), .val (.int (5 : Int32)), .val (.ref a_LESS_OR_EQUAL), .unset]) rfl (XS.iloadN X11.here hx rfl (hb hby at_13) rfl (XS.iconst X11.here hx rfl (hb hby at_14) (XS.icmpNo X11.here hx rfl (hb hby at_15) rfl (flt (by decide)).1 (XS.iloadN X11.here hx rfl (hb hby at_18) rfl (XS.bipush X11.here hx rfl (hb hby at_19) (XS.icmpNo X11.here hx rfl (hb hby at_21) rfl (flt (by decide)).2.2.1 (XS.iconst X11.here hx rfl (hb hby at_24) k)))))))) ?_
    refine own_go (S' := (T11.setTop (mkF m 31 #[.val (.int i0), .val (.int (5 : Int32)), .val (.ref a_LESS_OR_EQUAL), .val (.int (1 : Int32))] [(.ref a_LESS_OR_EQUAL)]))) (fun _ k => XS.goto X11.here hx rfl (pc0 := 25) (pc' := 29) rfl (hb hby at_25) (by decide) (by decide) (XS.istoreN X11.here hx rfl (hb hby at_29) rfl (l' := #[.val (.int i0), .val (.int (5 : Int32)), .val (.ref a_LESS_OR_EQUAL), .val (.int (1 : Int32))]) rfl (XS.aloadN X11.here hx rfl (hb hby at_30) rfl rfl k))) ?_
    obtain ⟨cq12, kq12, q12a, q12b, q12c⟩ := isOf hZ eh11 E_LESS_OR_EQUAL
    obtain ⟨v12, _, ⟨T12, L12, k12, n12⟩, -, X12, ⟨Lc12, hQ12, l12, y12, z12⟩, st12⟩ := X11.virtualBack hx (y := (⟨"com/example/umform/umform/model/xpath/Operation$Operator", "isComparison", "()Z"⟩ : MethodName)) (z := (⟨"com/example/umform/umform/model/xpath/Operation$Operator", "isComparison", "()Z"⟩ : MethodName)) hown (mvT hZ (hw _ (List.mem_of_getElem? (i := 8) rfl))) (mvT hZ (hw _ (List.mem_of_getElem? (i := 9) rfl))) (notFace_of_selects (args := #[]) (mvT hZ (hw _ (List.mem_of_getElem? (i := 11) rfl)))) (mvT hZ (hw _ (List.mem_of_getElem? (i := 11) rfl))) (mvT hZ (hw _ (List.mem_of_getElem? (i := 10) rfl))) (by decide) (backOf (W := 0) (rm2 l Z a0 hw [] a_LESS_OR_EQUAL a_EQUAL a_NOT_EQUAL a_LESS a_LESS_OR_EQUAL a_GREATER a_GREATER_OR_EQUAL h0 n0 Z0 S_EQUAL S_NOT_EQUAL S_LESS S_LESS_OR_EQUAL S_GREATER S_GREATER_OR_EQUAL) hZ (hw _ (List.mem_of_getElem? (i := 12) rfl)) (hw _ (List.mem_of_getElem? (i := 6) rfl)) (by decide) (by decide)) q12a q12c (g := (mkF m 31 #[.val (.int i0), .val (.int (5 : Int32)), .val (.ref a_LESS_OR_EQUAL), .val (.int (1 : Int32))] [(.ref a_LESS_OR_EQUAL)])) rfl (by rw [hml]; rfl) (Steps.refl _) (argsL := []) (rest := []) (lenOf pd_91 rfl) rfl (by show 2 * 0 + _ ≤ _; exact Nat.le_of_eq rfl) (hb hby at_31) (fun _ _ => ⟨rfl, eh11, (by decide : 0 + 0 ≤ _), (by decide : 0 + 0 ≤ _)⟩)
    dsimp only [Pt.U, Pt.locs, Pt.cells, Pt.slots] at X12 l12 y12 z12 st12 hQ12
    subst l12 y12 z12
    obtain ⟨rfl, eh12, rfl⟩ := hQ12
    refine own_goT (S' := (T12.setTop (mkF m 34 #[.val (.int i0), .val (.int (5 : Int32)), .val (.ref a_LESS_OR_EQUAL), .val (.int (1 : Int32))] [(.int (own_in a_LESS_OR_EQUAL a_EQUAL a_NOT_EQUAL a_LESS a_LESS_OR_EQUAL a_GREATER a_GREATER_OR_EQUAL))]))) st12 ?_
    refine own_go (S' := (T12.setTop (mkF m 43 #[.val (.int i0), .val (.int (5 : Int32)), .val (.ref a_LESS_OR_EQUAL), .val (.int (1 : Int32))] [(.int (1 : Int32))]))) (fun _ k => XS.iloadN X12.here hx rfl (hb hby at_34) rfl (XS.icmpNo X12.here hx rfl (hb hby at_35) rfl (teq (by simp [own_in, n_LESS_OR_EQUAL_EQUAL, n_LESS_OR_EQUAL_NOT_EQUAL, n_LESS_OR_EQUAL_LESS, n_LESS_OR_EQUAL_GREATER, n_LESS_OR_EQUAL_GREATER_OR_EQUAL])).2 (XS.iconst X12.here hx rfl (hb hby at_38) (XS.goto X12.here hx rfl (pc0 := 39) (pc' := 43) rfl (hb hby at_39) (by decide) (by decide) k)))) ?_
    refine own_retN (t := .boolean) X12 hx hlk (by simp) Bd.returns (hb hby at_43) (by decide) (by decide) ?_
    exact ⟨rfl, by simpa using N0⟩
  · refine own_go (S' := (s₁.setTop (mkF m 9 #[.val (.int i0), .val (.int (6 : Int32)), .unset, .unset] [(.int (6 : Int32))]))) (fun _ k => XS.iloadN X0.here hx rfl (hb hby at_8) rfl k) ?_
    obtain ⟨v13, _, ⟨T13, L13, k13, n13⟩, -, X13, ⟨Lc13, hQ13, l13, y13, z13⟩, st13⟩ := Jvm.LawKit.callS X0 hx (y := (⟨"com/example/umform/umform/model/xpath/OperatorIsComparisonPinLaw", "operatorAt", "(I)Lcom/example/umform/umform/model/xpath/Operation$Operator;"⟩ : MethodName)) hown (mvT hZ (hw _ (List.mem_of_getElem? (i := 1) rfl))) (mvT hZ (hw _ (List.mem_of_getElem? (i := 2) rfl))) (mvT hZ (hw _ (List.mem_of_getElem? (i := 3) rfl))) (mvT hZ (hw _ (List.mem_of_getElem? (i := 4) rfl))) (by decide) (backOf (W := 0) (rm1 l Z a0 hw [] (6 : Int32) a_OR a_AND a_EQUAL a_NOT_EQUAL a_LESS a_LESS_OR_EQUAL a_GREATER a_GREATER_OR_EQUAL a_ADD a_SUBTRACT a_MULTIPLY a_DIVIDE a_MODULO a_UNION h0 n0 Z0 S_OR S_EQUAL S_NOT_EQUAL S_LESS S_LESS_OR_EQUAL S_GREATER S_GREATER_OR_EQUAL S_MODULO S_UNION S_DIVIDE S_MULTIPLY S_ADD S_AND S_SUBTRACT) hZ (hw _ (List.mem_of_getElem? (i := 4) rfl)) (hw _ (List.mem_of_getElem? (i := 3) rfl)) (by decide) (by decide)) (g := (mkF m 9 #[.val (.int i0), .val (.int (6 : Int32)), .unset, .unset] [(.int (6 : Int32))])) rfl (by rw [hml]; rfl) (argsL := [(.int (6 : Int32))]) (rest := []) (lenOf pd_90 rfl) rfl (by show 2 * 0 + _ ≤ _; exact Nat.le_of_eq rfl) (hb hby at_9) (fun _ _ => ⟨rfl, e0, (by decide : 0 + 0 ≤ _), (by decide : 0 + 0 ≤ _)⟩)
    dsimp only [Pt.U, Pt.locs, Pt.cells, Pt.slots] at X13 l13 y13 z13 st13 hQ13
    subst l13 y13 z13
    obtain ⟨hv13, eh13, rfl⟩ := hQ13
    rw [show own_pk (6 : Int32) a_OR a_AND a_EQUAL a_NOT_EQUAL a_LESS a_LESS_OR_EQUAL a_GREATER a_GREATER_OR_EQUAL a_ADD a_SUBTRACT a_MULTIPLY a_DIVIDE a_MODULO a_UNION = a_GREATER from by first | rfl | (simp [own_pk]; done) | decide] at hv13
    subst hv13
    refine own_go (S' := (T13.setTop (mkF m 12 #[.val (.int i0), .val (.int (6 : Int32)), .unset, .unset] [(.ref a_GREATER)]))) st13 ?_
    refine own_go (S' := (T13.setTop (mkF m 25 #[.val (.int i0), .val (.int (6 : Int32)), .val (.ref a_GREATER), .unset] [(.int (1 : Int32))]))) (fun _ k => XS.astoreN X13.here hx rfl (hb hby at_12) rfl rfl (l' := #[.val (.int i0), .val (.int (6 : Int32)), .val (.ref a_GREATER), .unset]) rfl (XS.iloadN X13.here hx rfl (hb hby at_13) rfl (XS.iconst X13.here hx rfl (hb hby at_14) (XS.icmpNo X13.here hx rfl (hb hby at_15) rfl (flt (by decide)).1 (XS.iloadN X13.here hx rfl (hb hby at_18) rfl (XS.bipush X13.here hx rfl (hb hby at_19) (XS.icmpNo X13.here hx rfl (hb hby at_21) rfl (flt (by decide)).2.2.1 (XS.iconst X13.here hx rfl (hb hby at_24) k)))))))) ?_
    refine own_go (S' := (T13.setTop (mkF m 31 #[.val (.int i0), .val (.int (6 : Int32)), .val (.ref a_GREATER), .val (.int (1 : Int32))] [(.ref a_GREATER)]))) (fun _ k => XS.goto X13.here hx rfl (pc0 := 25) (pc' := 29) rfl (hb hby at_25) (by decide) (by decide) (XS.istoreN X13.here hx rfl (hb hby at_29) rfl (l' := #[.val (.int i0), .val (.int (6 : Int32)), .val (.ref a_GREATER), .val (.int (1 : Int32))]) rfl (XS.aloadN X13.here hx rfl (hb hby at_30) rfl rfl k))) ?_
    obtain ⟨cq14, kq14, q14a, q14b, q14c⟩ := isOf hZ eh13 E_GREATER
    obtain ⟨v14, _, ⟨T14, L14, k14, n14⟩, -, X14, ⟨Lc14, hQ14, l14, y14, z14⟩, st14⟩ := X13.virtualBack hx (y := (⟨"com/example/umform/umform/model/xpath/Operation$Operator", "isComparison", "()Z"⟩ : MethodName)) (z := (⟨"com/example/umform/umform/model/xpath/Operation$Operator", "isComparison", "()Z"⟩ : MethodName)) hown (mvT hZ (hw _ (List.mem_of_getElem? (i := 8) rfl))) (mvT hZ (hw _ (List.mem_of_getElem? (i := 9) rfl))) (notFace_of_selects (args := #[]) (mvT hZ (hw _ (List.mem_of_getElem? (i := 11) rfl)))) (mvT hZ (hw _ (List.mem_of_getElem? (i := 11) rfl))) (mvT hZ (hw _ (List.mem_of_getElem? (i := 10) rfl))) (by decide) (backOf (W := 0) (rm2 l Z a0 hw [] a_GREATER a_EQUAL a_NOT_EQUAL a_LESS a_LESS_OR_EQUAL a_GREATER a_GREATER_OR_EQUAL h0 n0 Z0 S_EQUAL S_NOT_EQUAL S_LESS S_LESS_OR_EQUAL S_GREATER S_GREATER_OR_EQUAL) hZ (hw _ (List.mem_of_getElem? (i := 12) rfl)) (hw _ (List.mem_of_getElem? (i := 6) rfl)) (by decide) (by decide)) q14a q14c (g := (mkF m 31 #[.val (.int i0), .val (.int (6 : Int32)), .val (.ref a_GREATER), .val (.int (1 : Int32))] [(.ref a_GREATER)])) rfl (by rw [hml]; rfl) (Steps.refl _) (argsL := []) (rest := []) (lenOf pd_91 rfl) rfl (by show 2 * 0 + _ ≤ _; exact Nat.le_of_eq rfl) (hb hby at_31) (fun _ _ => ⟨rfl, eh13, (by decide : 0 + 0 ≤ _), (by decide : 0 + 0 ≤ _)⟩)
    dsimp only [Pt.U, Pt.locs, Pt.cells, Pt.slots] at X14 l14 y14 z14 st14 hQ14
    subst l14 y14 z14
    obtain ⟨rfl, eh14, rfl⟩ := hQ14
    refine own_goT (S' := (T14.setTop (mkF m 34 #[.val (.int i0), .val (.int (6 : Int32)), .val (.ref a_GREATER), .val (.int (1 : Int32))] [(.int (own_in a_GREATER a_EQUAL a_NOT_EQUAL a_LESS a_LESS_OR_EQUAL a_GREATER a_GREATER_OR_EQUAL))]))) st14 ?_
    refine own_go (S' := (T14.setTop (mkF m 43 #[.val (.int i0), .val (.int (6 : Int32)), .val (.ref a_GREATER), .val (.int (1 : Int32))] [(.int (1 : Int32))]))) (fun _ k => XS.iloadN X14.here hx rfl (hb hby at_34) rfl (XS.icmpNo X14.here hx rfl (hb hby at_35) rfl (teq (by simp [own_in, n_GREATER_EQUAL, n_GREATER_NOT_EQUAL, n_GREATER_LESS, n_GREATER_LESS_OR_EQUAL, n_GREATER_GREATER_OR_EQUAL])).2 (XS.iconst X14.here hx rfl (hb hby at_38) (XS.goto X14.here hx rfl (pc0 := 39) (pc' := 43) rfl (hb hby at_39) (by decide) (by decide) k)))) ?_
    refine own_retN (t := .boolean) X14 hx hlk (by simp) Bd.returns (hb hby at_43) (by decide) (by decide) ?_
    exact ⟨rfl, by simpa using N0⟩
  · refine own_go (S' := (s₁.setTop (mkF m 9 #[.val (.int i0), .val (.int (7 : Int32)), .unset, .unset] [(.int (7 : Int32))]))) (fun _ k => XS.iloadN X0.here hx rfl (hb hby at_8) rfl k) ?_
    obtain ⟨v15, _, ⟨T15, L15, k15, n15⟩, -, X15, ⟨Lc15, hQ15, l15, y15, z15⟩, st15⟩ := Jvm.LawKit.callS X0 hx (y := (⟨"com/example/umform/umform/model/xpath/OperatorIsComparisonPinLaw", "operatorAt", "(I)Lcom/example/umform/umform/model/xpath/Operation$Operator;"⟩ : MethodName)) hown (mvT hZ (hw _ (List.mem_of_getElem? (i := 1) rfl))) (mvT hZ (hw _ (List.mem_of_getElem? (i := 2) rfl))) (mvT hZ (hw _ (List.mem_of_getElem? (i := 3) rfl))) (mvT hZ (hw _ (List.mem_of_getElem? (i := 4) rfl))) (by decide) (backOf (W := 0) (rm1 l Z a0 hw [] (7 : Int32) a_OR a_AND a_EQUAL a_NOT_EQUAL a_LESS a_LESS_OR_EQUAL a_GREATER a_GREATER_OR_EQUAL a_ADD a_SUBTRACT a_MULTIPLY a_DIVIDE a_MODULO a_UNION h0 n0 Z0 S_OR S_EQUAL S_NOT_EQUAL S_LESS S_LESS_OR_EQUAL S_GREATER S_GREATER_OR_EQUAL S_MODULO S_UNION S_DIVIDE S_MULTIPLY S_ADD S_AND S_SUBTRACT) hZ (hw _ (List.mem_of_getElem? (i := 4) rfl)) (hw _ (List.mem_of_getElem? (i := 3) rfl)) (by decide) (by decide)) (g := (mkF m 9 #[.val (.int i0), .val (.int (7 : Int32)), .unset, .unset] [(.int (7 : Int32))])) rfl (by rw [hml]; rfl) (argsL := [(.int (7 : Int32))]) (rest := []) (lenOf pd_90 rfl) rfl (by show 2 * 0 + _ ≤ _; exact Nat.le_of_eq rfl) (hb hby at_9) (fun _ _ => ⟨rfl, e0, (by decide : 0 + 0 ≤ _), (by decide : 0 + 0 ≤ _)⟩)
    dsimp only [Pt.U, Pt.locs, Pt.cells, Pt.slots] at X15 l15 y15 z15 st15 hQ15
    subst l15 y15 z15
    obtain ⟨hv15, eh15, rfl⟩ := hQ15
    rw [show own_pk (7 : Int32) a_OR a_AND a_EQUAL a_NOT_EQUAL a_LESS a_LESS_OR_EQUAL a_GREATER a_GREATER_OR_EQUAL a_ADD a_SUBTRACT a_MULTIPLY a_DIVIDE a_MODULO a_UNION = a_GREATER_OR_EQUAL from by first | rfl | (simp [own_pk]; done) | decide] at hv15
    subst hv15
    refine own_go (S' := (T15.setTop (mkF m 12 #[.val (.int i0), .val (.int (7 : Int32)), .unset, .unset] [(.ref a_GREATER_OR_EQUAL)]))) st15 ?_
    refine own_go (S' := (T15.setTop (mkF m 25 #[.val (.int i0), .val (.int (7 : Int32)), .val (.ref a_GREATER_OR_EQUAL), .unset] [(.int (1 : Int32))]))) (fun _ k => XS.astoreN X15.here hx rfl (hb hby at_12) rfl rfl (l' := #[.val (.int i0), .val (.int (7 : Int32)), .val (.ref a_GREATER_OR_EQUAL), .unset]) rfl (XS.iloadN X15.here hx rfl (hb hby at_13) rfl (XS.iconst X15.here hx rfl (hb hby at_14) (XS.icmpNo X15.here hx rfl (hb hby at_15) rfl (flt (by decide)).1 (XS.iloadN X15.here hx rfl (hb hby at_18) rfl (XS.bipush X15.here hx rfl (hb hby at_19) (XS.icmpNo X15.here hx rfl (hb hby at_21) rfl (flt (by decide)).2.2.1 (XS.iconst X15.here hx rfl (hb hby at_24) k)))))))) ?_
    refine own_go (S' := (T15.setTop (mkF m 31 #[.val (.int i0), .val (.int (7 : Int32)), .val (.ref a_GREATER_OR_EQUAL), .val (.int (1 : Int32))] [(.ref a_GREATER_OR_EQUAL)]))) (fun _ k => XS.goto X15.here hx rfl (pc0 := 25) (pc' := 29) rfl (hb hby at_25) (by decide) (by decide) (XS.istoreN X15.here hx rfl (hb hby at_29) rfl (l' := #[.val (.int i0), .val (.int (7 : Int32)), .val (.ref a_GREATER_OR_EQUAL), .val (.int (1 : Int32))]) rfl (XS.aloadN X15.here hx rfl (hb hby at_30) rfl rfl k))) ?_
    obtain ⟨cq16, kq16, q16a, q16b, q16c⟩ := isOf hZ eh15 E_GREATER_OR_EQUAL
    obtain ⟨v16, _, ⟨T16, L16, k16, n16⟩, -, X16, ⟨Lc16, hQ16, l16, y16, z16⟩, st16⟩ := X15.virtualBack hx (y := (⟨"com/example/umform/umform/model/xpath/Operation$Operator", "isComparison", "()Z"⟩ : MethodName)) (z := (⟨"com/example/umform/umform/model/xpath/Operation$Operator", "isComparison", "()Z"⟩ : MethodName)) hown (mvT hZ (hw _ (List.mem_of_getElem? (i := 8) rfl))) (mvT hZ (hw _ (List.mem_of_getElem? (i := 9) rfl))) (notFace_of_selects (args := #[]) (mvT hZ (hw _ (List.mem_of_getElem? (i := 11) rfl)))) (mvT hZ (hw _ (List.mem_of_getElem? (i := 11) rfl))) (mvT hZ (hw _ (List.mem_of_getElem? (i := 10) rfl))) (by decide) (backOf (W := 0) (rm2 l Z a0 hw [] a_GREATER_OR_EQUAL a_EQUAL a_NOT_EQUAL a_LESS a_LESS_OR_EQUAL a_GREATER a_GREATER_OR_EQUAL h0 n0 Z0 S_EQUAL S_NOT_EQUAL S_LESS S_LESS_OR_EQUAL S_GREATER S_GREATER_OR_EQUAL) hZ (hw _ (List.mem_of_getElem? (i := 12) rfl)) (hw _ (List.mem_of_getElem? (i := 6) rfl)) (by decide) (by decide)) q16a q16c (g := (mkF m 31 #[.val (.int i0), .val (.int (7 : Int32)), .val (.ref a_GREATER_OR_EQUAL), .val (.int (1 : Int32))] [(.ref a_GREATER_OR_EQUAL)])) rfl (by rw [hml]; rfl) (Steps.refl _) (argsL := []) (rest := []) (lenOf pd_91 rfl) rfl (by show 2 * 0 + _ ≤ _; exact Nat.le_of_eq rfl) (hb hby at_31) (fun _ _ => ⟨rfl, eh15, (by decide : 0 + 0 ≤ _), (by decide : 0 + 0 ≤ _)⟩)
    dsimp only [Pt.U, Pt.locs, Pt.cells, Pt.slots] at X16 l16 y16 z16 st16 hQ16
    subst l16 y16 z16
    obtain ⟨rfl, eh16, rfl⟩ := hQ16
    refine own_goT (S' := (T16.setTop (mkF m 34 #[.val (.int i0), .val (.int (7 : Int32)), .val (.ref a_GREATER_OR_EQUAL), .val (.int (1 : Int32))] [(.int (own_in a_GREATER_OR_EQUAL a_EQUAL a_NOT_EQUAL a_LESS a_LESS_OR_EQUAL a_GREATER a_GREATER_OR_EQUAL))]))) st16 ?_
    refine own_go (S' := (T16.setTop (mkF m 43 #[.val (.int i0), .val (.int (7 : Int32)), .val (.ref a_GREATER_OR_EQUAL), .val (.int (1 : Int32))] [(.int (1 : Int32))]))) (fun _ k => XS.iloadN X16.here hx rfl (hb hby at_34) rfl (XS.icmpNo X16.here hx rfl (hb hby at_35) rfl (teq (by simp [own_in, n_GREATER_OR_EQUAL_EQUAL, n_GREATER_OR_EQUAL_NOT_EQUAL, n_GREATER_OR_EQUAL_LESS, n_GREATER_OR_EQUAL_LESS_OR_EQUAL, n_GREATER_OR_EQUAL_GREATER])).2 (XS.iconst X16.here hx rfl (hb hby at_38) (XS.goto X16.here hx rfl (pc0 := 39) (pc' := 43) rfl (hb hby at_39) (by decide) (by decide) k)))) ?_
    refine own_retN (t := .boolean) X16 hx hlk (by simp) Bd.returns (hb hby at_43) (by decide) (by decide) ?_
    exact ⟨rfl, by simpa using N0⟩
  · refine own_go (S' := (s₁.setTop (mkF m 9 #[.val (.int i0), .val (.int (8 : Int32)), .unset, .unset] [(.int (8 : Int32))]))) (fun _ k => XS.iloadN X0.here hx rfl (hb hby at_8) rfl k) ?_
    obtain ⟨v17, _, ⟨T17, L17, k17, n17⟩, -, X17, ⟨Lc17, hQ17, l17, y17, z17⟩, st17⟩ := Jvm.LawKit.callS X0 hx (y := (⟨"com/example/umform/umform/model/xpath/OperatorIsComparisonPinLaw", "operatorAt", "(I)Lcom/example/umform/umform/model/xpath/Operation$Operator;"⟩ : MethodName)) hown (mvT hZ (hw _ (List.mem_of_getElem? (i := 1) rfl))) (mvT hZ (hw _ (List.mem_of_getElem? (i := 2) rfl))) (mvT hZ (hw _ (List.mem_of_getElem? (i := 3) rfl))) (mvT hZ (hw _ (List.mem_of_getElem? (i := 4) rfl))) (by decide) (backOf (W := 0) (rm1 l Z a0 hw [] (8 : Int32) a_OR a_AND a_EQUAL a_NOT_EQUAL a_LESS a_LESS_OR_EQUAL a_GREATER a_GREATER_OR_EQUAL a_ADD a_SUBTRACT a_MULTIPLY a_DIVIDE a_MODULO a_UNION h0 n0 Z0 S_OR S_EQUAL S_NOT_EQUAL S_LESS S_LESS_OR_EQUAL S_GREATER S_GREATER_OR_EQUAL S_MODULO S_UNION S_DIVIDE S_MULTIPLY S_ADD S_AND S_SUBTRACT) hZ (hw _ (List.mem_of_getElem? (i := 4) rfl)) (hw _ (List.mem_of_getElem? (i := 3) rfl)) (by decide) (by decide)) (g := (mkF m 9 #[.val (.int i0), .val (.int (8 : Int32)), .unset, .unset] [(.int (8 : Int32))])) rfl (by rw [hml]; rfl) (argsL := [(.int (8 : Int32))]) (rest := []) (lenOf pd_90 rfl) rfl (by show 2 * 0 + _ ≤ _; exact Nat.le_of_eq rfl) (hb hby at_9) (fun _ _ => ⟨rfl, e0, (by decide : 0 + 0 ≤ _), (by decide : 0 + 0 ≤ _)⟩)
    dsimp only [Pt.U, Pt.locs, Pt.cells, Pt.slots] at X17 l17 y17 z17 st17 hQ17
    subst l17 y17 z17
    obtain ⟨hv17, eh17, rfl⟩ := hQ17
    rw [show own_pk (8 : Int32) a_OR a_AND a_EQUAL a_NOT_EQUAL a_LESS a_LESS_OR_EQUAL a_GREATER a_GREATER_OR_EQUAL a_ADD a_SUBTRACT a_MULTIPLY a_DIVIDE a_MODULO a_UNION = a_ADD from by first | rfl | (simp [own_pk]; done) | decide] at hv17
    subst hv17
    refine own_go (S' := (T17.setTop (mkF m 12 #[.val (.int i0), .val (.int (8 : Int32)), .unset, .unset] [(.ref a_ADD)]))) st17 ?_
    refine own_go (S' := (T17.setTop (mkF m 29 #[.val (.int i0), .val (.int (8 : Int32)), .val (.ref a_ADD), .unset] [(.int (0 : Int32))]))) (fun _ k => XS.astoreN X17.here hx rfl (hb hby at_12) rfl rfl (l' := #[.val (.int i0), .val (.int (8 : Int32)), .val (.ref a_ADD), .unset]) rfl (XS.iloadN X17.here hx rfl (hb hby at_13) rfl (XS.iconst X17.here hx rfl (hb hby at_14) (XS.icmpNo X17.here hx rfl (hb hby at_15) rfl (flt (by decide)).1 (XS.iloadN X17.here hx rfl (hb hby at_18) rfl (XS.bipush X17.here hx rfl (hb hby at_19) (XS.icmpYes X17.here hx rfl (pc0 := 21) (pc' := 28) rfl (hb hby at_21) rfl (tlt (by decide)).2.2.1 (by decide) (by decide) (XS.iconst X17.here hx rfl (hb hby at_28) k)))))))) ?_
    refine own_go (S' := (T17.setTop (mkF m 31 #[.val (.int i0), .val (.int (8 : Int32)), .val (.ref a_ADD), .val (.int (0 : Int32))] [(.ref a_ADD)]))) (fun _ k => XS.istoreN X17.here hx rfl (hb hby at_29) rfl (l' := #[.val (.int i0), .val (.int (8 : Int32)), .val (.ref a_ADD), .val (.int (0 : Int32))]) rfl (XS.aloadN X17.here hx rfl (hb hby at_30) rfl rfl k)) ?_
    obtain ⟨cq18, kq18, q18a, q18b, q18c⟩ := isOf hZ eh17 E_ADD
    obtain ⟨v18, _, ⟨T18, L18, k18, n18⟩, -, X18, ⟨Lc18, hQ18, l18, y18, z18⟩, st18⟩ := X17.virtualBack hx (y := (⟨"com/example/umform/umform/model/xpath/Operation$Operator", "isComparison", "()Z"⟩ : MethodName)) (z := (⟨"com/example/umform/umform/model/xpath/Operation$Operator", "isComparison", "()Z"⟩ : MethodName)) hown (mvT hZ (hw _ (List.mem_of_getElem? (i := 8) rfl))) (mvT hZ (hw _ (List.mem_of_getElem? (i := 9) rfl))) (notFace_of_selects (args := #[]) (mvT hZ (hw _ (List.mem_of_getElem? (i := 11) rfl)))) (mvT hZ (hw _ (List.mem_of_getElem? (i := 11) rfl))) (mvT hZ (hw _ (List.mem_of_getElem? (i := 10) rfl))) (by decide) (backOf (W := 0) (rm2 l Z a0 hw [] a_ADD a_EQUAL a_NOT_EQUAL a_LESS a_LESS_OR_EQUAL a_GREATER a_GREATER_OR_EQUAL h0 n0 Z0 S_EQUAL S_NOT_EQUAL S_LESS S_LESS_OR_EQUAL S_GREATER S_GREATER_OR_EQUAL) hZ (hw _ (List.mem_of_getElem? (i := 12) rfl)) (hw _ (List.mem_of_getElem? (i := 6) rfl)) (by decide) (by decide)) q18a q18c (g := (mkF m 31 #[.val (.int i0), .val (.int (8 : Int32)), .val (.ref a_ADD), .val (.int (0 : Int32))] [(.ref a_ADD)])) rfl (by rw [hml]; rfl) (Steps.refl _) (argsL := []) (rest := []) (lenOf pd_91 rfl) rfl (by show 2 * 0 + _ ≤ _; exact Nat.le_of_eq rfl) (hb hby at_31) (fun _ _ => ⟨rfl, eh17, (by decide : 0 + 0 ≤ _), (by decide : 0 + 0 ≤ _)⟩)
    dsimp only [Pt.U, Pt.locs, Pt.cells, Pt.slots] at X18 l18 y18 z18 st18 hQ18
    subst l18 y18 z18
    obtain ⟨rfl, eh18, rfl⟩ := hQ18
    refine own_goT (S' := (T18.setTop (mkF m 34 #[.val (.int i0), .val (.int (8 : Int32)), .val (.ref a_ADD), .val (.int (0 : Int32))] [(.int (own_in a_ADD a_EQUAL a_NOT_EQUAL a_LESS a_LESS_OR_EQUAL a_GREATER a_GREATER_OR_EQUAL))]))) st18 ?_
    refine own_go (S' := (T18.setTop (mkF m 43 #[.val (.int i0), .val (.int (8 : Int32)), .val (.ref a_ADD), .val (.int (0 : Int32))] [(.int (1 : Int32))]))) (fun _ k => XS.iloadN X18.here hx rfl (hb hby at_34) rfl (XS.icmpNo X18.here hx rfl (hb hby at_35) rfl (teq (by simp [own_in, n_ADD_EQUAL, n_ADD_NOT_EQUAL, n_ADD_LESS, n_ADD_LESS_OR_EQUAL, n_ADD_GREATER, n_ADD_GREATER_OR_EQUAL])).2 (XS.iconst X18.here hx rfl (hb hby at_38) (XS.goto X18.here hx rfl (pc0 := 39) (pc' := 43) rfl (hb hby at_39) (by decide) (by decide) k)))) ?_
    refine own_retN (t := .boolean) X18 hx hlk (by simp) Bd.returns (hb hby at_43) (by decide) (by decide) ?_
    exact ⟨rfl, by simpa using N0⟩
  · refine own_go (S' := (s₁.setTop (mkF m 9 #[.val (.int i0), .val (.int (9 : Int32)), .unset, .unset] [(.int (9 : Int32))]))) (fun _ k => XS.iloadN X0.here hx rfl (hb hby at_8) rfl k) ?_
    obtain ⟨v19, _, ⟨T19, L19, k19, n19⟩, -, X19, ⟨Lc19, hQ19, l19, y19, z19⟩, st19⟩ := Jvm.LawKit.callS X0 hx (y := (⟨"com/example/umform/umform/model/xpath/OperatorIsComparisonPinLaw", "operatorAt", "(I)Lcom/example/umform/umform/model/xpath/Operation$Operator;"⟩ : MethodName)) hown (mvT hZ (hw _ (List.mem_of_getElem? (i := 1) rfl))) (mvT hZ (hw _ (List.mem_of_getElem? (i := 2) rfl))) (mvT hZ (hw _ (List.mem_of_getElem? (i := 3) rfl))) (mvT hZ (hw _ (List.mem_of_getElem? (i := 4) rfl))) (by decide) (backOf (W := 0) (rm1 l Z a0 hw [] (9 : Int32) a_OR a_AND a_EQUAL a_NOT_EQUAL a_LESS a_LESS_OR_EQUAL a_GREATER a_GREATER_OR_EQUAL a_ADD a_SUBTRACT a_MULTIPLY a_DIVIDE a_MODULO a_UNION h0 n0 Z0 S_OR S_EQUAL S_NOT_EQUAL S_LESS S_LESS_OR_EQUAL S_GREATER S_GREATER_OR_EQUAL S_MODULO S_UNION S_DIVIDE S_MULTIPLY S_ADD S_AND S_SUBTRACT) hZ (hw _ (List.mem_of_getElem? (i := 4) rfl)) (hw _ (List.mem_of_getElem? (i := 3) rfl)) (by decide) (by decide)) (g := (mkF m 9 #[.val (.int i0), .val (.int (9 : Int32)), .unset, .unset] [(.int (9 : Int32))])) rfl (by rw [hml]; rfl) (argsL := [(.int (9 : Int32))]) (rest := []) (lenOf pd_90 rfl) rfl (by show 2 * 0 + _ ≤ _; exact Nat.le_of_eq rfl) (hb hby at_9) (fun _ _ => ⟨rfl, e0, (by decide : 0 + 0 ≤ _), (by decide : 0 + 0 ≤ _)⟩)
    dsimp only [Pt.U, Pt.locs, Pt.cells, Pt.slots] at X19 l19 y19 z19 st19 hQ19
    subst l19 y19 z19
    obtain ⟨hv19, eh19, rfl⟩ := hQ19
    rw [show own_pk (9 : Int32) a_OR a_AND a_EQUAL a_NOT_EQUAL a_LESS a_LESS_OR_EQUAL a_GREATER a_GREATER_OR_EQUAL a_ADD a_SUBTRACT a_MULTIPLY a_DIVIDE a_MODULO a_UNION = a_SUBTRACT from by first | rfl | (simp [own_pk]; done) | decide] at hv19
    subst hv19
    refine own_go (S' := (T19.setTop (mkF m 12 #[.val (.int i0), .val (.int (9 : Int32)), .unset, .unset] [(.ref a_SUBTRACT)]))) st19 ?_
    refine own_go (S' := (T19.setTop (mkF m 29 #[.val (.int i0), .val (.int (9 : Int32)), .val (.ref a_SUBTRACT), .unset] [(.int (0 : Int32))]))) (fun _ k => XS.astoreN X19.here hx rfl (hb hby at_12) rfl rfl (l' := #[.val (.int i0), .val (.int (9 : Int32)), .val (.ref a_SUBTRACT), .unset]) rfl (XS.iloadN X19.here hx rfl (hb hby at_13) rfl (XS.iconst X19.here hx rfl (hb hby at_14) (XS.icmpNo X19.here hx rfl (hb hby at_15) rfl (flt (by decide)).1 (XS.iloadN X19.here hx rfl (hb hby at_18) rfl (XS.bipush X19.here hx rfl (hb hby at_19) (XS.icmpYes X19.here hx rfl (pc0 := 21) (pc' := 28) rfl (hb hby at_21) rfl (tlt (by decide)).2.2.1 (by decide) (by decide) (XS.iconst X19.here hx rfl (hb hby at_28) k)))))))) ?_
    refine own_go (S' := (T19.setTop (mkF m 31 #[.val (.int i0), .val (.int (9 : Int32)), .val (.ref a_SUBTRACT), .val (.int (0 : Int32))] [(.ref a_SUBTRACT)]))) (fun _ k => XS.istoreN X19.here hx rfl (hb hby at_29) rfl (l' := #[.val (.int i0), .val (.int (9 : Int32)), .val (.ref a_SUBTRACT), .val (.int (0 : Int32))]) rfl (XS.aloadN X19.here hx rfl (hb hby at_30) rfl rfl k)) ?_
    obtain ⟨cq20, kq20, q20a, q20b, q20c⟩ := isOf hZ eh19 E_SUBTRACT
    obtain ⟨v20, _, ⟨T20, L20, k20, n20⟩, -, X20, ⟨Lc20, hQ20, l20, y20, z20⟩, st20⟩ := X19.virtualBack hx (y := (⟨"com/example/umform/umform/model/xpath/Operation$Operator", "isComparison", "()Z"⟩ : MethodName)) (z := (⟨"com/example/umform/umform/model/xpath/Operation$Operator", "isComparison", "()Z"⟩ : MethodName)) hown (mvT hZ (hw _ (List.mem_of_getElem? (i := 8) rfl))) (mvT hZ (hw _ (List.mem_of_getElem? (i := 9) rfl))) (notFace_of_selects (args := #[]) (mvT hZ (hw _ (List.mem_of_getElem? (i := 11) rfl)))) (mvT hZ (hw _ (List.mem_of_getElem? (i := 11) rfl))) (mvT hZ (hw _ (List.mem_of_getElem? (i := 10) rfl))) (by decide) (backOf (W := 0) (rm2 l Z a0 hw [] a_SUBTRACT a_EQUAL a_NOT_EQUAL a_LESS a_LESS_OR_EQUAL a_GREATER a_GREATER_OR_EQUAL h0 n0 Z0 S_EQUAL S_NOT_EQUAL S_LESS S_LESS_OR_EQUAL S_GREATER S_GREATER_OR_EQUAL) hZ (hw _ (List.mem_of_getElem? (i := 12) rfl)) (hw _ (List.mem_of_getElem? (i := 6) rfl)) (by decide) (by decide)) q20a q20c (g := (mkF m 31 #[.val (.int i0), .val (.int (9 : Int32)), .val (.ref a_SUBTRACT), .val (.int (0 : Int32))] [(.ref a_SUBTRACT)])) rfl (by rw [hml]; rfl) (Steps.refl _) (argsL := []) (rest := []) (lenOf pd_91 rfl) rfl (by show 2 * 0 + _ ≤ _; exact Nat.le_of_eq rfl) (hb hby at_31) (fun _ _ => ⟨rfl, eh19, (by decide : 0 + 0 ≤ _), (by decide : 0 + 0 ≤ _)⟩)
    dsimp only [Pt.U, Pt.locs, Pt.cells, Pt.slots] at X20 l20 y20 z20 st20 hQ20
    subst l20 y20 z20
    obtain ⟨rfl, eh20, rfl⟩ := hQ20
    refine own_goT (S' := (T20.setTop (mkF m 34 #[.val (.int i0), .val (.int (9 : Int32)), .val (.ref a_SUBTRACT), .val (.int (0 : Int32))] [(.int (own_in a_SUBTRACT a_EQUAL a_NOT_EQUAL a_LESS a_LESS_OR_EQUAL a_GREATER a_GREATER_OR_EQUAL))]))) st20 ?_
    refine own_go (S' := (T20.setTop (mkF m 43 #[.val (.int i0), .val (.int (9 : Int32)), .val (.ref a_SUBTRACT), .val (.int (0 : Int32))] [(.int (1 : Int32))]))) (fun _ k => XS.iloadN X20.here hx rfl (hb hby at_34) rfl (XS.icmpNo X20.here hx rfl (hb hby at_35) rfl (teq (by simp [own_in, n_SUBTRACT_EQUAL, n_SUBTRACT_NOT_EQUAL, n_SUBTRACT_LESS, n_SUBTRACT_LESS_OR_EQUAL, n_SUBTRACT_GREATER, n_SUBTRACT_GREATER_OR_EQUAL])).2 (XS.iconst X20.here hx rfl (hb hby at_38) (XS.goto X20.here hx rfl (pc0 := 39) (pc' := 43) rfl (hb hby at_39) (by decide) (by decide) k)))) ?_
    refine own_retN (t := .boolean) X20 hx hlk (by simp) Bd.returns (hb hby at_43) (by decide) (by decide) ?_
    exact ⟨rfl, by simpa using N0⟩
  · refine own_go (S' := (s₁.setTop (mkF m 9 #[.val (.int i0), .val (.int (10 : Int32)), .unset, .unset] [(.int (10 : Int32))]))) (fun _ k => XS.iloadN X0.here hx rfl (hb hby at_8) rfl k) ?_
    obtain ⟨v21, _, ⟨T21, L21, k21, n21⟩, -, X21, ⟨Lc21, hQ21, l21, y21, z21⟩, st21⟩ := Jvm.LawKit.callS X0 hx (y := (⟨"com/example/umform/umform/model/xpath/OperatorIsComparisonPinLaw", "operatorAt", "(I)Lcom/example/umform/umform/model/xpath/Operation$Operator;"⟩ : MethodName)) hown (mvT hZ (hw _ (List.mem_of_getElem? (i := 1) rfl))) (mvT hZ (hw _ (List.mem_of_getElem? (i := 2) rfl))) (mvT hZ (hw _ (List.mem_of_getElem? (i := 3) rfl))) (mvT hZ (hw _ (List.mem_of_getElem? (i := 4) rfl))) (by decide) (backOf (W := 0) (rm1 l Z a0 hw [] (10 : Int32) a_OR a_AND a_EQUAL a_NOT_EQUAL a_LESS a_LESS_OR_EQUAL a_GREATER a_GREATER_OR_EQUAL a_ADD a_SUBTRACT a_MULTIPLY a_DIVIDE a_MODULO a_UNION h0 n0 Z0 S_OR S_EQUAL S_NOT_EQUAL S_LESS S_LESS_OR_EQUAL S_GREATER S_GREATER_OR_EQUAL S_MODULO S_UNION S_DIVIDE S_MULTIPLY S_ADD S_AND S_SUBTRACT) hZ (hw _ (List.mem_of_getElem? (i := 4) rfl)) (hw _ (List.mem_of_getElem? (i := 3) rfl)) (by decide) (by decide)) (g := (mkF m 9 #[.val (.int i0), .val (.int (10 : Int32)), .unset, .unset] [(.int (10 : Int32))])) rfl (by rw [hml]; rfl) (argsL := [(.int (10 : Int32))]) (rest := []) (lenOf pd_90 rfl) rfl (by show 2 * 0 + _ ≤ _; exact Nat.le_of_eq rfl) (hb hby at_9) (fun _ _ => ⟨rfl, e0, (by decide : 0 + 0 ≤ _), (by decide : 0 + 0 ≤ _)⟩)
    dsimp only [Pt.U, Pt.locs, Pt.cells, Pt.slots] at X21 l21 y21 z21 st21 hQ21
    subst l21 y21 z21
    obtain ⟨hv21, eh21, rfl⟩ := hQ21
    rw [show own_pk (10 : Int32) a_OR a_AND a_EQUAL a_NOT_EQUAL a_LESS a_LESS_OR_EQUAL a_GREATER a_GREATER_OR_EQUAL a_ADD a_SUBTRACT a_MULTIPLY a_DIVIDE a_MODULO a_UNION = a_MULTIPLY from by first | rfl | (simp [own_pk]; done) | decide] at hv21
    subst hv21
    refine own_go (S' := (T21.setTop (mkF m 12 #[.val (.int i0), .val (.int (10 : Int32)), .unset, .unset] [(.ref a_MULTIPLY)]))) st21 ?_
    refine own_go (S' := (T21.setTop (mkF m 29 #[.val (.int i0), .val (.int (10 : Int32)), .val (.ref a_MULTIPLY), .unset] [(.int (0 : Int32))]))) (fun _ k => XS.astoreN X21.here hx rfl (hb hby at_12) rfl rfl (l' := #[.val (.int i0), .val (.int (10 : Int32)), .val (.ref a_MULTIPLY), .unset]) rfl (XS.iloadN X21.here hx rfl (hb hby at_13) rfl (XS.iconst X21.here hx rfl (hb hby at_14) (XS.icmpNo X21.here hx rfl (hb hby at_15) rfl (flt (by decide)).1 (XS.iloadN X21.here hx rfl (hb hby at_18) rfl (XS.bipush X21.here hx rfl (hb hby at_19) (XS.icmpYes X21.here hx rfl (pc0 := 21) (pc' := 28) rfl (hb hby at_21) rfl (tlt (by decide)).2.2.1 (by decide) (by decide) (XS.iconst X21.here hx rfl (hb hby at_28) k)))))))) ?_
    refine own_go (S' := (T21.setTop (mkF m 31 #[.val (.int i0), .val (.int (10 : Int32)), .val (.ref a_MULTIPLY), .val (.int (0 : Int32))] [(.ref a_MULTIPLY)]))) (fun _ k => XS.istoreN X21.here hx rfl (hb hby at_29) rfl (l' := #[.val (.int i0), .val (.int (10 : Int32)), .val (.ref a_MULTIPLY), .val (.int (0 : Int32))]) rfl (XS.aloadN X21.here hx rfl (hb hby at_30) rfl rfl k)) ?_
    obtain ⟨cq22, kq22, q22a, q22b, q22c⟩ := isOf hZ eh21 E_MULTIPLY
    obtain ⟨v22, _, ⟨T22, L22, k22, n22⟩, -, X22, ⟨Lc22, hQ22, l22, y22, z22⟩, st22⟩ := X21.virtualBack hx (y := (⟨"com/example/umform/umform/model/xpath/Operation$Operator", "isComparison", "()Z"⟩ : MethodName)) (z := (⟨"com/example/umform/umform/model/xpath/Operation$Operator", "isComparison", "()Z"⟩ : MethodName)) hown (mvT hZ (hw _ (List.mem_of_getElem? (i := 8) rfl))) (mvT hZ (hw _ (List.mem_of_getElem? (i := 9) rfl))) (notFace_of_selects (args := #[]) (mvT hZ (hw _ (List.mem_of_getElem? (i := 11) rfl)))) (mvT hZ (hw _ (List.mem_of_getElem? (i := 11) rfl))) (mvT hZ (hw _ (List.mem_of_getElem? (i := 10) rfl))) (by decide) (backOf (W := 0) (rm2 l Z a0 hw [] a_MULTIPLY a_EQUAL a_NOT_EQUAL a_LESS a_LESS_OR_EQUAL a_GREATER a_GREATER_OR_EQUAL h0 n0 Z0 S_EQUAL S_NOT_EQUAL S_LESS S_LESS_OR_EQUAL S_GREATER S_GREATER_OR_EQUAL) hZ (hw _ (List.mem_of_getElem? (i := 12) rfl)) (hw _ (List.mem_of_getElem? (i := 6) rfl)) (by decide) (by decide)) q22a q22c (g := (mkF m 31 #[.val (.int i0), .val (.int (10 : Int32)), .val (.ref a_MULTIPLY), .val (.int (0 : Int32))] [(.ref a_MULTIPLY)])) rfl (by rw [hml]; rfl) (Steps.refl _) (argsL := []) (rest := []) (lenOf pd_91 rfl) rfl (by show 2 * 0 + _ ≤ _; exact Nat.le_of_eq rfl) (hb hby at_31) (fun _ _ => ⟨rfl, eh21, (by decide : 0 + 0 ≤ _), (by decide : 0 + 0 ≤ _)⟩)
    dsimp only [Pt.U, Pt.locs, Pt.cells, Pt.slots] at X22 l22 y22 z22 st22 hQ22
    subst l22 y22 z22
    obtain ⟨rfl, eh22, rfl⟩ := hQ22
    refine own_goT (S' := (T22.setTop (mkF m 34 #[.val (.int i0), .val (.int (10 : Int32)), .val (.ref a_MULTIPLY), .val (.int (0 : Int32))] [(.int (own_in a_MULTIPLY a_EQUAL a_NOT_EQUAL a_LESS a_LESS_OR_EQUAL a_GREATER a_GREATER_OR_EQUAL))]))) st22 ?_
    refine own_go (S' := (T22.setTop (mkF m 43 #[.val (.int i0), .val (.int (10 : Int32)), .val (.ref a_MULTIPLY), .val (.int (0 : Int32))] [(.int (1 : Int32))]))) (fun _ k => XS.iloadN X22.here hx rfl (hb hby at_34) rfl (XS.icmpNo X22.here hx rfl (hb hby at_35) rfl (teq (by simp [own_in, n_MULTIPLY_EQUAL, n_MULTIPLY_NOT_EQUAL, n_MULTIPLY_LESS, n_MULTIPLY_LESS_OR_EQUAL, n_MULTIPLY_GREATER, n_MULTIPLY_GREATER_OR_EQUAL])).2 (XS.iconst X22.here hx rfl (hb hby at_38) (XS.goto X22.here hx rfl (pc0 := 39) (pc' := 43) rfl (hb hby at_39) (by decide) (by decide) k)))) ?_
    refine own_retN (t := .boolean) X22 hx hlk (by simp) Bd.returns (hb hby at_43) (by decide) (by decide) ?_
    exact ⟨rfl, by simpa using N0⟩
  · refine own_go (S' := (s₁.setTop (mkF m 9 #[.val (.int i0), .val (.int (11 : Int32)), .unset, .unset] [(.int (11 : Int32))]))) (fun _ k => XS.iloadN X0.here hx rfl (hb hby at_8) rfl k) ?_
    obtain ⟨v23, _, ⟨T23, L23, k23, n23⟩, -, X23, ⟨Lc23, hQ23, l23, y23, z23⟩, st23⟩ := Jvm.LawKit.callS X0 hx (y := (⟨"com/example/umform/umform/model/xpath/OperatorIsComparisonPinLaw", "operatorAt", "(I)Lcom/example/umform/umform/model/xpath/Operation$Operator;"⟩ : MethodName)) hown (mvT hZ (hw _ (List.mem_of_getElem? (i := 1) rfl))) (mvT hZ (hw _ (List.mem_of_getElem? (i := 2) rfl))) (mvT hZ (hw _ (List.mem_of_getElem? (i := 3) rfl))) (mvT hZ (hw _ (List.mem_of_getElem? (i := 4) rfl))) (by decide) (backOf (W := 0) (rm1 l Z a0 hw [] (11 : Int32) a_OR a_AND a_EQUAL a_NOT_EQUAL a_LESS a_LESS_OR_EQUAL a_GREATER a_GREATER_OR_EQUAL a_ADD a_SUBTRACT a_MULTIPLY a_DIVIDE a_MODULO a_UNION h0 n0 Z0 S_OR S_EQUAL S_NOT_EQUAL S_LESS S_LESS_OR_EQUAL S_GREATER S_GREATER_OR_EQUAL S_MODULO S_UNION S_DIVIDE S_MULTIPLY S_ADD S_AND S_SUBTRACT) hZ (hw _ (List.mem_of_getElem? (i := 4) rfl)) (hw _ (List.mem_of_getElem? (i := 3) rfl)) (by decide) (by decide)) (g := (mkF m 9 #[.val (.int i0), .val (.int (11 : Int32)), .unset, .unset] [(.int (11 : Int32))])) rfl (by rw [hml]; rfl) (argsL := [(.int (11 : Int32))]) (rest := []) (lenOf pd_90 rfl) rfl (by show 2 * 0 + _ ≤ _; exact Nat.le_of_eq rfl) (hb hby at_9) (fun _ _ => ⟨rfl, e0, (by decide : 0 + 0 ≤ _), (by decide : 0 + 0 ≤ _)⟩)
    dsimp only [Pt.U, Pt.locs, Pt.cells, Pt.slots] at X23 l23 y23 z23 st23 hQ23
    subst l23 y23 z23
    obtain ⟨hv23, eh23, rfl⟩ := hQ23
    rw [show own_pk (11 : Int32) a_OR a_AND a_EQUAL a_NOT_EQUAL a_LESS a_LESS_OR_EQUAL a_GREATER a_GREATER_OR_EQUAL a_ADD a_SUBTRACT a_MULTIPLY a_DIVIDE a_MODULO a_UNION = a_DIVIDE from by first | rfl | (simp [own_pk]; done) | decide] at hv23
    subst hv23
    refine own_go (S' := (T23.setTop (mkF m 12 #[.val (.int i0), .val (.int (11 : Int32)), .unset, .unset] [(.ref a_DIVIDE)]))) st23 ?_
    refine own_go (S' := (T23.setTop (mkF m 29 #[.val (.int i0), .val (.int (11 : Int32)), .val (.ref a_DIVIDE), .unset] [(.int (0 : Int32))]))) (fun _ k => XS.astoreN X23.here hx rfl (hb hby at_12) rfl rfl (l' := #[.val (.int i0), .val (.int (11 : Int32)), .val (.ref a_DIVIDE), .unset]) rfl (XS.iloadN X23.here hx rfl (hb hby at_13) rfl (XS.iconst X23.here hx rfl (hb hby at_14) (XS.icmpNo X23.here hx rfl (hb hby at_15) rfl (flt (by decide)).1 (XS.iloadN X23.here hx rfl (hb hby at_18) rfl (XS.bipush X23.here hx rfl (hb hby at_19) (XS.icmpYes X23.here hx rfl (pc0 := 21) (pc' := 28) rfl (hb hby at_21) rfl (tlt (by decide)).2.2.1 (by decide) (by decide) (XS.iconst X23.here hx rfl (hb hby at_28) k)))))))) ?_
    refine own_go (S' := (T23.setTop (mkF m 31 #[.val (.int i0), .val (.int (11 : Int32)), .val (.ref a_DIVIDE), .val (.int (0 : Int32))] [(.ref a_DIVIDE)]))) (fun _ k => XS.istoreN X23.here hx rfl (hb hby at_29) rfl (l' := #[.val (.int i0), .val (.int (11 : Int32)), .val (.ref a_DIVIDE), .val (.int (0 : Int32))]) rfl (XS.aloadN X23.here hx rfl (hb hby at_30) rfl rfl k)) ?_
    obtain ⟨cq24, kq24, q24a, q24b, q24c⟩ := isOf hZ eh23 E_DIVIDE
    obtain ⟨v24, _, ⟨T24, L24, k24, n24⟩, -, X24, ⟨Lc24, hQ24, l24, y24, z24⟩, st24⟩ := X23.virtualBack hx (y := (⟨"com/example/umform/umform/model/xpath/Operation$Operator", "isComparison", "()Z"⟩ : MethodName)) (z := (⟨"com/example/umform/umform/model/xpath/Operation$Operator", "isComparison", "()Z"⟩ : MethodName)) hown (mvT hZ (hw _ (List.mem_of_getElem? (i := 8) rfl))) (mvT hZ (hw _ (List.mem_of_getElem? (i := 9) rfl))) (notFace_of_selects (args := #[]) (mvT hZ (hw _ (List.mem_of_getElem? (i := 11) rfl)))) (mvT hZ (hw _ (List.mem_of_getElem? (i := 11) rfl))) (mvT hZ (hw _ (List.mem_of_getElem? (i := 10) rfl))) (by decide) (backOf (W := 0) (rm2 l Z a0 hw [] a_DIVIDE a_EQUAL a_NOT_EQUAL a_LESS a_LESS_OR_EQUAL a_GREATER a_GREATER_OR_EQUAL h0 n0 Z0 S_EQUAL S_NOT_EQUAL S_LESS S_LESS_OR_EQUAL S_GREATER S_GREATER_OR_EQUAL) hZ (hw _ (List.mem_of_getElem? (i := 12) rfl)) (hw _ (List.mem_of_getElem? (i := 6) rfl)) (by decide) (by decide)) q24a q24c (g := (mkF m 31 #[.val (.int i0), .val (.int (11 : Int32)), .val (.ref a_DIVIDE), .val (.int (0 : Int32))] [(.ref a_DIVIDE)])) rfl (by rw [hml]; rfl) (Steps.refl _) (argsL := []) (rest := []) (lenOf pd_91 rfl) rfl (by show 2 * 0 + _ ≤ _; exact Nat.le_of_eq rfl) (hb hby at_31) (fun _ _ => ⟨rfl, eh23, (by decide : 0 + 0 ≤ _), (by decide : 0 + 0 ≤ _)⟩)
    dsimp only [Pt.U, Pt.locs, Pt.cells, Pt.slots] at X24 l24 y24 z24 st24 hQ24
    subst l24 y24 z24
    obtain ⟨rfl, eh24, rfl⟩ := hQ24
    refine own_goT (S' := (T24.setTop (mkF m 34 #[.val (.int i0), .val (.int (11 : Int32)), .val (.ref a_DIVIDE), .val (.int (0 : Int32))] [(.int (own_in a_DIVIDE a_EQUAL a_NOT_EQUAL a_LESS a_LESS_OR_EQUAL a_GREATER a_GREATER_OR_EQUAL))]))) st24 ?_
    refine own_go (S' := (T24.setTop (mkF m 43 #[.val (.int i0), .val (.int (11 : Int32)), .val (.ref a_DIVIDE), .val (.int (0 : Int32))] [(.int (1 : Int32))]))) (fun _ k => XS.iloadN X24.here hx rfl (hb hby at_34) rfl (XS.icmpNo X24.here hx rfl (hb hby at_35) rfl (teq (by simp [own_in, n_DIVIDE_EQUAL, n_DIVIDE_NOT_EQUAL, n_DIVIDE_LESS, n_DIVIDE_LESS_OR_EQUAL, n_DIVIDE_GREATER, n_DIVIDE_GREATER_OR_EQUAL])).2 (XS.iconst X24.here hx rfl (hb hby at_38) (XS.goto X24.here hx rfl (pc0 := 39) (pc' := 43) rfl (hb hby at_39) (by decide) (by decide) k)))) ?_
    refine own_retN (t := .boolean) X24 hx hlk (by simp) Bd.returns (hb hby at_43) (by decide) (by decide) ?_
    exact ⟨rfl, by simpa using N0⟩
  · refine own_go (S' := (s₁.setTop (mkF m 9 #[.val (.int i0), .val (.int (12 : Int32)), .unset, .unset] [(.int (12 : Int32))]))) (fun _ k => XS.iloadN X0.here hx rfl (hb hby at_8) rfl k) ?_
    obtain ⟨v25, _, ⟨T25, L25, k25, n25⟩, -, X25, ⟨Lc25, hQ25, l25, y25, z25⟩, st25⟩ := Jvm.LawKit.callS X0 hx (y := (⟨"com/example/umform/umform/model/xpath/OperatorIsComparisonPinLaw", "operatorAt", "(I)Lcom/example/umform/umform/model/xpath/Operation$Operator;"⟩ : MethodName)) hown (mvT hZ (hw _ (List.mem_of_getElem? (i := 1) rfl))) (mvT hZ (hw _ (List.mem_of_getElem? (i := 2) rfl))) (mvT hZ (hw _ (List.mem_of_getElem? (i := 3) rfl))) (mvT hZ (hw _ (List.mem_of_getElem? (i := 4) rfl))) (by decide) (backOf (W := 0) (rm1 l Z a0 hw [] (12 : Int32) a_OR a_AND a_EQUAL a_NOT_EQUAL a_LESS a_LESS_OR_EQUAL a_GREATER a_GREATER_OR_EQUAL a_ADD a_SUBTRACT a_MULTIPLY a_DIVIDE a_MODULO a_UNION h0 n0 Z0 S_OR S_EQUAL S_NOT_EQUAL S_LESS S_LESS_OR_EQUAL S_GREATER S_GREATER_OR_EQUAL S_MODULO S_UNION S_DIVIDE S_MULTIPLY S_ADD S_AND S_SUBTRACT) hZ (hw _ (List.mem_of_getElem? (i := 4) rfl)) (hw _ (List.mem_of_getElem? (i := 3) rfl)) (by decide) (by decide)) (g := (mkF m 9 #[.val (.int i0), .val (.int (12 : Int32)), .unset, .unset] [(.int (12 : Int32))])) rfl (by rw [hml]; rfl) (argsL := [(.int (12 : Int32))]) (rest := []) (lenOf pd_90 rfl) rfl (by show 2 * 0 + _ ≤ _; exact Nat.le_of_eq rfl) (hb hby at_9) (fun _ _ => ⟨rfl, e0, (by decide : 0 + 0 ≤ _), (by decide : 0 + 0 ≤ _)⟩)
    dsimp only [Pt.U, Pt.locs, Pt.cells, Pt.slots] at X25 l25 y25 z25 st25 hQ25
    subst l25 y25 z25
    obtain ⟨hv25, eh25, rfl⟩ := hQ25
    rw [show own_pk (12 : Int32) a_OR a_AND a_EQUAL a_NOT_EQUAL a_LESS a_LESS_OR_EQUAL a_GREATER a_GREATER_OR_EQUAL a_ADD a_SUBTRACT a_MULTIPLY a_DIVIDE a_MODULO a_UNION = a_MODULO from by first | rfl | (simp [own_pk]; done) | decide] at hv25
    subst hv25
    refine own_go (S' := (T25.setTop (mkF m 12 #[.val (.int i0), .val (.int (12 : Int32)), .unset, .unset] [(.ref a_MODULO)]))) st25 ?_
    refine own_go (S' := (T25.setTop (mkF m 29 #[.val (.int i0), .val (.int (12 : Int32)), .val (.ref a_MODULO), .unset] [(.int (0 : Int32))]))) (fun _ k => XS.astoreN X25.here hx rfl (hb hby at_12) rfl rfl (l' := #[.val (.int i0), .val (.int (12 : Int32)), .val (.ref a_MODULO), .unset]) rfl (XS.iloadN X25.here hx rfl (hb hby at_13) rfl (XS.iconst X25.here hx rfl (hb hby at_14) (XS.icmpNo X25.here hx rfl (hb hby at_15) rfl (flt (by decide)).1 (XS.iloadN X25.here hx rfl (hb hby at_18) rfl (XS.bipush X25.here hx rfl (hb hby at_19) (XS.icmpYes X25.here hx rfl (pc0 := 21) (pc' := 28) rfl (hb hby at_21) rfl (tlt (by decide)).2.2.1 (by decide) (by decide) (XS.iconst X25.here hx rfl (hb hby at_28) k)))))))) ?_
    refine own_go (S' := (T25.setTop (mkF m 31 #[.val (.int i0), .val (.int (12 : Int32)), .val (.ref a_MODULO), .val (.int (0 : Int32))] [(.ref a_MODULO)]))) (fun _ k => XS.istoreN X25.here hx rfl (hb hby at_29) rfl (l' := #[.val (.int i0), .val (.int (12 : Int32)), .val (.ref a_MODULO), .val (.int (0 : Int32))]) rfl (XS.aloadN X25.here hx rfl (hb hby at_30) rfl rfl k)) ?_
    obtain ⟨cq26, kq26, q26a, q26b, q26c⟩ := isOf hZ eh25 E_MODULO
    obtain ⟨v26, _, ⟨T26, L26, k26, n26⟩, -, X26, ⟨Lc26, hQ26, l26, y26, z26⟩, st26⟩ := X25.virtualBack hx (y := (⟨"com/example/umform/umform/model/xpath/Operation$Operator", "isComparison", "()Z"⟩ : MethodName)) (z := (⟨"com/example/umform/umform/model/xpath/Operation$Operator", "isComparison", "()Z"⟩ : MethodName)) hown (mvT hZ (hw _ (List.mem_of_getElem? (i := 8) rfl))) (mvT hZ (hw _ (List.mem_of_getElem? (i := 9) rfl))) (notFace_of_selects (args := #[]) (mvT hZ (hw _ (List.mem_of_getElem? (i := 11) rfl)))) (mvT hZ (hw _ (List.mem_of_getElem? (i := 11) rfl))) (mvT hZ (hw _ (List.mem_of_getElem? (i := 10) rfl))) (by decide) (backOf (W := 0) (rm2 l Z a0 hw [] a_MODULO a_EQUAL a_NOT_EQUAL a_LESS a_LESS_OR_EQUAL a_GREATER a_GREATER_OR_EQUAL h0 n0 Z0 S_EQUAL S_NOT_EQUAL S_LESS S_LESS_OR_EQUAL S_GREATER S_GREATER_OR_EQUAL) hZ (hw _ (List.mem_of_getElem? (i := 12) rfl)) (hw _ (List.mem_of_getElem? (i := 6) rfl)) (by decide) (by decide)) q26a q26c (g := (mkF m 31 #[.val (.int i0), .val (.int (12 : Int32)), .val (.ref a_MODULO), .val (.int (0 : Int32))] [(.ref a_MODULO)])) rfl (by rw [hml]; rfl) (Steps.refl _) (argsL := []) (rest := []) (lenOf pd_91 rfl) rfl (by show 2 * 0 + _ ≤ _; exact Nat.le_of_eq rfl) (hb hby at_31) (fun _ _ => ⟨rfl, eh25, (by decide : 0 + 0 ≤ _), (by decide : 0 + 0 ≤ _)⟩)
    dsimp only [Pt.U, Pt.locs, Pt.cells, Pt.slots] at X26 l26 y26 z26 st26 hQ26
    subst l26 y26 z26
    obtain ⟨rfl, eh26, rfl⟩ := hQ26
    refine own_goT (S' := (T26.setTop (mkF m 34 #[.val (.int i0), .val (.int (12 : Int32)), .val (.ref a_MODULO), .val (.int (0 : Int32))] [(.int (own_in a_MODULO a_EQUAL a_NOT_EQUAL a_LESS a_LESS_OR_EQUAL a_GREATER a_GREATER_OR_EQUAL))]))) st26 ?_
    refine own_go (S' := (T26.setTop (mkF m 43 #[.val (.int i0), .val (.int (12 : Int32)), .val (.ref a_MODULO), .val (.int (0 : Int32))] [(.int (1 : Int32))]))) (fun _ k => XS.iloadN X26.here hx rfl (hb hby at_34) rfl (XS.icmpNo X26.here hx rfl (hb hby at_35) rfl (teq (by simp [own_in, n_MODULO_EQUAL, n_MODULO_NOT_EQUAL, n_MODULO_LESS, n_MODULO_LESS_OR_EQUAL, n_MODULO_GREATER, n_MODULO_GREATER_OR_EQUAL])).2 (XS.iconst X26.here hx rfl (hb hby at_38) (XS.goto X26.here hx rfl (pc0 := 39) (pc' := 43) rfl (hb hby at_39) (by decide) (by decide) k)))) ?_
    refine own_retN (t := .boolean) X26 hx hlk (by simp) Bd.returns (hb hby at_43) (by decide) (by decide) ?_
    exact ⟨rfl, by simpa using N0⟩
  · refine own_go (S' := (s₁.setTop (mkF m 9 #[.val (.int i0), .val (.int (13 : Int32)), .unset, .unset] [(.int (13 : Int32))]))) (fun _ k => XS.iloadN X0.here hx rfl (hb hby at_8) rfl k) ?_
    obtain ⟨v27, _, ⟨T27, L27, k27, n27⟩, -, X27, ⟨Lc27, hQ27, l27, y27, z27⟩, st27⟩ := Jvm.LawKit.callS X0 hx (y := (⟨"com/example/umform/umform/model/xpath/OperatorIsComparisonPinLaw", "operatorAt", "(I)Lcom/example/umform/umform/model/xpath/Operation$Operator;"⟩ : MethodName)) hown (mvT hZ (hw _ (List.mem_of_getElem? (i := 1) rfl))) (mvT hZ (hw _ (List.mem_of_getElem? (i := 2) rfl))) (mvT hZ (hw _ (List.mem_of_getElem? (i := 3) rfl))) (mvT hZ (hw _ (List.mem_of_getElem? (i := 4) rfl))) (by decide) (backOf (W := 0) (rm1 l Z a0 hw [] (13 : Int32) a_OR a_AND a_EQUAL a_NOT_EQUAL a_LESS a_LESS_OR_EQUAL a_GREATER a_GREATER_OR_EQUAL a_ADD a_SUBTRACT a_MULTIPLY a_DIVIDE a_MODULO a_UNION h0 n0 Z0 S_OR S_EQUAL S_NOT_EQUAL S_LESS S_LESS_OR_EQUAL S_GREATER S_GREATER_OR_EQUAL S_MODULO S_UNION S_DIVIDE S_MULTIPLY S_ADD S_AND S_SUBTRACT) hZ (hw _ (List.mem_of_getElem? (i := 4) rfl)) (hw _ (List.mem_of_getElem? (i := 3) rfl)) (by decide) (by decide)) (g := (mkF m 9 #[.val (.int i0), .val (.int (13 : Int32)), .unset, .unset] [(.int (13 : Int32))])) rfl (by rw [hml]; rfl) (argsL := [(.int (13 : Int32))]) (rest := []) (lenOf pd_90 rfl) rfl (by show 2 * 0 + _ ≤ _; exact Nat.le_of_eq rfl) (hb hby at_9) (fun _ _ => ⟨rfl, e0, (by decide : 0 + 0 ≤ _), (by decide : 0 + 0 ≤ _)⟩)
    dsimp only [Pt.U, Pt.locs, Pt.cells, Pt.slots] at X27 l27 y27 z27 st27 hQ27
    subst l27 y27 z27
    obtain ⟨hv27, eh27, rfl⟩ := hQ27
    rw [show own_pk (13 : Int32) a_OR a_AND a_EQUAL a_NOT_EQUAL a_LESS a_LESS_OR_EQUAL a_GREATER a_GREATER_OR_EQUAL a_ADD a_SUBTRACT a_MULTIPLY a_DIVIDE a_MODULO a_UNION = a_UNION from by first | rfl | (simp [own_pk]; done) | decide] at hv27
    subst hv27
    refine own_go (S' := (T27.setTop (mkF m 12 #[.val (.int i0), .val (.int (13 : Int32)), .unset, .unset] [(.ref a_UNION)]))) st27 ?_
    refine own_go (S' := (T27.setTop (mkF m 29 #[.val (.int i0), .val (.int (13 : Int32)), .val (.ref a_UNION), .unset] [(.int (0 : Int32))]))) (fun _ k => XS.astoreN X27.here hx rfl (hb hby at_12) rfl rfl (l' := #[.val (.int i0), .val (.int (13 : Int32)), .val (.ref a_UNION), .unset]) rfl (XS.iloadN X27.here hx rfl (hb hby at_13) rfl (XS.iconst X27.here hx rfl (hb hby at_14) (XS.icmpNo X27.here hx rfl (hb hby at_15) rfl (flt (by decide)).1 (XS.iloadN X27.here hx rfl (hb hby at_18) rfl (XS.bipush X27.here hx rfl (hb hby at_19) (XS.icmpYes X27.here hx rfl (pc0 := 21) (pc' := 28) rfl (hb hby at_21) rfl (tlt (by decide)).2.2.1 (by decide) (by decide) (XS.iconst X27.here hx rfl (hb hby at_28) k)))))))) ?_
    refine own_go (S' := (T27.setTop (mkF m 31 #[.val (.int i0), .val (.int (13 : Int32)), .val (.ref a_UNION), .val (.int (0 : Int32))] [(.ref a_UNION)]))) (fun _ k => XS.istoreN X27.here hx rfl (hb hby at_29) rfl (l' := #[.val (.int i0), .val (.int (13 : Int32)), .val (.ref a_UNION), .val (.int (0 : Int32))]) rfl (XS.aloadN X27.here hx rfl (hb hby at_30) rfl rfl k)) ?_
    obtain ⟨cq28, kq28, q28a, q28b, q28c⟩ := isOf hZ eh27 E_UNION
    obtain ⟨v28, _, ⟨T28, L28, k28, n28⟩, -, X28, ⟨Lc28, hQ28, l28, y28, z28⟩, st28⟩ := X27.virtualBack hx (y := (⟨"com/example/umform/umform/model/xpath/Operation$Operator", "isComparison", "()Z"⟩ : MethodName)) (z := (⟨"com/example/umform/umform/model/xpath/Operation$Operator", "isComparison", "()Z"⟩ : MethodName)) hown (mvT hZ (hw _ (List.mem_of_getElem? (i := 8) rfl))) (mvT hZ (hw _ (List.mem_of_getElem? (i := 9) rfl))) (notFace_of_selects (args := #[]) (mvT hZ (hw _ (List.mem_of_getElem? (i := 11) rfl)))) (mvT hZ (hw _ (List.mem_of_getElem? (i := 11) rfl))) (mvT hZ (hw _ (List.mem_of_getElem? (i := 10) rfl))) (by decide) (backOf (W := 0) (rm2 l Z a0 hw [] a_UNION a_EQUAL a_NOT_EQUAL a_LESS a_LESS_OR_EQUAL a_GREATER a_GREATER_OR_EQUAL h0 n0 Z0 S_EQUAL S_NOT_EQUAL S_LESS S_LESS_OR_EQUAL S_GREATER S_GREATER_OR_EQUAL) hZ (hw _ (List.mem_of_getElem? (i := 12) rfl)) (hw _ (List.mem_of_getElem? (i := 6) rfl)) (by decide) (by decide)) q28a q28c (g := (mkF m 31 #[.val (.int i0), .val (.int (13 : Int32)), .val (.ref a_UNION), .val (.int (0 : Int32))] [(.ref a_UNION)])) rfl (by rw [hml]; rfl) (Steps.refl _) (argsL := []) (rest := []) (lenOf pd_91 rfl) rfl (by show 2 * 0 + _ ≤ _; exact Nat.le_of_eq rfl) (hb hby at_31) (fun _ _ => ⟨rfl, eh27, (by decide : 0 + 0 ≤ _), (by decide : 0 + 0 ≤ _)⟩)
    dsimp only [Pt.U, Pt.locs, Pt.cells, Pt.slots] at X28 l28 y28 z28 st28 hQ28
    subst l28 y28 z28
    obtain ⟨rfl, eh28, rfl⟩ := hQ28
    refine own_goT (S' := (T28.setTop (mkF m 34 #[.val (.int i0), .val (.int (13 : Int32)), .val (.ref a_UNION), .val (.int (0 : Int32))] [(.int (own_in a_UNION a_EQUAL a_NOT_EQUAL a_LESS a_LESS_OR_EQUAL a_GREATER a_GREATER_OR_EQUAL))]))) st28 ?_
    refine own_go (S' := (T28.setTop (mkF m 43 #[.val (.int i0), .val (.int (13 : Int32)), .val (.ref a_UNION), .val (.int (0 : Int32))] [(.int (1 : Int32))]))) (fun _ k => XS.iloadN X28.here hx rfl (hb hby at_34) rfl (XS.icmpNo X28.here hx rfl (hb hby at_35) rfl (teq (by simp [own_in, n_UNION_EQUAL, n_UNION_NOT_EQUAL, n_UNION_LESS, n_UNION_LESS_OR_EQUAL, n_UNION_GREATER, n_UNION_GREATER_OR_EQUAL])).2 (XS.iconst X28.here hx rfl (hb hby at_38) (XS.goto X28.here hx rfl (pc0 := 39) (pc' := 43) rfl (hb hby at_39) (by decide) (by decide) k)))) ?_
    refine own_retN (t := .boolean) X28 hx hlk (by simp) Bd.returns (hb hby at_43) (by decide) (by decide) ?_
    exact ⟨rfl, by simpa using N0⟩
set_option maxRecDepth 65536 in
set_option maxHeartbeats 40000000 in
theorem comes_1 {Post : Tables → Env → Array Value → State → Outcome → State → Prop} (hpost : ∀ tb e args s v u, (limb_1_1.after args s (.returned v) u = true ∧ limb_1_2.after args s (.returned v) u = true ∧ True) → FrameEnd s (.returned v) u (Jvm.fieldLocs frame_1_writes args s ++ Jvm.arrayLocs frame_1_arrays args s ++ Jvm.staticLocs frame_1_statics s) 0 0 → Post tb e args s (.returned v) u) :
    ArmFor flags0 classFile x code maxLocals ret World_1 tables_1 room_1 Calls_1 rest_1 Pre_1 Post := by
  intro l hfl _ _ p e ha hc hk s m args below hf hA hF happ hP
  obtain ⟨hcalls, hrest, hpre⟩ := hP
  obtain ⟨-, -, -, hnamed, -, -, -, hat⟩ := (Spec.applies_iff hf).mp happ
  obtain ⟨hg, hn⟩ := and_e (Cond.before_iff.mp (show (Jvm.Cond.and given_1 narrow_1).before args s = true from hpre))
  obtain ⟨h1, h2⟩ := and_e hg
  obtain ⟨w0, rfl⟩ : ∃ w0 : Value, args = #[w0] := by
    have hs : args.size = 1 := by simpa [Cond.value, given_1] using h1
    obtain ⟨L⟩ := args
    match L, hs with
    | [w0], _ => exact ⟨w0, rfl⟩
  have hw := fun d (hd : d ∈ tables_1) => atoms_spec (ws := Jvm.Cond.code x code maxLocals ret :: tables_1) hat d (List.mem_cons_of_mem _ hd)
  have hfit : Fit s := fun {y c} hc i hi => by
    obtain ⟨ha, rfl⟩ := Array.getElem?_eq_some_iff.mp hc
    have q := List.all_eq_true.mp ((Array.all_eq_true_iff_forall_mem.mp hF) _ (Array.getElem_mem ha)) i (List.mem_range.mpr hi)
    simpa [Array.getElem?_eq_getElem hi] using q
  obtain ⟨i0, ev0⟩ := is_v h2
  obtain rfl : w0 = (.int i0) := Option.some.inj ev0
  obtain ⟨nw0, nr0⟩ := and_e hn
  obtain ⟨nw1, nr1⟩ := and_e nr0
  obtain ⟨nw2, nr2⟩ := and_e nr1
  obtain ⟨nw3, nr3⟩ := and_e nr2
  obtain ⟨nw4, nr4⟩ := and_e nr3
  obtain ⟨nw5, nr5⟩ := and_e nr4
  obtain ⟨nw6, nr6⟩ := and_e nr5
  obtain ⟨nw7, nr7⟩ := and_e nr6
  obtain ⟨nw8, nr8⟩ := and_e nr7
  obtain ⟨nw9, nr9⟩ := and_e nr8
  obtain ⟨nw10, nr10⟩ := and_e nr9
  obtain ⟨nw11, nr11⟩ := and_e nr10
  obtain ⟨nw12, nr12⟩ := and_e nr11
  obtain ⟨nw13, nr13⟩ := and_e nr12
  obtain ⟨nw14, nr14⟩ := and_e nr13
  obtain ⟨nw15, nr15⟩ := and_e nr14
  obtain ⟨nw16, nr16⟩ := and_e nr15
  obtain ⟨nw17, nr17⟩ := and_e nr16
  obtain ⟨nw18, nr18⟩ := and_e nr17
  obtain ⟨nw19, nr19⟩ := and_e nr18
  obtain ⟨nw20, nr20⟩ := and_e nr19
  obtain ⟨nw21, nr21⟩ := and_e nr20
  obtain ⟨nw22, nr22⟩ := and_e nr21
  obtain ⟨nw23, nr23⟩ := and_e nr22
  obtain ⟨nw24, nr24⟩ := and_e nr23
  obtain ⟨nw25, nr25⟩ := and_e nr24
  obtain ⟨nw26, nr26⟩ := and_e nr25
  obtain ⟨a_OR, ev_OR⟩ := exa_v nw0
  have E_OR := Exa.start ev_OR nw0
  have S_OR := Sta.start ev_OR (Or.inr ⟨(hw _ (List.mem_of_getElem? (i := 6) rfl)), (hw _ (List.mem_of_getElem? (i := 7) rfl))⟩)
  obtain ⟨a_EQUAL, ev_EQUAL⟩ := exa_v nw1
  have E_EQUAL := Exa.start ev_EQUAL nw1
  have S_EQUAL := Sta.start ev_EQUAL (Or.inr ⟨(hw _ (List.mem_of_getElem? (i := 6) rfl)), (hw _ (List.mem_of_getElem? (i := 14) rfl))⟩)
  obtain ⟨a_NOT_EQUAL, ev_NOT_EQUAL⟩ := exa_v nw4
  have E_NOT_EQUAL := Exa.start ev_NOT_EQUAL nw4
  have S_NOT_EQUAL := Sta.start ev_NOT_EQUAL (Or.inr ⟨(hw _ (List.mem_of_getElem? (i := 6) rfl)), (hw _ (List.mem_of_getElem? (i := 16) rfl))⟩)
  obtain ⟨a_LESS, ev_LESS⟩ := exa_v nw6
  have E_LESS := Exa.start ev_LESS nw6
  have S_LESS := Sta.start ev_LESS (Or.inr ⟨(hw _ (List.mem_of_getElem? (i := 6) rfl)), (hw _ (List.mem_of_getElem? (i := 18) rfl))⟩)
  obtain ⟨a_LESS_OR_EQUAL, ev_LESS_OR_EQUAL⟩ := exa_v nw8
  have E_LESS_OR_EQUAL := Exa.start ev_LESS_OR_EQUAL nw8
  have S_LESS_OR_EQUAL := Sta.start ev_LESS_OR_EQUAL (Or.inr ⟨(hw _ (List.mem_of_getElem? (i := 6) rfl)), (hw _ (List.mem_of_getElem? (i := 20) rfl))⟩)
  obtain ⟨a_GREATER, ev_GREATER⟩ := exa_v nw10
  have E_GREATER := Exa.start ev_GREATER nw10
  have S_GREATER := Sta.start ev_GREATER (Or.inr ⟨(hw _ (List.mem_of_getElem? (i := 6) rfl)), (hw _ (List.mem_of_getElem? (i := 22) rfl))⟩)
  obtain ⟨a_GREATER_OR_EQUAL, ev_GREATER_OR_EQUAL⟩ := exa_v nw12
  have E_GREATER_OR_EQUAL := Exa.start ev_GREATER_OR_EQUAL nw12
  have S_GREATER_OR_EQUAL := Sta.start ev_GREATER_OR_EQUAL (Or.inr ⟨(hw _ (List.mem_of_getElem? (i := 6) rfl)), (hw _ (List.mem_of_getElem? (i := 24) rfl))⟩)
  obtain ⟨a_MODULO, ev_MODULO⟩ := exa_v nw14
  have E_MODULO := Exa.start ev_MODULO nw14
  have S_MODULO := Sta.start ev_MODULO (Or.inr ⟨(hw _ (List.mem_of_getElem? (i := 6) rfl)), (hw _ (List.mem_of_getElem? (i := 27) rfl))⟩)
  obtain ⟨a_UNION, ev_UNION⟩ := exa_v nw16
  have E_UNION := Exa.start ev_UNION nw16
  have S_UNION := Sta.start ev_UNION (Or.inr ⟨(hw _ (List.mem_of_getElem? (i := 6) rfl)), (hw _ (List.mem_of_getElem? (i := 29) rfl))⟩)
  obtain ⟨a_DIVIDE, ev_DIVIDE⟩ := exa_v nw18
  have E_DIVIDE := Exa.start ev_DIVIDE nw18
  have S_DIVIDE := Sta.start ev_DIVIDE (Or.inr ⟨(hw _ (List.mem_of_getElem? (i := 6) rfl)), (hw _ (List.mem_of_getElem? (i := 34) rfl))⟩)
  obtain ⟨a_MULTIPLY, ev_MULTIPLY⟩ := exa_v nw20
  have E_MULTIPLY := Exa.start ev_MULTIPLY nw20
  have S_MULTIPLY := Sta.start ev_MULTIPLY (Or.inr ⟨(hw _ (List.mem_of_getElem? (i := 6) rfl)), (hw _ (List.mem_of_getElem? (i := 36) rfl))⟩)
  obtain ⟨a_ADD, ev_ADD⟩ := exa_v nw22
  have E_ADD := Exa.start ev_ADD nw22
  have S_ADD := Sta.start ev_ADD (Or.inr ⟨(hw _ (List.mem_of_getElem? (i := 6) rfl)), (hw _ (List.mem_of_getElem? (i := 38) rfl))⟩)
  obtain ⟨a_AND, ev_AND⟩ := exa_v nw24
  have E_AND := Exa.start ev_AND nw24
  have S_AND := Sta.start ev_AND (Or.inr ⟨(hw _ (List.mem_of_getElem? (i := 6) rfl)), (hw _ (List.mem_of_getElem? (i := 40) rfl))⟩)
  obtain ⟨a_SUBTRACT, ev_SUBTRACT⟩ := exa_v nw26
  have E_SUBTRACT := Exa.start ev_SUBTRACT nw26
  have S_SUBTRACT := Sta.start ev_SUBTRACT (Or.inr ⟨(hw _ (List.mem_of_getElem? (i := 6) rfl)), (hw _ (List.mem_of_getElem? (i := 42) rfl))⟩)
  have F_OR_ordinal := Fld.start ((fld_at ev_OR).symm.trans (own_eqInt nw2))
  have F_EQUAL_ordinal := Fld.start ((fld_at ev_EQUAL).symm.trans (own_eqInt nw3))
  have F_NOT_EQUAL_ordinal := Fld.start ((fld_at ev_NOT_EQUAL).symm.trans (own_eqInt nw5))
  have F_LESS_ordinal := Fld.start ((fld_at ev_LESS).symm.trans (own_eqInt nw7))
  have F_LESS_OR_EQUAL_ordinal := Fld.start ((fld_at ev_LESS_OR_EQUAL).symm.trans (own_eqInt nw9))
  have F_GREATER_ordinal := Fld.start ((fld_at ev_GREATER).symm.trans (own_eqInt nw11))
  have F_GREATER_OR_EQUAL_ordinal := Fld.start ((fld_at ev_GREATER_OR_EQUAL).symm.trans (own_eqInt nw13))
  have F_MODULO_ordinal := Fld.start ((fld_at ev_MODULO).symm.trans (own_eqInt nw15))
  have F_UNION_ordinal := Fld.start ((fld_at ev_UNION).symm.trans (own_eqInt nw17))
  have F_DIVIDE_ordinal := Fld.start ((fld_at ev_DIVIDE).symm.trans (own_eqInt nw19))
  have F_MULTIPLY_ordinal := Fld.start ((fld_at ev_MULTIPLY).symm.trans (own_eqInt nw21))
  have F_ADD_ordinal := Fld.start ((fld_at ev_ADD).symm.trans (own_eqInt nw23))
  have F_AND_ordinal := Fld.start ((fld_at ev_AND).symm.trans (own_eqInt nw25))
  have F_SUBTRACT_ordinal := Fld.start ((fld_at ev_SUBTRACT).symm.trans (own_eqInt nr26))
  obtain ⟨n, o, h1, h2, h3, _, L, rfl, ⟨rfl, N⟩, hq⟩ := rm0 l s _ hw tables_1 i0 a_OR a_EQUAL a_NOT_EQUAL a_LESS a_LESS_OR_EQUAL a_GREATER a_GREATER_OR_EQUAL a_MODULO a_UNION a_DIVIDE a_MULTIPLY a_ADD a_AND a_SUBTRACT s.heap s.heap.size (Nat.le_refl _) S_OR S_EQUAL S_NOT_EQUAL S_LESS S_LESS_OR_EQUAL S_GREATER S_GREATER_OR_EQUAL S_MODULO S_UNION S_DIVIDE S_MULTIPLY S_ADD S_AND S_SUBTRACT E_OR E_EQUAL E_NOT_EQUAL E_LESS E_LESS_OR_EQUAL E_GREATER E_GREATER_OR_EQUAL E_MODULO E_UNION E_DIVIDE E_MULTIPLY E_ADD E_AND E_SUBTRACT F_OR_ordinal F_EQUAL_ordinal F_NOT_EQUAL_ordinal F_LESS_ordinal F_LESS_OR_EQUAL_ordinal F_GREATER_ordinal F_GREATER_OR_EQUAL_ordinal F_MODULO_ordinal F_UNION_ordinal F_DIVIDE_ordinal F_MULTIPLY_ordinal F_ADD_ordinal F_AND_ordinal F_SUBTRACT_ordinal p e ha hc hk s m _ below hf ((Spec.applies_iff_loose hf).mp happ).1 ⟨rfl, State.Warmed39.refl s, rfl⟩ trivial
  refine ⟨n, _, h1, h2, h3, hpost _ _ _ _ _ _ ⟨Cond.after_iff.mpr rfl, Cond.after_iff.mpr (eq_i res_at (Term.int_eval (1)) rfl), trivial⟩ ⟨hq.1, hq.2.1, (hq.2.2.sift fun y hy => Or.inr (N y hy)).mono (by decide) (by decide)⟩⟩
theorem main_1_1 : Claimed_1_1 := comes_1 fun _ _ _ _ _ _ h hF => ⟨h.1, hF⟩
theorem main_1_2 : Claimed_1_2 := comes_1 fun _ _ _ _ _ _ h hF => ⟨h.2.1, hF⟩
end Jvm.Pilot.@@N@@
namespace Jvm.Pilot.@@N@@
open Jvm Jvm.ClassFile Sem Op Lib Jvm.Free Jvm.Stand Jvm.Pilot.@@N@@.Jvm.D
/-! MADE BY PROGRAM (witnessworld.py) out of the Statement's table words and the real class files: 12 classes; the members and pool entries that the words name. The judged class is class 1, her method 1. -/
namespace start1
open Jvm.ClassFile
def u (s : String) : CpInfo := .utf8 (stringToUtf16 s)
/-- a pool by its gaps: so many unusable entries, then the entry; so many at the end -/
def gap : Nat → List CpInfo → List CpInfo
  | 0, r => r
  | n + 1, r => .unusable :: gap n r
def poolList (es : List (Nat × CpInfo)) (last : Nat) : List CpInfo := es.foldr (fun e r => gap e.1 (e.2 :: r)) (gap last [])
def pool (es : List (Nat × CpInfo)) (last : Nat) : Array CpInfo := ⟨poolList es last⟩
def fileOf (pool : Array CpInfo) (this : Nat) (attrs : Array Attribute := #[]) (ms : Array MethodInfo := #[]) (fl : Nat := 33) (sup : Nat := 0) (ifs : Array Nat := #[]) (fds : Array FieldInfo := #[]) : ClassFile where
  minorVersion := 0
  majorVersion := 65
  constantPool := pool
  accessFlags := fl
  thisClass := this
  superClass := sup
  interfaces := ifs
  fields := fds
  methods := ms
  attributes := attrs
def plain (name : String) (sup : Option ClassId) : Class where
  name := name
  kind := .ordinary
  loader := none
  accessFlags := 33
  super := sup
  interfaces := #[]
  cf := none
  fields := #[]
  methods := #[]
  instanceTypes := #[]
  staticTypes := #[]
  resolved := #[]
  callSites := []
  init := .initialized
  statics := none
  mirror := none

def pool0 : Array CpInfo := pool [(5, u "<init>"), (0, u "()V"), (1, .class_ 10), (1, u "java/lang/Object")] 113

def k0m0 : Method := { name := "<init>", desc := "()V", sig := { parameters := [], returnType := none }, accessFlags := 1, code := none }
/-- java/lang/Object -/
def k0 : Class := { plain "java/lang/Object" none with
  accessFlags := 33
  interfaces := #[]
  cf := some (fileOf pool0 8 #[] #[{ accessFlags := 1, nameIndex := 5, descriptorIndex := 6, attributes := #[] }] 33 0 #[] #[])
  fields := #[]
  methods := #[k0m0]
  instanceTypes := #[]
  staticTypes := #[]
  resolved := Array.replicate 124 none
  statics := none }

def pool1 : Array CpInfo := pool [(2, .class_ 4), (1, u "java/lang/Object"), (0, u "<init>"), (0, u "()V"), (0, .integer 2147483647), (0, .methodref 9 10), (0, .class_ 11), (0, .nameAndType 12 13), (0, u "com/example/umform/umform/model/xpath/OperatorIsComparisonPinLaw"), (0, u "operatorAt"), (0, u "(I)Lcom/example/umform/umform/model/xpath/Operation$Operator;"), (0, .methodref 15 16), (0, .class_ 17), (0, .nameAndType 18 19), (0, u "com/example/umform/umform/model/xpath/Operation$Operator"), (0, u "isComparison"), (0, u "()Z"), (0, .fieldref 15 21), (0, .nameAndType 22 23), (0, u "OR"), (0, u "Lcom/example/umform/umform/model/xpath/Operation$Operator;"), (0, .fieldref 15 25), (0, .nameAndType 26 23), (0, u "AND"), (0, .fieldref 15 28), (0, .nameAndType 29 23), (0, u "EQUAL"), (0, .fieldref 15 31), (0, .nameAndType 32 23), (0, u "NOT_EQUAL"), (0, .fieldref 15 34), (0, .nameAndType 35 23), (0, u "LESS"), (0, .fieldref 15 37), (0, .nameAndType 38 23), (0, u "LESS_OR_EQUAL"), (0, .fieldref 15 40), (0, .nameAndType 41 23), (0, u "GREATER"), (0, .fieldref 15 43), (0, .nameAndType 44 23), (0, u "GREATER_OR_EQUAL"), (0, .fieldref 15 46), (0, .nameAndType 47 23), (0, u "ADD"), (0, .fieldref 15 49), (0, .nameAndType 50 23), (0, u "SUBTRACT"), (0, .fieldref 15 52), (0, .nameAndType 53 23), (0, u "MULTIPLY"), (0, .fieldref 15 55), (0, .nameAndType 56 23), (0, u "DIVIDE"), (0, .fieldref 15 58), (0, .nameAndType 59 23), (0, u "MODULO"), (0, .fieldref 15 61), (0, .nameAndType 62 23), (0, u "UNION"), (2, u "law"), (0, u "(I)Z")] 7

def k1m0 : Method := { name := "<init>", desc := "()V", sig := { parameters := [], returnType := none }, accessFlags := 2, code := none }
def k1c1 : Code := { maxStack := 2, maxLocals := 4, code := code, exceptionTable := #[], attributes := #[] }
def k1m1 : Method := { name := "law", desc := "(I)Z", sig := { parameters := [.int], returnType := some .boolean }, accessFlags := 9, code := some k1c1 }
def k1c2 : Code := { maxStack := 2, maxLocals := 1, code := method_3_code, exceptionTable := #[], attributes := #[] }
def k1m2 : Method := { name := "operatorAt", desc := "(I)Lcom/example/umform/umform/model/xpath/Operation$Operator;", sig := { parameters := [.int], returnType := some (.object "com/example/umform/umform/model/xpath/Operation$Operator") }, accessFlags := 10, code := some k1c2 }
/-- com/example/umform/umform/model/xpath/OperatorIsComparisonPinLaw -/
def k1 : Class := { plain "com/example/umform/umform/model/xpath/OperatorIsComparisonPinLaw" (some 0) with
  accessFlags := 49
  interfaces := #[]
  cf := some (fileOf pool1 9 #[] #[{ accessFlags := 2, nameIndex := 5, descriptorIndex := 6, attributes := #[] }, { accessFlags := 9, nameIndex := 65, descriptorIndex := 66, attributes := #[] }, { accessFlags := 10, nameIndex := 12, descriptorIndex := 13, attributes := #[] }] 49 2 #[] #[])
  fields := #[]
  methods := #[k1m0, k1m1, k1m2]
  instanceTypes := #[]
  staticTypes := #[]
  resolved := Array.replicate 74 none
  statics := none }

def pool2 : Array CpInfo := pool [(1, .class_ 2), (0, u "java/lang/constant/Constable"), (0, .class_ 4), (0, u "java/lang/Object")] 6

/-- java/lang/constant/Constable -/
def k2 : Class := { plain "java/lang/constant/Constable" (some 0) with
  accessFlags := 1537
  interfaces := #[]
  cf := some (fileOf pool2 1 #[] #[] 1537 3 #[] #[])
  fields := #[]
  methods := #[]
  instanceTypes := #[]
  staticTypes := #[]
  resolved := Array.replicate 11 none
  statics := none }

def pool3 : Array CpInfo := pool [(1, .class_ 2), (0, u "java/lang/Comparable"), (0, .class_ 4), (0, u "java/lang/Object")] 7

/-- java/lang/Comparable -/
def k3 : Class := { plain "java/lang/Comparable" (some 0) with
  accessFlags := 1537
  interfaces := #[]
  cf := some (fileOf pool3 1 #[] #[] 1537 3 #[] #[])
  fields := #[]
  methods := #[]
  instanceTypes := #[]
  staticTypes := #[]
  resolved := Array.replicate 12 none
  statics := none }

def pool4 : Array CpInfo := pool [(1, .class_ 2), (0, u "java/io/Serializable"), (0, .class_ 4), (0, u "java/lang/Object")] 2

/-- java/io/Serializable -/
def k4 : Class := { plain "java/io/Serializable" (some 0) with
  accessFlags := 1537
  interfaces := #[]
  cf := some (fileOf pool4 1 #[] #[] 1537 3 #[] #[])
  fields := #[]
  methods := #[]
  instanceTypes := #[]
  staticTypes := #[]
  resolved := Array.replicate 7 none
  statics := none }

def pool5 : Array CpInfo := pool [(2, .class_ 4), (1, u "java/lang/Enum"), (0, u "name"), (0, u "Ljava/lang/String;"), (2, u "ordinal"), (0, u "I"), (1, .class_ 14), (1, u "java/lang/Object"), (4, u "hash"), (86, .class_ 108), (1, u "java/lang/Enum$EnumDesc"), (2, .class_ 112), (0, u "java/lang/constant/Constable"), (0, .class_ 114), (0, u "java/lang/Comparable"), (0, .class_ 116), (0, u "java/io/Serializable")] 87

/-- java/lang/Enum -/
def k5 : Class := { plain "java/lang/Enum" (some 0) with
  accessFlags := 1057
  interfaces := #[2, 3, 4]
  cf := some (fileOf pool5 2 #[.nestMembers #[106]] #[] 1057 12 #[111, 113, 115] #[{ accessFlags := 18, nameIndex := 5, descriptorIndex := 6, attributes := #[] }, { accessFlags := 18, nameIndex := 9, descriptorIndex := 10, attributes := #[] }, { accessFlags := 2, nameIndex := 19, descriptorIndex := 10, attributes := #[] }])
  fields := #[{ name := "name", type := (.object "java/lang/String"), accessFlags := 18, slot := 0, constantValue := 0 }, { name := "ordinal", type := .int, accessFlags := 18, slot := 1, constantValue := 0 }, { name := "hash", type := .int, accessFlags := 2, slot := 2, constantValue := 0 }]
  methods := #[]
  instanceTypes := #[(.object "java/lang/String"), .int, .int]
  staticTypes := #[]
  resolved := Array.replicate 204 none
  statics := none }

def pool6 : Array CpInfo := pool [(1, .class_ 2), (0, u "com/example/umform/umform/model/xpath/Operation$Operator"), (2, u "OR"), (0, u "Lcom/example/umform/umform/model/xpath/Operation$Operator;"), (2, u "AND"), (0, .fieldref 1 11), (0, .nameAndType 12 6), (0, u "EQUAL"), (0, .fieldref 1 14), (0, .nameAndType 15 6), (0, u "NOT_EQUAL"), (0, .fieldref 1 17), (0, .nameAndType 18 6), (0, u "LESS"), (0, .fieldref 1 20), (0, .nameAndType 21 6), (0, u "LESS_OR_EQUAL"), (0, .fieldref 1 23), (0, .nameAndType 24 6), (0, u "GREATER"), (0, .fieldref 1 26), (0, .nameAndType 27 6), (0, u "GREATER_OR_EQUAL"), (2, u "ADD"), (2, u "SUBTRACT"), (2, u "MULTIPLY"), (2, u "DIVIDE"), (2, u "MODULO"), (2, u "UNION"), (2, u "$VALUES"), (0, u "[Lcom/example/umform/umform/model/xpath/Operation$Operator;"), (6, .class_ 58), (1, u "java/lang/Enum"), (32, u "isComparison"), (0, u "()Z"), (7, .class_ 101), (0, u "com/example/umform/umform/model/xpath/Operation")] 2

def k6c0 : Code := { maxStack := 2, maxLocals := 1, code := prog_142_method_4_code, exceptionTable := #[], attributes := #[] }
def k6m0 : Method := { name := "isComparison", desc := "()Z", sig := { parameters := [], returnType := some .boolean }, accessFlags := 1, code := some k6c0 }
/-- com/example/umform/umform/model/xpath/Operation$Operator -/
def k6 : Class := { plain "com/example/umform/umform/model/xpath/Operation$Operator" (some 5) with
  accessFlags := 16433
  interfaces := #[]
  cf := some (fileOf pool6 1 #[.nestHost 100] #[{ accessFlags := 1, nameIndex := 91, descriptorIndex := 92, attributes := #[] }] 16433 56 #[] #[{ accessFlags := 16409, nameIndex := 5, descriptorIndex := 6, attributes := #[] }, { accessFlags := 16409, nameIndex := 9, descriptorIndex := 6, attributes := #[] }, { accessFlags := 16409, nameIndex := 12, descriptorIndex := 6, attributes := #[] }, { accessFlags := 16409, nameIndex := 15, descriptorIndex := 6, attributes := #[] }, { accessFlags := 16409, nameIndex := 18, descriptorIndex := 6, attributes := #[] }, { accessFlags := 16409, nameIndex := 21, descriptorIndex := 6, attributes := #[] }, { accessFlags := 16409, nameIndex := 24, descriptorIndex := 6, attributes := #[] }, { accessFlags := 16409, nameIndex := 27, descriptorIndex := 6, attributes := #[] }, { accessFlags := 16409, nameIndex := 30, descriptorIndex := 6, attributes := #[] }, { accessFlags := 16409, nameIndex := 33, descriptorIndex := 6, attributes := #[] }, { accessFlags := 16409, nameIndex := 36, descriptorIndex := 6, attributes := #[] }, { accessFlags := 16409, nameIndex := 39, descriptorIndex := 6, attributes := #[] }, { accessFlags := 16409, nameIndex := 42, descriptorIndex := 6, attributes := #[] }, { accessFlags := 16409, nameIndex := 45, descriptorIndex := 6, attributes := #[] }, { accessFlags := 4122, nameIndex := 48, descriptorIndex := 49, attributes := #[] }])
  fields := #[{ name := "OR", type := (.object "com/example/umform/umform/model/xpath/Operation$Operator"), accessFlags := 16409, slot := 0, constantValue := 0 }, { name := "AND", type := (.object "com/example/umform/umform/model/xpath/Operation$Operator"), accessFlags := 16409, slot := 1, constantValue := 0 }, { name := "EQUAL", type := (.object "com/example/umform/umform/model/xpath/Operation$Operator"), accessFlags := 16409, slot := 2, constantValue := 0 }, { name := "NOT_EQUAL", type := (.object "com/example/umform/umform/model/xpath/Operation$Operator"), accessFlags := 16409, slot := 3, constantValue := 0 }, { name := "LESS", type := (.object "com/example/umform/umform/model/xpath/Operation$Operator"), accessFlags := 16409, slot := 4, constantValue := 0 }, { name := "LESS_OR_EQUAL", type := (.object "com/example/umform/umform/model/xpath/Operation$Operator"), accessFlags := 16409, slot := 5, constantValue := 0 }, { name := "GREATER", type := (.object "com/example/umform/umform/model/xpath/Operation$Operator"), accessFlags := 16409, slot := 6, constantValue := 0 }, { name := "GREATER_OR_EQUAL", type := (.object "com/example/umform/umform/model/xpath/Operation$Operator"), accessFlags := 16409, slot := 7, constantValue := 0 }, { name := "ADD", type := (.object "com/example/umform/umform/model/xpath/Operation$Operator"), accessFlags := 16409, slot := 8, constantValue := 0 }, { name := "SUBTRACT", type := (.object "com/example/umform/umform/model/xpath/Operation$Operator"), accessFlags := 16409, slot := 9, constantValue := 0 }, { name := "MULTIPLY", type := (.object "com/example/umform/umform/model/xpath/Operation$Operator"), accessFlags := 16409, slot := 10, constantValue := 0 }, { name := "DIVIDE", type := (.object "com/example/umform/umform/model/xpath/Operation$Operator"), accessFlags := 16409, slot := 11, constantValue := 0 }, { name := "MODULO", type := (.object "com/example/umform/umform/model/xpath/Operation$Operator"), accessFlags := 16409, slot := 12, constantValue := 0 }, { name := "UNION", type := (.object "com/example/umform/umform/model/xpath/Operation$Operator"), accessFlags := 16409, slot := 13, constantValue := 0 }, { name := "$VALUES", type := (.array (.object "com/example/umform/umform/model/xpath/Operation$Operator")), accessFlags := 4122, slot := 14, constantValue := 0 }]
  methods := #[k6m0]
  instanceTypes := #[(.object "java/lang/String"), .int, .int]
  staticTypes := #[(.object "com/example/umform/umform/model/xpath/Operation$Operator"), (.object "com/example/umform/umform/model/xpath/Operation$Operator"), (.object "com/example/umform/umform/model/xpath/Operation$Operator"), (.object "com/example/umform/umform/model/xpath/Operation$Operator"), (.object "com/example/umform/umform/model/xpath/Operation$Operator"), (.object "com/example/umform/umform/model/xpath/Operation$Operator"), (.object "com/example/umform/umform/model/xpath/Operation$Operator"), (.object "com/example/umform/umform/model/xpath/Operation$Operator"), (.object "com/example/umform/umform/model/xpath/Operation$Operator"), (.object "com/example/umform/umform/model/xpath/Operation$Operator"), (.object "com/example/umform/umform/model/xpath/Operation$Operator"), (.object "com/example/umform/umform/model/xpath/Operation$Operator"), (.object "com/example/umform/umform/model/xpath/Operation$Operator"), (.object "com/example/umform/umform/model/xpath/Operation$Operator"), (.array (.object "com/example/umform/umform/model/xpath/Operation$Operator"))]
  resolved := Array.replicate 104 none
  statics := some 0 }

def pool7 : Array CpInfo := pool [(1, u "java/lang/Cloneable"), (0, .class_ 1), (0, u "java/lang/Object"), (0, .class_ 3)] 3

/-- java/lang/Cloneable -/
def k7 : Class := { plain "java/lang/Cloneable" (some 0) with
  accessFlags := 1537
  interfaces := #[]
  cf := some (fileOf pool7 2 #[] #[] 1537 4 #[] #[])
  fields := #[]
  methods := #[]
  instanceTypes := #[]
  staticTypes := #[]
  resolved := Array.replicate 8 none
  statics := none }

/-- the primitive byte -/
def k8 : Class := { plain "byte" none with kind := .primitive 'B', accessFlags := 0x411 }
/-- [B -/
def k9 : Class := { plain "[B" (some 0) with kind := .array 8 .byte, interfaces := #[7, 4], accessFlags := 1041 }

/-- the primitive int -/
def k10 : Class := { plain "int" none with kind := .primitive 'I', accessFlags := 0x411 }
/-- [I -/
def k11 : Class := { plain "[I" (some 0) with kind := .array 10 .int, interfaces := #[7, 4], accessFlags := 1041 }

def heap : Heap := #[{ cls := 6, slots := #[.ref 1, .ref 13, .ref 2, .ref 3, .ref 4, .ref 5, .ref 6, .ref 7, .ref 12, .ref 14, .ref 11, .ref 10, .ref 8, .ref 9, .null], vm := .statics 6 },
  { cls := 6, slots := #[.null, .int 0, .int 0], vm := .none },
  { cls := 6, slots := #[.null, .int 2, .int 0], vm := .none },
  { cls := 6, slots := #[.null, .int 3, .int 0], vm := .none },
  { cls := 6, slots := #[.null, .int 4, .int 0], vm := .none },
  { cls := 6, slots := #[.null, .int 5, .int 0], vm := .none },
  { cls := 6, slots := #[.null, .int 6, .int 0], vm := .none },
  { cls := 6, slots := #[.null, .int 7, .int 0], vm := .none },
  { cls := 6, slots := #[.null, .int 12, .int 0], vm := .none },
  { cls := 6, slots := #[.null, .int 13, .int 0], vm := .none },
  { cls := 6, slots := #[.null, .int 11, .int 0], vm := .none },
  { cls := 6, slots := #[.null, .int 10, .int 0], vm := .none },
  { cls := 6, slots := #[.null, .int 8, .int 0], vm := .none },
  { cls := 6, slots := #[.null, .int 1, .int 0], vm := .none },
  { cls := 6, slots := #[.null, .int 9, .int 0], vm := .none }]
def classes : Array Class := #[k0, k1, k2, k3, k4, k5, k6, k7, k8, k9, k10, k11]
def interned : List (Array UInt16 × Addr) := []
def slotsUsed : Nat := 57
def theMethod : MethodId := ⟨1, 1⟩
def args0 : Array Value := #[.int 5]
def aboutOver (below : List Frame) : State where
  vm := { classes := classes, interned := interned.toArray }
  heap := heap
  slotsUsed := slotsUsed
  threads := #[{ frames := .invoking theMethod args0 :: below }]
def below0 : List Frame := [.native { method := ⟨0, 0⟩, args := #[] }]
def about1 : State := aboutOver below0
def p0 : Program := .bare "" "" ""
def e0 : Env := launch0.env 0 0 0
theorem w_frames : about1.frames = Frame.invoking theMethod args0 :: below0 := rfl
set_option maxRecDepth 65536 in
theorem w_args : argsFit about1.vm theMethod args0 = true := by decide +kernel
set_option maxRecDepth 65536 in
theorem w_heap : heapFits about1 = true := by decide +kernel
set_option maxRecDepth 65536 in
theorem w_runnable : about1.curStatus? = some .runnable := by decide +kernel
set_option maxRecDepth 65536 in
theorem w_alone : about1.alone = true := by decide +kernel
set_option maxRecDepth 65536 in
theorem w_named : about1.methodNamed? x = some theMethod := by decide +kernel
set_option maxRecDepth 65536 in
theorem w_hears : about1.hears theMethod below0 = true := by decide +kernel
set_option maxRecDepth 65536 in
theorem w_ripe : about1.ripe theMethod args0 below0 = true := by decide +kernel
theorem w_running : about1.status = .running := rfl
set_option maxRecDepth 65536 in
theorem w_room : about1.hasRoom e0.platform room_1 = true :=
  launch0.hasRoom_least _ room_1 (by decide +kernel) (by decide +kernel) (by decide +kernel) (by decide +kernel) (by decide +kernel) (by decide +kernel)
theorem allAtoms_all (ts : List Jvm.Cond) (a : Array Jvm.Value) (st : Jvm.State) : (allAtoms ts).before a st = ts.all (fun c => c.before a st) := by
  induction ts with
  | nil => rfl
  | cons c t ih =>
    show (Jvm.Cond.and c (allAtoms t)).before a st = _
    rw [Jvm.Cond.before_and, ih, List.all_cons]
def words1 : List Jvm.Cond := Jvm.Cond.code x code maxLocals ret :: tables_1
/-- a 'code' word, met by the world's own term for the bytes: nothing is compared byte by byte -/
theorem code_word {y : MethodName} {bytes : ByteArray} {mx : Nat} {rt : Option FieldType} {a : Array Value} {s : State} {m : MethodId} {meth : Method} {c : Code} (h1 : s.methodNamed? y = some m) (h2 : s.vm.method? m = some meth) (h3 : meth.code = some c) (h4 : c.code = bytes)
    (h5 : (c.maxLocals == mx && c.exceptionTable.isEmpty && decide (c.maxStack ≤ mostOperands) && decide (meth.sig.returnType = rt) && !meth.locks && decide (parseMethodDescriptor y.desc = some meth.sig)) = true) : (Jvm.Cond.code y bytes mx rt).before a s = true := by
  simp only [Bool.and_eq_true, beq_iff_eq, Bool.not_eq_true', decide_eq_true_eq] at h5
  obtain ⟨⟨⟨⟨⟨g1, g2⟩, g3⟩, g4⟩, g5⟩, g6⟩ := h5
  simp [Cond.before, Cond.holds, Cond.value, h1, h2, h3, h4, g1, g2, g3, g4, g5, g6]
def isCode : Jvm.Cond → Bool
  | .code _ _ _ _ => true
  | _ => false
theorem all_split {L : List Jvm.Cond} {P : Jvm.Cond → Bool} (h1 : L.all (fun c => isCode c || P c) = true) (h2 : ∀ c ∈ L.filter isCode, P c = true) : L.all P = true := by
  refine List.all_eq_true.mpr fun c hc => ?_
  have h := List.all_eq_true.mp h1 c hc
  rcases Bool.eq_false_or_eq_true (isCode c) with hi | hi
  · exact h2 c (List.mem_filter.mpr ⟨hc, hi⟩)
  · simpa [hi] using h
set_option maxRecDepth 65536 in
theorem w_c0 : (Jvm.Cond.code x code maxLocals ret).before args0 about1 = true := code_word (m := ⟨1, 1⟩) (meth := k1m1) (c := k1c1) (by decide +kernel) rfl rfl rfl (by decide +kernel)
set_option maxRecDepth 65536 in
theorem w_c1 : (Jvm.Cond.code ({ cls := "com/example/umform/umform/model/xpath/OperatorIsComparisonPinLaw", name := "operatorAt", desc := "(I)Lcom/example/umform/umform/model/xpath/Operation$Operator;" } : Jvm.MethodName) method_3_code (1 : Nat) (Option.some (Jvm.ClassFile.FieldType.object "com/example/umform/umform/model/xpath/Operation$Operator"))).before args0 about1 = true := code_word (m := ⟨1, 2⟩) (meth := k1m2) (c := k1c2) (by decide +kernel) rfl rfl rfl (by decide +kernel)
set_option maxRecDepth 65536 in
theorem w_c2 : (Jvm.Cond.code ({ cls := "com/example/umform/umform/model/xpath/Operation$Operator", name := "isComparison", desc := "()Z" } : Jvm.MethodName) prog_142_method_4_code (1 : Nat) (Option.some Jvm.ClassFile.FieldType.boolean)).before args0 about1 = true := code_word (m := ⟨6, 0⟩) (meth := k6m0) (c := k6c0) (by decide +kernel) rfl rfl rfl (by decide +kernel)
def codes1 : List Jvm.Cond := [Jvm.Cond.code x code maxLocals ret, Jvm.Cond.code ({ cls := "com/example/umform/umform/model/xpath/OperatorIsComparisonPinLaw", name := "operatorAt", desc := "(I)Lcom/example/umform/umform/model/xpath/Operation$Operator;" } : Jvm.MethodName) method_3_code (1 : Nat) (Option.some (Jvm.ClassFile.FieldType.object "com/example/umform/umform/model/xpath/Operation$Operator")), Jvm.Cond.code ({ cls := "com/example/umform/umform/model/xpath/Operation$Operator", name := "isComparison", desc := "()Z" } : Jvm.MethodName) prog_142_method_4_code (1 : Nat) (Option.some Jvm.ClassFile.FieldType.boolean)]
set_option maxRecDepth 65536 in
theorem codes_eq : words1.filter isCode = codes1 := rfl
theorem w_codes : ∀ c ∈ words1.filter isCode, c.before args0 about1 = true := by
  rw [codes_eq]
  intro c hc
  simp only [codes1, List.mem_cons, List.not_mem_nil, or_false] at hc
  rcases hc with rfl | rfl | rfl
  · exact w_c0
  · exact w_c1
  · exact w_c2
set_option maxRecDepth 65536 in
theorem w_t1 : (words1.take 24).all (fun c => isCode c || c.before args0 about1) = true := by decide +kernel
set_option maxRecDepth 65536 in
theorem w_t2 : (words1.drop 24).all (fun c => isCode c || c.before args0 about1) = true := by decide +kernel
theorem w_tables : (allAtoms (Jvm.Cond.code x code maxLocals ret :: tables_1)).before args0 about1 = true := by
  rw [allAtoms_all]
  show words1.all (fun c => c.before args0 about1) = true
  refine all_split ?_ w_codes
  rw [← List.take_append_drop 24 words1, List.all_append, w_t1, w_t2]
  rfl
set_option maxRecDepth 65536 in
theorem w_case : (Jvm.Cond.and given_1 narrow_1).before args0 about1 = true := by decide +kernel
theorem w_applies : (headSpec (Jvm.Cond.code x code maxLocals ret :: tables_1) room_1).applies x e0.platform about1 = true :=
  (Spec.applies_iff w_frames).mpr ⟨w_running, w_runnable, w_alone, w_named, w_hears, w_ripe, w_room, w_tables⟩
theorem atStart : AtStart classFile x code maxLocals ret World_1 tables_1 room_1 Calls_1 rest_1 Pre_1 launch0 p0 e0 about1 theMethod args0 below0 :=
  ⟨lists_1, trivial, launch0.admits_env _ _ _, launch0.least_env, fairChoices_fair.cas, fairChoices_fair.clock, w_frames, w_args, w_heap, w_applies, trivial, trivial, w_case⟩
end start1
theorem witness_1 : WitnessClaimed_1 := ⟨start1.p0, start1.e0, start1.about1, start1.theMethod, start1.args0, start1.below0, start1.atStart⟩
end Jvm.Pilot.@@N@@
