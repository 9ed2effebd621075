import JvmDerived
import JvmDerived.Pilot.@@N@@Statement
import JvmDerived.Pilot.@@N@@Code
set_option linter.unusedVariables false
set_option linter.unusedSimpArgs false
namespace Jvm.RoadKit
open Sem ClassFile Op Lib Jvm.Stand Jvm.Free Jvm.LawKit
section New
variable {p : Program} {l : Launch} {e : Env} {R : Room} {s : State} {m : MethodId} {args : Array Value} {below : List Frame} {meth : Method} {c : Code} {T : State} {locs : List Loc} {cells slots : Nat}
theorem retI (X : Stand p l e R s m args below meth c T locs cells slots) (hx : p.tables.exec = Jvm.exec) {pc : Nat} {Ls : Array Slot} {z : Int32} {rest : List Value} (hret : meth.sig.returnType = some .int) (hd : decode c.code pc = .ok (.ireturn, 1)) {fs : List Frame}
    (hl : ∀ (f : JFrame) (acts : List Action), f.method = m → f.locked = none → f.entered = [] → (doReturn e (T.setTop f) acts (some (.int z))).1 = T.setFrames fs) : Steps p.tables e below (T.setTop (mkF m pc Ls (.int z :: rest))) (T.setFrames fs) := by
  have hm' : T.vm.method? m = some meth := X.method'
  have hn : narrow .int (.int z) = .int z := rfl
  show Steps p.tables e below (T.setTop { method := m, pc := pc, locals := Ls, stack := _ :: rest, locked := none }) _
  jvm_step X.here [X.here.top, hx, hd, hm', hret, hn]
  first | (intro acts; rw [hl _ acts rfl rfl rfl]) | rw [hl _ _ rfl rfl rfl]
  exact Steps.refl _
end New
end Jvm.RoadKit
namespace Jvm.Pilot.@@N@@
open Jvm Jvm.ClassFile Sem Op Lib Jvm.Free Jvm.Stand Jvm.LawKit Jvm.RoadKit Bundle Jvm.Pilot.@@N@@.Jvm.D
section OwnGo
variable {p : Program} {l : Launch} {e : Env} {R : Room} {s : State} {m : MethodId} {args : Array Value} {below : List Frame} {meth : Method} {c : Code} {T : State} {locs : List Loc} {cells slots : Nat} {Q : Option Value → Heap → List Loc → Prop} {ck sk : Nat}
/-- from the state S the body comes to its end, and what it returns and leaves meets Q -/
def own_Go (p : Program) (e : Env) (below : List Frame) (s : State) (Q : Option Value → Heap → List Loc → Prop) (ck sk : Nat) (S : State) : Prop :=
  ∃ s₂ o, Steps p.tables e below S s₂ ∧ s₂.status = .running ∧ Ended s₂ below o ∧ ∃ v L, o = .returned v ∧ Q v s₂.heap L ∧ FrameEnd s o s₂ L ck sk
theorem own_go {S S' : State} (st : ∀ t, Steps p.tables e below S' t → Steps p.tables e below S t) (k : own_Go p e below s Q ck sk S') : own_Go p e below s Q ck sk S := by
  obtain ⟨a, b, h, r⟩ := k; exact ⟨a, b, st _ h, r⟩
theorem own_goT {S S' : State} (st : Steps p.tables e below S S') (k : own_Go p e below s Q ck sk S') : own_Go p e below s Q ck sk S := own_go (fun _ h => st.trans h) k
theorem own_retI (X : Stand p l e R s m args below meth c T locs cells slots) (hx : p.tables.exec = Jvm.exec) (hlk : meth.locks = false) {pc : Nat} {Ls : Array Slot} {z : Int32} {rest : List Value} (hret : meth.sig.returnType = some .int) (hd : decode c.code pc = .ok (.ireturn, 1)) (hc : cells ≤ ck) (hs : slots ≤ sk)
    (q : Q (some (.int z)) T.heap locs) : own_Go p e below s Q ck sk (T.setTop (mkF m pc Ls (.int z :: rest))) := by
  obtain ⟨fs, hr, hrun, hended, hW, hsame⟩ := X.leave (v := some (.int z)) (fun h => by rw [hret] at h; cases h) hlk
  exact ⟨_, _, retI X hx hret hd hr, hrun, hended, _, _, rfl, q, ⟨_, rfl⟩, hW, hsame.mono hc hs⟩
theorem own_retN (X : Stand p l e R s m args below meth c T locs cells slots) (hx : p.tables.exec = Jvm.exec) (hlk : meth.locks = false) {t : FieldType} {pc : Nat} {Ls : Array Slot} {z : Int32} {rest : List Value} (ht : t = .boolean ∨ t = .byte ∨ t = .char ∨ t = .short) (hret : meth.sig.returnType = some t) (hd : decode c.code pc = .ok (.ireturn, 1)) (hc : cells ≤ ck) (hs : slots ≤ sk)
    (q : Q (some (.int (nar t z))) T.heap locs) : own_Go p e below s Q ck sk (T.setTop (mkF m pc Ls (.int z :: rest))) := by
  obtain ⟨fs, hr, hrun, hended, hW, hsame⟩ := X.leave (v := some (.int (nar t z))) (fun h => by rw [hret] at h; cases h) hlk
  exact ⟨_, _, retN X hx hret ht hd hr, hrun, hended, _, _, rfl, q, ⟨_, rfl⟩, hW, hsame.mono hc hs⟩
theorem own_ret0 (X : Stand p l e R s m args below meth c T locs cells slots) (hx : p.tables.exec = Jvm.exec) (hlk : meth.locks = false) {pc : Nat} {Ls : Array Slot} (hret : meth.sig.returnType = none) (hd : decode c.code pc = .ok (.return_, 1)) (hc : cells ≤ ck) (hs : slots ≤ sk)
    (q : Q none T.heap locs) : own_Go p e below s Q ck sk (T.setTop (mkF m pc Ls [])) := by
  obtain ⟨fs, hr, hrun, hended, hW, hsame⟩ := X.leave (v := none) (fun _ => rfl) hlk
  exact ⟨_, _, X.returnOut hx hret hd hr, hrun, hended, _, _, rfl, q, ⟨_, rfl⟩, hW, hsame.mono hc hs⟩
theorem own_retA (X : Stand p l e R s m args below meth c T locs cells slots) (hx : p.tables.exec = Jvm.exec) (hlk : meth.locks = false) {t : FieldType} {pc : Nat} {Ls : Array Slot} {w : Value} (hw : w.isRef = true) (ht : t.isReference = true) (hret : meth.sig.returnType = some t) (hd : decode c.code pc = .ok (.areturn, 1)) (hc : cells ≤ ck) (hs : slots ≤ sk)
    (q : Q (some w) T.heap locs) : own_Go p e below s Q ck sk (T.setTop (mkF m pc Ls [w])) := by
  obtain ⟨fs, hr, hrun, hended, hW, hsame⟩ := X.leave (v := some w) (fun h => by rw [hret] at h; cases h) hlk
  exact ⟨_, _, X.areturnOut hx hw hret ht hd hr, hrun, hended, _, _, rfl, q, ⟨_, rfl⟩, hW, hsame.mono hc hs⟩
theorem own_retJ (X : Stand p l e R s m args below meth c T locs cells slots) (hx : p.tables.exec = Jvm.exec) (hlk : meth.locks = false) {pc : Nat} {Ls : Array Slot} {w : Int64} (hret : meth.sig.returnType = some .long) (hd : decode c.code pc = .ok (.lreturn, 1)) (hc : cells ≤ ck) (hs : slots ≤ sk)
    (q : Q (some (.long w)) T.heap locs) : own_Go p e below s Q ck sk (T.setTop (mkF m pc Ls [.long w])) := by
  obtain ⟨fs, hr, hrun, hended, hW, hsame⟩ := X.leave (v := some (.long w)) (fun h => by rw [hret] at h; cases h) hlk
  exact ⟨_, _, X.lreturnOut hx hret hd hr, hrun, hended, _, _, rfl, q, ⟨_, rfl⟩, hW, hsame.mono hc hs⟩
end OwnGo
theorem own_retD {p : Program} {l : Launch} {e : Env} {R : Room} {s : State} {m : MethodId} {args : Array Value} {below : List Frame} {meth : Method} {c : Code} {T : State} {locs : List Loc} {cells slots : Nat} {Q : Option Value → Heap → List Loc → Prop} {ck sk : Nat} (X : Stand p l e R s m args below meth c T locs cells slots) (hx : p.tables.exec = Jvm.exec) (hlk : meth.locks = false) {pc : Nat} {Ls : Array Slot} {w : UInt64} (hret : meth.sig.returnType = some .double) (hd : decode c.code pc = .ok (.dreturn, 1)) (hc : cells ≤ ck) (hs : slots ≤ sk)
    (q : Q (some (.double w)) T.heap locs) : own_Go p e below s Q ck sk (T.setTop (mkF m pc Ls [.double w])) := by
  obtain ⟨fs, hr, hrun, hended, hW, hsame⟩ := X.leave (v := some (.double w)) (fun h => by rw [hret] at h; cases h) hlk
  exact ⟨_, _, retOut X hx hret rfl (Or.inr (Or.inr (Or.inl ⟨rfl, rfl, _, rfl⟩))) hd hr, hrun, hended, _, _, rfl, q, ⟨_, rfl⟩, hW, hsame.mono hc hs⟩
theorem own_leq {x y : Int64} (h : x = y) : lcmpW x y = 0 := (lw_eq x y).mpr h
theorem own_lne {x y : Int64} (h : ¬ x = y) : ¬ lcmpW x y = 0 := fun q => h ((lw_eq x y).mp q)
theorem own_llt {x y : Int64} (h : x < y) : lcmpW x y < 0 := (lw_lt x y).mpr h
theorem own_lnlt {x y : Int64} (h : ¬ x < y) : ¬ lcmpW x y < 0 := fun q => h ((lw_lt x y).mp q)
theorem own_lgt {x y : Int64} (h : y < x) : 0 < lcmpW x y := (lw_gt x y).mpr h
theorem own_lngt {x y : Int64} (h : ¬ y < x) : ¬ 0 < lcmpW x y := fun q => h ((lw_gt x y).mp q)
theorem own_ltr {x y : Int32} {k : Int} (h : x < y) (e : y.toInt = k) : x.toInt < k := by rw [← e]; exact Int32.lt_iff_toInt_lt.mp h
theorem own_ltl {x y : Int32} {k : Int} (h : x < y) (e : x.toInt = k) : k < y.toInt := by rw [← e]; exact Int32.lt_iff_toInt_lt.mp h
theorem own_nltr {x y : Int32} {k : Int} (h : ¬ x < y) (e : y.toInt = k) : k ≤ x.toInt := by rw [← e]; exact Int.not_lt.mp fun q => h (Int32.lt_iff_toInt_lt.mpr q)
theorem own_nltl {x y : Int32} {k : Int} (h : ¬ x < y) (e : x.toInt = k) : y.toInt ≤ k := by rw [← e]; exact Int.not_lt.mp fun q => h (Int32.lt_iff_toInt_lt.mpr q)
theorem own_eqr {x y : Int32} {k : Int} (h : x = y) (e : y.toInt = k) : x.toInt = k := by rw [← e, h]
theorem own_neqr {x y : Int32} {k : Int} (h : ¬ x = y) (e : y.toInt = k) : ¬ x.toInt = k := by rw [← e]; exact fun q => h (Int32.toInt_inj.mp q)
theorem own_selP {s : State} {args : Array Value} {y : MethodName} {n : Nat} (wi : (Jvm.Cond.instantiable y.cls n).before args s = true) (wp : (Jvm.Cond.privateMethod y).before args s = true) (wn : (Jvm.Cond.instanceMethod y).before args s = true) (hy : y.cls ≠ "java/lang/invoke/MethodHandle" ∧ y.cls ≠ "java/lang/invoke/VarHandle") : (Jvm.Cond.selects y.cls y y).before args s = true := by
  obtain ⟨c, k, h1, h2, -, h4, -⟩ := Cond.instantiable_spec wi
  exact Jvm.Stand.selects_self_of_private h1 h2 (Bool.or_eq_false_iff.mp h4).1 (Cond.privateMethod_at wp) wn hy
theorem own_eqInt {t : Term} {k : Int32} {args : Array Value} {s : State} (h : (Jvm.Cond.eq t (Term.int k)).value args s none s [] = some true) : t.eval args s none [] s = some (.int k) := by
  have hk : (Term.int k).eval args s none [] s = some (.int k) := rfl
  cases ht : t.eval args s none [] s with
  | none => simp [Jvm.Cond.value, ht] at h
  | some v => cases v <;> simp [Jvm.Cond.value, ht, hk] at h; rw [h]
def own_gap_170 (p0 : Int32) : Int32 := (1 : Int32)
def own_gap_164 (p0 : Int32) : Int32 := (if (983039 : Int32) < p0 then own_gap_170 p0 else (0 : Int32))
def own_gap_152 (p0 : Int32) : Int32 := (if p0 < (65534 : Int32) then own_gap_164 p0 else (if (65535 : Int32) < p0 then own_gap_164 p0 else own_gap_170 p0))
def own_gap_140 (p0 : Int32) : Int32 := (if p0 < (64976 : Int32) then own_gap_152 p0 else (if (65007 : Int32) < p0 then own_gap_152 p0 else own_gap_170 p0))
def own_gap_128 (p0 : Int32) : Int32 := (if p0 < (55296 : Int32) then own_gap_140 p0 else (if (63743 : Int32) < p0 then own_gap_140 p0 else own_gap_170 p0))
def own_gap_114 (p0 : Int32) : Int32 := (if p0 < (12272 : Int32) then own_gap_128 p0 else (if (12288 : Int32) < p0 then own_gap_128 p0 else own_gap_170 p0))
def own_gap_100 (p0 : Int32) : Int32 := (if p0 < (8592 : Int32) then own_gap_114 p0 else (if (11263 : Int32) < p0 then own_gap_114 p0 else own_gap_170 p0))
def own_gap_86 (p0 : Int32) : Int32 := (if p0 < (8206 : Int32) then own_gap_100 p0 else (if (8303 : Int32) < p0 then own_gap_100 p0 else own_gap_170 p0))
def own_gap_65 (p0 : Int32) : Int32 := (if p0 = (894 : Int32) then own_gap_170 p0 else (if p0 < (8192 : Int32) then own_gap_86 p0 else (if (8203 : Int32) < p0 then own_gap_86 p0 else own_gap_170 p0)))
def own_gap_37 (p0 : Int32) : Int32 := (if p0 = (215 : Int32) then own_gap_170 p0 else (if p0 = (247 : Int32) then own_gap_170 p0 else (if p0 < (768 : Int32) then own_gap_65 p0 else (if (879 : Int32) < p0 then own_gap_65 p0 else own_gap_170 p0))))
def own_gap_18 (p0 : Int32) : Int32 := (if p0 = (96 : Int32) then own_gap_170 p0 else (if p0 < (123 : Int32) then own_gap_37 p0 else (if (191 : Int32) < p0 then own_gap_37 p0 else own_gap_170 p0)))
def own_gap_0 (p0 : Int32) : Int32 := (if p0 < (65 : Int32) then own_gap_170 p0 else (if p0 < (91 : Int32) then own_gap_18 p0 else (if (94 : Int32) < p0 then own_gap_18 p0 else own_gap_170 p0)))
def own_nsc_195 (p0 : Int32) : Int32 := (0 : Int32)
def own_nsc_191 (p0 : Int32) : Int32 := (1 : Int32)
def own_nsc_179 (p0 : Int32) : Int32 := (if p0 < (65536 : Int32) then own_nsc_195 p0 else (if (983039 : Int32) < p0 then own_nsc_195 p0 else own_nsc_191 p0))
def own_nsc_167 (p0 : Int32) : Int32 := (if p0 < (65008 : Int32) then own_nsc_179 p0 else (if (65533 : Int32) < p0 then own_nsc_179 p0 else own_nsc_191 p0))
def own_nsc_155 (p0 : Int32) : Int32 := (if p0 < (63744 : Int32) then own_nsc_167 p0 else (if (64975 : Int32) < p0 then own_nsc_167 p0 else own_nsc_191 p0))
def own_nsc_142 (p0 : Int32) : Int32 := (if p0 < (12289 : Int32) then own_nsc_155 p0 else (if (55295 : Int32) < p0 then own_nsc_155 p0 else own_nsc_191 p0))
def own_nsc_128 (p0 : Int32) : Int32 := (if p0 < (11264 : Int32) then own_nsc_142 p0 else (if (12271 : Int32) < p0 then own_nsc_142 p0 else own_nsc_191 p0))
def own_nsc_114 (p0 : Int32) : Int32 := (if p0 < (8304 : Int32) then own_nsc_128 p0 else (if (8591 : Int32) < p0 then own_nsc_128 p0 else own_nsc_191 p0))
def own_nsc_100 (p0 : Int32) : Int32 := (if p0 < (8204 : Int32) then own_nsc_114 p0 else (if (8205 : Int32) < p0 then own_nsc_114 p0 else own_nsc_191 p0))
def own_nsc_86 (p0 : Int32) : Int32 := (if p0 < (895 : Int32) then own_nsc_100 p0 else (if (8191 : Int32) < p0 then own_nsc_100 p0 else own_nsc_191 p0))
def own_nsc_72 (p0 : Int32) : Int32 := (if p0 < (880 : Int32) then own_nsc_86 p0 else (if (893 : Int32) < p0 then own_nsc_86 p0 else own_nsc_191 p0))
def own_nsc_58 (p0 : Int32) : Int32 := (if p0 < (248 : Int32) then own_nsc_72 p0 else (if (767 : Int32) < p0 then own_nsc_72 p0 else own_nsc_191 p0))
def own_nsc_44 (p0 : Int32) : Int32 := (if p0 < (216 : Int32) then own_nsc_58 p0 else (if (246 : Int32) < p0 then own_nsc_58 p0 else own_nsc_191 p0))
def own_nsc_24 (p0 : Int32) : Int32 := (if p0 = (95 : Int32) then own_nsc_191 p0 else (if p0 < (192 : Int32) then own_nsc_44 p0 else (if (214 : Int32) < p0 then own_nsc_44 p0 else own_nsc_191 p0)))
def own_nsc_12 (p0 : Int32) : Int32 := (if p0 < (65 : Int32) then own_nsc_24 p0 else (if (90 : Int32) < p0 then own_nsc_24 p0 else own_nsc_191 p0))
def own_nsc_0 (p0 : Int32) : Int32 := (if p0 < (97 : Int32) then own_nsc_12 p0 else (if (122 : Int32) < p0 then own_nsc_12 p0 else own_nsc_191 p0))
def own_PG_164 (n : Int) : Prop := ((983039 < n))
theorem own_gapS_164 (p0 : Int32) : (own_gap_164 p0 = 1 ∧ own_PG_164 p0.toInt) ∨ (own_gap_164 p0 = 0 ∧ ¬ own_PG_164 p0.toInt) := by
  unfold own_gap_164 own_PG_164
  by_cases h1 : (983039 : Int32) < p0
  · have nh1 := own_ltl h1 (by decide : (983039 : Int32).toInt = 983039)
    rw [if_pos h1]
    exact Or.inl ⟨rfl, by omega⟩
  · have nh1 := own_nltl h1 (by decide : (983039 : Int32).toInt = 983039)
    rw [if_neg h1]
    exact Or.inr ⟨rfl, fun q => by omega⟩
def own_PG_152 (n : Int) : Prop := ((65534 ≤ n ∧ n ≤ 65535)) ∨ own_PG_164 n
theorem own_gapS_152 (p0 : Int32) : (own_gap_152 p0 = 1 ∧ own_PG_152 p0.toInt) ∨ (own_gap_152 p0 = 0 ∧ ¬ own_PG_152 p0.toInt) := by
  unfold own_gap_152 own_PG_152
  by_cases h1 : p0 < (65534 : Int32)
  · have nh1 := own_ltr h1 (by decide : (65534 : Int32).toInt = 65534)
    rw [if_pos h1]
    rcases own_gapS_164 p0 with ⟨a, b⟩ | ⟨a, b⟩
    · exact Or.inl ⟨a, Or.inr b⟩
    · exact Or.inr ⟨a, fun q => q.elim (fun q => by omega) b⟩
  · have nh1 := own_nltr h1 (by decide : (65534 : Int32).toInt = 65534)
    by_cases h2 : (65535 : Int32) < p0
    · have nh2 := own_ltl h2 (by decide : (65535 : Int32).toInt = 65535)
      rw [if_neg h1, if_pos h2]
      rcases own_gapS_164 p0 with ⟨a, b⟩ | ⟨a, b⟩
      · exact Or.inl ⟨a, Or.inr b⟩
      · exact Or.inr ⟨a, fun q => q.elim (fun q => by omega) b⟩
    · have nh2 := own_nltl h2 (by decide : (65535 : Int32).toInt = 65535)
      rw [if_neg h1, if_neg h2]
      exact Or.inl ⟨rfl, Or.inl (by omega)⟩
def own_PG_140 (n : Int) : Prop := ((64976 ≤ n ∧ n ≤ 65007)) ∨ own_PG_152 n
theorem own_gapS_140 (p0 : Int32) : (own_gap_140 p0 = 1 ∧ own_PG_140 p0.toInt) ∨ (own_gap_140 p0 = 0 ∧ ¬ own_PG_140 p0.toInt) := by
  unfold own_gap_140 own_PG_140
  by_cases h1 : p0 < (64976 : Int32)
  · have nh1 := own_ltr h1 (by decide : (64976 : Int32).toInt = 64976)
    rw [if_pos h1]
    rcases own_gapS_152 p0 with ⟨a, b⟩ | ⟨a, b⟩
    · exact Or.inl ⟨a, Or.inr b⟩
    · exact Or.inr ⟨a, fun q => q.elim (fun q => by omega) b⟩
  · have nh1 := own_nltr h1 (by decide : (64976 : Int32).toInt = 64976)
    by_cases h2 : (65007 : Int32) < p0
    · have nh2 := own_ltl h2 (by decide : (65007 : Int32).toInt = 65007)
      rw [if_neg h1, if_pos h2]
      rcases own_gapS_152 p0 with ⟨a, b⟩ | ⟨a, b⟩
      · exact Or.inl ⟨a, Or.inr b⟩
      · exact Or.inr ⟨a, fun q => q.elim (fun q => by omega) b⟩
    · have nh2 := own_nltl h2 (by decide : (65007 : Int32).toInt = 65007)
      rw [if_neg h1, if_neg h2]
      exact Or.inl ⟨rfl, Or.inl (by omega)⟩
def own_PG_128 (n : Int) : Prop := ((55296 ≤ n ∧ n ≤ 63743)) ∨ own_PG_140 n
theorem own_gapS_128 (p0 : Int32) : (own_gap_128 p0 = 1 ∧ own_PG_128 p0.toInt) ∨ (own_gap_128 p0 = 0 ∧ ¬ own_PG_128 p0.toInt) := by
  unfold own_gap_128 own_PG_128
  by_cases h1 : p0 < (55296 : Int32)
  · have nh1 := own_ltr h1 (by decide : (55296 : Int32).toInt = 55296)
    rw [if_pos h1]
    rcases own_gapS_140 p0 with ⟨a, b⟩ | ⟨a, b⟩
    · exact Or.inl ⟨a, Or.inr b⟩
    · exact Or.inr ⟨a, fun q => q.elim (fun q => by omega) b⟩
  · have nh1 := own_nltr h1 (by decide : (55296 : Int32).toInt = 55296)
    by_cases h2 : (63743 : Int32) < p0
    · have nh2 := own_ltl h2 (by decide : (63743 : Int32).toInt = 63743)
      rw [if_neg h1, if_pos h2]
      rcases own_gapS_140 p0 with ⟨a, b⟩ | ⟨a, b⟩
      · exact Or.inl ⟨a, Or.inr b⟩
      · exact Or.inr ⟨a, fun q => q.elim (fun q => by omega) b⟩
    · have nh2 := own_nltl h2 (by decide : (63743 : Int32).toInt = 63743)
      rw [if_neg h1, if_neg h2]
      exact Or.inl ⟨rfl, Or.inl (by omega)⟩
def own_PG_114 (n : Int) : Prop := ((12272 ≤ n ∧ n ≤ 12288)) ∨ own_PG_128 n
theorem own_gapS_114 (p0 : Int32) : (own_gap_114 p0 = 1 ∧ own_PG_114 p0.toInt) ∨ (own_gap_114 p0 = 0 ∧ ¬ own_PG_114 p0.toInt) := by
  unfold own_gap_114 own_PG_114
  by_cases h1 : p0 < (12272 : Int32)
  · have nh1 := own_ltr h1 (by decide : (12272 : Int32).toInt = 12272)
    rw [if_pos h1]
    rcases own_gapS_128 p0 with ⟨a, b⟩ | ⟨a, b⟩
    · exact Or.inl ⟨a, Or.inr b⟩
    · exact Or.inr ⟨a, fun q => q.elim (fun q => by omega) b⟩
  · have nh1 := own_nltr h1 (by decide : (12272 : Int32).toInt = 12272)
    by_cases h2 : (12288 : Int32) < p0
    · have nh2 := own_ltl h2 (by decide : (12288 : Int32).toInt = 12288)
      rw [if_neg h1, if_pos h2]
      rcases own_gapS_128 p0 with ⟨a, b⟩ | ⟨a, b⟩
      · exact Or.inl ⟨a, Or.inr b⟩
      · exact Or.inr ⟨a, fun q => q.elim (fun q => by omega) b⟩
    · have nh2 := own_nltl h2 (by decide : (12288 : Int32).toInt = 12288)
      rw [if_neg h1, if_neg h2]
      exact Or.inl ⟨rfl, Or.inl (by omega)⟩
def own_PG_100 (n : Int) : Prop := ((8592 ≤ n ∧ n ≤ 11263)) ∨ own_PG_114 n
theorem own_gapS_100 (p0 : Int32) : (own_gap_100 p0 = 1 ∧ own_PG_100 p0.toInt) ∨ (own_gap_100 p0 = 0 ∧ ¬ own_PG_100 p0.toInt) := by
  unfold own_gap_100 own_PG_100
  by_cases h1 : p0 < (8592 : Int32)
  · have nh1 := own_ltr h1 (by decide : (8592 : Int32).toInt = 8592)
    rw [if_pos h1]
    rcases own_gapS_114 p0 with ⟨a, b⟩ | ⟨a, b⟩
    · exact Or.inl ⟨a, Or.inr b⟩
    · exact Or.inr ⟨a, fun q => q.elim (fun q => by omega) b⟩
  · have nh1 := own_nltr h1 (by decide : (8592 : Int32).toInt = 8592)
    by_cases h2 : (11263 : Int32) < p0
    · have nh2 := own_ltl h2 (by decide : (11263 : Int32).toInt = 11263)
      rw [if_neg h1, if_pos h2]
      rcases own_gapS_114 p0 with ⟨a, b⟩ | ⟨a, b⟩
      · exact Or.inl ⟨a, Or.inr b⟩
      · exact Or.inr ⟨a, fun q => q.elim (fun q => by omega) b⟩
    · have nh2 := own_nltl h2 (by decide : (11263 : Int32).toInt = 11263)
      rw [if_neg h1, if_neg h2]
      exact Or.inl ⟨rfl, Or.inl (by omega)⟩
def own_PG_86 (n : Int) : Prop := ((8206 ≤ n ∧ n ≤ 8303)) ∨ own_PG_100 n
theorem own_gapS_86 (p0 : Int32) : (own_gap_86 p0 = 1 ∧ own_PG_86 p0.toInt) ∨ (own_gap_86 p0 = 0 ∧ ¬ own_PG_86 p0.toInt) := by
  unfold own_gap_86 own_PG_86
  by_cases h1 : p0 < (8206 : Int32)
  · have nh1 := own_ltr h1 (by decide : (8206 : Int32).toInt = 8206)
    rw [if_pos h1]
    rcases own_gapS_100 p0 with ⟨a, b⟩ | ⟨a, b⟩
    · exact Or.inl ⟨a, Or.inr b⟩
    · exact Or.inr ⟨a, fun q => q.elim (fun q => by omega) b⟩
  · have nh1 := own_nltr h1 (by decide : (8206 : Int32).toInt = 8206)
    by_cases h2 : (8303 : Int32) < p0
    · have nh2 := own_ltl h2 (by decide : (8303 : Int32).toInt = 8303)
      rw [if_neg h1, if_pos h2]
      rcases own_gapS_100 p0 with ⟨a, b⟩ | ⟨a, b⟩
      · exact Or.inl ⟨a, Or.inr b⟩
      · exact Or.inr ⟨a, fun q => q.elim (fun q => by omega) b⟩
    · have nh2 := own_nltl h2 (by decide : (8303 : Int32).toInt = 8303)
      rw [if_neg h1, if_neg h2]
      exact Or.inl ⟨rfl, Or.inl (by omega)⟩
def own_PG_65 (n : Int) : Prop := ((n = 894) ∨ (¬ n = 894 ∧ 8192 ≤ n ∧ n ≤ 8203)) ∨ own_PG_86 n
theorem own_gapS_65 (p0 : Int32) : (own_gap_65 p0 = 1 ∧ own_PG_65 p0.toInt) ∨ (own_gap_65 p0 = 0 ∧ ¬ own_PG_65 p0.toInt) := by
  unfold own_gap_65 own_PG_65
  by_cases h1 : p0 = (894 : Int32)
  · have nh1 := own_eqr h1 (by decide : (894 : Int32).toInt = 894)
    rw [if_pos h1]
    exact Or.inl ⟨rfl, Or.inl (by omega)⟩
  · have nh1 := own_neqr h1 (by decide : (894 : Int32).toInt = 894)
    by_cases h2 : p0 < (8192 : Int32)
    · have nh2 := own_ltr h2 (by decide : (8192 : Int32).toInt = 8192)
      rw [if_neg h1, if_pos h2]
      rcases own_gapS_86 p0 with ⟨a, b⟩ | ⟨a, b⟩
      · exact Or.inl ⟨a, Or.inr b⟩
      · exact Or.inr ⟨a, fun q => q.elim (fun q => by omega) b⟩
    · have nh2 := own_nltr h2 (by decide : (8192 : Int32).toInt = 8192)
      by_cases h3 : (8203 : Int32) < p0
      · have nh3 := own_ltl h3 (by decide : (8203 : Int32).toInt = 8203)
        rw [if_neg h1, if_neg h2, if_pos h3]
        rcases own_gapS_86 p0 with ⟨a, b⟩ | ⟨a, b⟩
        · exact Or.inl ⟨a, Or.inr b⟩
        · exact Or.inr ⟨a, fun q => q.elim (fun q => by omega) b⟩
      · have nh3 := own_nltl h3 (by decide : (8203 : Int32).toInt = 8203)
        rw [if_neg h1, if_neg h2, if_neg h3]
        exact Or.inl ⟨rfl, Or.inl (by omega)⟩
def own_PG_37 (n : Int) : Prop := ((n = 215) ∨ (¬ n = 215 ∧ n = 247) ∨ (¬ n = 215 ∧ ¬ n = 247 ∧ 768 ≤ n ∧ n ≤ 879)) ∨ own_PG_65 n
theorem own_gapS_37 (p0 : Int32) : (own_gap_37 p0 = 1 ∧ own_PG_37 p0.toInt) ∨ (own_gap_37 p0 = 0 ∧ ¬ own_PG_37 p0.toInt) := by
  unfold own_gap_37 own_PG_37
  by_cases h1 : p0 = (215 : Int32)
  · have nh1 := own_eqr h1 (by decide : (215 : Int32).toInt = 215)
    rw [if_pos h1]
    exact Or.inl ⟨rfl, Or.inl (by omega)⟩
  · have nh1 := own_neqr h1 (by decide : (215 : Int32).toInt = 215)
    by_cases h2 : p0 = (247 : Int32)
    · have nh2 := own_eqr h2 (by decide : (247 : Int32).toInt = 247)
      rw [if_neg h1, if_pos h2]
      exact Or.inl ⟨rfl, Or.inl (by omega)⟩
    · have nh2 := own_neqr h2 (by decide : (247 : Int32).toInt = 247)
      by_cases h3 : p0 < (768 : Int32)
      · have nh3 := own_ltr h3 (by decide : (768 : Int32).toInt = 768)
        rw [if_neg h1, if_neg h2, if_pos h3]
        rcases own_gapS_65 p0 with ⟨a, b⟩ | ⟨a, b⟩
        · exact Or.inl ⟨a, Or.inr b⟩
        · exact Or.inr ⟨a, fun q => q.elim (fun q => by omega) b⟩
      · have nh3 := own_nltr h3 (by decide : (768 : Int32).toInt = 768)
        by_cases h4 : (879 : Int32) < p0
        · have nh4 := own_ltl h4 (by decide : (879 : Int32).toInt = 879)
          rw [if_neg h1, if_neg h2, if_neg h3, if_pos h4]
          rcases own_gapS_65 p0 with ⟨a, b⟩ | ⟨a, b⟩
          · exact Or.inl ⟨a, Or.inr b⟩
          · exact Or.inr ⟨a, fun q => q.elim (fun q => by omega) b⟩
        · have nh4 := own_nltl h4 (by decide : (879 : Int32).toInt = 879)
          rw [if_neg h1, if_neg h2, if_neg h3, if_neg h4]
          exact Or.inl ⟨rfl, Or.inl (by omega)⟩
def own_PG_18 (n : Int) : Prop := ((n = 96) ∨ (¬ n = 96 ∧ 123 ≤ n ∧ n ≤ 191)) ∨ own_PG_37 n
theorem own_gapS_18 (p0 : Int32) : (own_gap_18 p0 = 1 ∧ own_PG_18 p0.toInt) ∨ (own_gap_18 p0 = 0 ∧ ¬ own_PG_18 p0.toInt) := by
  unfold own_gap_18 own_PG_18
  by_cases h1 : p0 = (96 : Int32)
  · have nh1 := own_eqr h1 (by decide : (96 : Int32).toInt = 96)
    rw [if_pos h1]
    exact Or.inl ⟨rfl, Or.inl (by omega)⟩
  · have nh1 := own_neqr h1 (by decide : (96 : Int32).toInt = 96)
    by_cases h2 : p0 < (123 : Int32)
    · have nh2 := own_ltr h2 (by decide : (123 : Int32).toInt = 123)
      rw [if_neg h1, if_pos h2]
      rcases own_gapS_37 p0 with ⟨a, b⟩ | ⟨a, b⟩
      · exact Or.inl ⟨a, Or.inr b⟩
      · exact Or.inr ⟨a, fun q => q.elim (fun q => by omega) b⟩
    · have nh2 := own_nltr h2 (by decide : (123 : Int32).toInt = 123)
      by_cases h3 : (191 : Int32) < p0
      · have nh3 := own_ltl h3 (by decide : (191 : Int32).toInt = 191)
        rw [if_neg h1, if_neg h2, if_pos h3]
        rcases own_gapS_37 p0 with ⟨a, b⟩ | ⟨a, b⟩
        · exact Or.inl ⟨a, Or.inr b⟩
        · exact Or.inr ⟨a, fun q => q.elim (fun q => by omega) b⟩
      · have nh3 := own_nltl h3 (by decide : (191 : Int32).toInt = 191)
        rw [if_neg h1, if_neg h2, if_neg h3]
        exact Or.inl ⟨rfl, Or.inl (by omega)⟩
def own_PG_0 (n : Int) : Prop := ((n < 65) ∨ (65 ≤ n ∧ 91 ≤ n ∧ n ≤ 94)) ∨ own_PG_18 n
theorem own_gapS_0 (p0 : Int32) : (own_gap_0 p0 = 1 ∧ own_PG_0 p0.toInt) ∨ (own_gap_0 p0 = 0 ∧ ¬ own_PG_0 p0.toInt) := by
  unfold own_gap_0 own_PG_0
  by_cases h1 : p0 < (65 : Int32)
  · have nh1 := own_ltr h1 (by decide : (65 : Int32).toInt = 65)
    rw [if_pos h1]
    exact Or.inl ⟨rfl, Or.inl (by omega)⟩
  · have nh1 := own_nltr h1 (by decide : (65 : Int32).toInt = 65)
    by_cases h2 : p0 < (91 : Int32)
    · have nh2 := own_ltr h2 (by decide : (91 : Int32).toInt = 91)
      rw [if_neg h1, if_pos h2]
      rcases own_gapS_18 p0 with ⟨a, b⟩ | ⟨a, b⟩
      · exact Or.inl ⟨a, Or.inr b⟩
      · exact Or.inr ⟨a, fun q => q.elim (fun q => by omega) b⟩
    · have nh2 := own_nltr h2 (by decide : (91 : Int32).toInt = 91)
      by_cases h3 : (94 : Int32) < p0
      · have nh3 := own_ltl h3 (by decide : (94 : Int32).toInt = 94)
        rw [if_neg h1, if_neg h2, if_pos h3]
        rcases own_gapS_18 p0 with ⟨a, b⟩ | ⟨a, b⟩
        · exact Or.inl ⟨a, Or.inr b⟩
        · exact Or.inr ⟨a, fun q => q.elim (fun q => by omega) b⟩
      · have nh3 := own_nltl h3 (by decide : (94 : Int32).toInt = 94)
        rw [if_neg h1, if_neg h2, if_neg h3]
        exact Or.inl ⟨rfl, Or.inl (by omega)⟩
def own_PN_179 (n : Int) : Prop := ((65536 ≤ n ∧ n ≤ 983039))
theorem own_nscS_179 (p0 : Int32) : (own_nsc_179 p0 = 1 ∧ own_PN_179 p0.toInt) ∨ (own_nsc_179 p0 = 0 ∧ ¬ own_PN_179 p0.toInt) := by
  unfold own_nsc_179 own_PN_179
  by_cases h1 : p0 < (65536 : Int32)
  · have nh1 := own_ltr h1 (by decide : (65536 : Int32).toInt = 65536)
    rw [if_pos h1]
    exact Or.inr ⟨rfl, fun q => by omega⟩
  · have nh1 := own_nltr h1 (by decide : (65536 : Int32).toInt = 65536)
    by_cases h2 : (983039 : Int32) < p0
    · have nh2 := own_ltl h2 (by decide : (983039 : Int32).toInt = 983039)
      rw [if_neg h1, if_pos h2]
      exact Or.inr ⟨rfl, fun q => by omega⟩
    · have nh2 := own_nltl h2 (by decide : (983039 : Int32).toInt = 983039)
      rw [if_neg h1, if_neg h2]
      exact Or.inl ⟨rfl, by omega⟩
def own_PN_167 (n : Int) : Prop := ((65008 ≤ n ∧ n ≤ 65533)) ∨ own_PN_179 n
theorem own_nscS_167 (p0 : Int32) : (own_nsc_167 p0 = 1 ∧ own_PN_167 p0.toInt) ∨ (own_nsc_167 p0 = 0 ∧ ¬ own_PN_167 p0.toInt) := by
  unfold own_nsc_167 own_PN_167
  by_cases h1 : p0 < (65008 : Int32)
  · have nh1 := own_ltr h1 (by decide : (65008 : Int32).toInt = 65008)
    rw [if_pos h1]
    rcases own_nscS_179 p0 with ⟨a, b⟩ | ⟨a, b⟩
    · exact Or.inl ⟨a, Or.inr b⟩
    · exact Or.inr ⟨a, fun q => q.elim (fun q => by omega) b⟩
  · have nh1 := own_nltr h1 (by decide : (65008 : Int32).toInt = 65008)
    by_cases h2 : (65533 : Int32) < p0
    · have nh2 := own_ltl h2 (by decide : (65533 : Int32).toInt = 65533)
      rw [if_neg h1, if_pos h2]
      rcases own_nscS_179 p0 with ⟨a, b⟩ | ⟨a, b⟩
      · exact Or.inl ⟨a, Or.inr b⟩
      · exact Or.inr ⟨a, fun q => q.elim (fun q => by omega) b⟩
    · have nh2 := own_nltl h2 (by decide : (65533 : Int32).toInt = 65533)
      rw [if_neg h1, if_neg h2]
      exact Or.inl ⟨rfl, Or.inl (by omega)⟩
def own_PN_155 (n : Int) : Prop := ((63744 ≤ n ∧ n ≤ 64975)) ∨ own_PN_167 n
theorem own_nscS_155 (p0 : Int32) : (own_nsc_155 p0 = 1 ∧ own_PN_155 p0.toInt) ∨ (own_nsc_155 p0 = 0 ∧ ¬ own_PN_155 p0.toInt) := by
  unfold own_nsc_155 own_PN_155
  by_cases h1 : p0 < (63744 : Int32)
  · have nh1 := own_ltr h1 (by decide : (63744 : Int32).toInt = 63744)
    rw [if_pos h1]
    rcases own_nscS_167 p0 with ⟨a, b⟩ | ⟨a, b⟩
    · exact Or.inl ⟨a, Or.inr b⟩
    · exact Or.inr ⟨a, fun q => q.elim (fun q => by omega) b⟩
  · have nh1 := own_nltr h1 (by decide : (63744 : Int32).toInt = 63744)
    by_cases h2 : (64975 : Int32) < p0
    · have nh2 := own_ltl h2 (by decide : (64975 : Int32).toInt = 64975)
      rw [if_neg h1, if_pos h2]
      rcases own_nscS_167 p0 with ⟨a, b⟩ | ⟨a, b⟩
      · exact Or.inl ⟨a, Or.inr b⟩
      · exact Or.inr ⟨a, fun q => q.elim (fun q => by omega) b⟩
    · have nh2 := own_nltl h2 (by decide : (64975 : Int32).toInt = 64975)
      rw [if_neg h1, if_neg h2]
      exact Or.inl ⟨rfl, Or.inl (by omega)⟩
def own_PN_142 (n : Int) : Prop := ((12289 ≤ n ∧ n ≤ 55295)) ∨ own_PN_155 n
theorem own_nscS_142 (p0 : Int32) : (own_nsc_142 p0 = 1 ∧ own_PN_142 p0.toInt) ∨ (own_nsc_142 p0 = 0 ∧ ¬ own_PN_142 p0.toInt) := by
  unfold own_nsc_142 own_PN_142
  by_cases h1 : p0 < (12289 : Int32)
  · have nh1 := own_ltr h1 (by decide : (12289 : Int32).toInt = 12289)
    rw [if_pos h1]
    rcases own_nscS_155 p0 with ⟨a, b⟩ | ⟨a, b⟩
    · exact Or.inl ⟨a, Or.inr b⟩
    · exact Or.inr ⟨a, fun q => q.elim (fun q => by omega) b⟩
  · have nh1 := own_nltr h1 (by decide : (12289 : Int32).toInt = 12289)
    by_cases h2 : (55295 : Int32) < p0
    · have nh2 := own_ltl h2 (by decide : (55295 : Int32).toInt = 55295)
      rw [if_neg h1, if_pos h2]
      rcases own_nscS_155 p0 with ⟨a, b⟩ | ⟨a, b⟩
      · exact Or.inl ⟨a, Or.inr b⟩
      · exact Or.inr ⟨a, fun q => q.elim (fun q => by omega) b⟩
    · have nh2 := own_nltl h2 (by decide : (55295 : Int32).toInt = 55295)
      rw [if_neg h1, if_neg h2]
      exact Or.inl ⟨rfl, Or.inl (by omega)⟩
def own_PN_128 (n : Int) : Prop := ((11264 ≤ n ∧ n ≤ 12271)) ∨ own_PN_142 n
theorem own_nscS_128 (p0 : Int32) : (own_nsc_128 p0 = 1 ∧ own_PN_128 p0.toInt) ∨ (own_nsc_128 p0 = 0 ∧ ¬ own_PN_128 p0.toInt) := by
  unfold own_nsc_128 own_PN_128
  by_cases h1 : p0 < (11264 : Int32)
  · have nh1 := own_ltr h1 (by decide : (11264 : Int32).toInt = 11264)
    rw [if_pos h1]
    rcases own_nscS_142 p0 with ⟨a, b⟩ | ⟨a, b⟩
    · exact Or.inl ⟨a, Or.inr b⟩
    · exact Or.inr ⟨a, fun q => q.elim (fun q => by omega) b⟩
  · have nh1 := own_nltr h1 (by decide : (11264 : Int32).toInt = 11264)
    by_cases h2 : (12271 : Int32) < p0
    · have nh2 := own_ltl h2 (by decide : (12271 : Int32).toInt = 12271)
      rw [if_neg h1, if_pos h2]
      rcases own_nscS_142 p0 with ⟨a, b⟩ | ⟨a, b⟩
      · exact Or.inl ⟨a, Or.inr b⟩
      · exact Or.inr ⟨a, fun q => q.elim (fun q => by omega) b⟩
    · have nh2 := own_nltl h2 (by decide : (12271 : Int32).toInt = 12271)
      rw [if_neg h1, if_neg h2]
      exact Or.inl ⟨rfl, Or.inl (by omega)⟩
def own_PN_114 (n : Int) : Prop := ((8304 ≤ n ∧ n ≤ 8591)) ∨ own_PN_128 n
theorem own_nscS_114 (p0 : Int32) : (own_nsc_114 p0 = 1 ∧ own_PN_114 p0.toInt) ∨ (own_nsc_114 p0 = 0 ∧ ¬ own_PN_114 p0.toInt) := by
  unfold own_nsc_114 own_PN_114
  by_cases h1 : p0 < (8304 : Int32)
  · have nh1 := own_ltr h1 (by decide : (8304 : Int32).toInt = 8304)
    rw [if_pos h1]
    rcases own_nscS_128 p0 with ⟨a, b⟩ | ⟨a, b⟩
    · exact Or.inl ⟨a, Or.inr b⟩
    · exact Or.inr ⟨a, fun q => q.elim (fun q => by omega) b⟩
  · have nh1 := own_nltr h1 (by decide : (8304 : Int32).toInt = 8304)
    by_cases h2 : (8591 : Int32) < p0
    · have nh2 := own_ltl h2 (by decide : (8591 : Int32).toInt = 8591)
      rw [if_neg h1, if_pos h2]
      rcases own_nscS_128 p0 with ⟨a, b⟩ | ⟨a, b⟩
      · exact Or.inl ⟨a, Or.inr b⟩
      · exact Or.inr ⟨a, fun q => q.elim (fun q => by omega) b⟩
    · have nh2 := own_nltl h2 (by decide : (8591 : Int32).toInt = 8591)
      rw [if_neg h1, if_neg h2]
      exact Or.inl ⟨rfl, Or.inl (by omega)⟩
def own_PN_100 (n : Int) : Prop := ((8204 ≤ n ∧ n ≤ 8205)) ∨ own_PN_114 n
theorem own_nscS_100 (p0 : Int32) : (own_nsc_100 p0 = 1 ∧ own_PN_100 p0.toInt) ∨ (own_nsc_100 p0 = 0 ∧ ¬ own_PN_100 p0.toInt) := by
  unfold own_nsc_100 own_PN_100
  by_cases h1 : p0 < (8204 : Int32)
  · have nh1 := own_ltr h1 (by decide : (8204 : Int32).toInt = 8204)
    rw [if_pos h1]
    rcases own_nscS_114 p0 with ⟨a, b⟩ | ⟨a, b⟩
    · exact Or.inl ⟨a, Or.inr b⟩
    · exact Or.inr ⟨a, fun q => q.elim (fun q => by omega) b⟩
  · have nh1 := own_nltr h1 (by decide : (8204 : Int32).toInt = 8204)
    by_cases h2 : (8205 : Int32) < p0
    · have nh2 := own_ltl h2 (by decide : (8205 : Int32).toInt = 8205)
      rw [if_neg h1, if_pos h2]
      rcases own_nscS_114 p0 with ⟨a, b⟩ | ⟨a, b⟩
      · exact Or.inl ⟨a, Or.inr b⟩
      · exact Or.inr ⟨a, fun q => q.elim (fun q => by omega) b⟩
    · have nh2 := own_nltl h2 (by decide : (8205 : Int32).toInt = 8205)
      rw [if_neg h1, if_neg h2]
      exact Or.inl ⟨rfl, Or.inl (by omega)⟩
def own_PN_86 (n : Int) : Prop := ((895 ≤ n ∧ n ≤ 8191)) ∨ own_PN_100 n
theorem own_nscS_86 (p0 : Int32) : (own_nsc_86 p0 = 1 ∧ own_PN_86 p0.toInt) ∨ (own_nsc_86 p0 = 0 ∧ ¬ own_PN_86 p0.toInt) := by
  unfold own_nsc_86 own_PN_86
  by_cases h1 : p0 < (895 : Int32)
  · have nh1 := own_ltr h1 (by decide : (895 : Int32).toInt = 895)
    rw [if_pos h1]
    rcases own_nscS_100 p0 with ⟨a, b⟩ | ⟨a, b⟩
    · exact Or.inl ⟨a, Or.inr b⟩
    · exact Or.inr ⟨a, fun q => q.elim (fun q => by omega) b⟩
  · have nh1 := own_nltr h1 (by decide : (895 : Int32).toInt = 895)
    by_cases h2 : (8191 : Int32) < p0
    · have nh2 := own_ltl h2 (by decide : (8191 : Int32).toInt = 8191)
      rw [if_neg h1, if_pos h2]
      rcases own_nscS_100 p0 with ⟨a, b⟩ | ⟨a, b⟩
      · exact Or.inl ⟨a, Or.inr b⟩
      · exact Or.inr ⟨a, fun q => q.elim (fun q => by omega) b⟩
    · have nh2 := own_nltl h2 (by decide : (8191 : Int32).toInt = 8191)
      rw [if_neg h1, if_neg h2]
      exact Or.inl ⟨rfl, Or.inl (by omega)⟩
def own_PN_72 (n : Int) : Prop := ((880 ≤ n ∧ n ≤ 893)) ∨ own_PN_86 n
theorem own_nscS_72 (p0 : Int32) : (own_nsc_72 p0 = 1 ∧ own_PN_72 p0.toInt) ∨ (own_nsc_72 p0 = 0 ∧ ¬ own_PN_72 p0.toInt) := by
  unfold own_nsc_72 own_PN_72
  by_cases h1 : p0 < (880 : Int32)
  · have nh1 := own_ltr h1 (by decide : (880 : Int32).toInt = 880)
    rw [if_pos h1]
    rcases own_nscS_86 p0 with ⟨a, b⟩ | ⟨a, b⟩
    · exact Or.inl ⟨a, Or.inr b⟩
    · exact Or.inr ⟨a, fun q => q.elim (fun q => by omega) b⟩
  · have nh1 := own_nltr h1 (by decide : (880 : Int32).toInt = 880)
    by_cases h2 : (893 : Int32) < p0
    · have nh2 := own_ltl h2 (by decide : (893 : Int32).toInt = 893)
      rw [if_neg h1, if_pos h2]
      rcases own_nscS_86 p0 with ⟨a, b⟩ | ⟨a, b⟩
      · exact Or.inl ⟨a, Or.inr b⟩
      · exact Or.inr ⟨a, fun q => q.elim (fun q => by omega) b⟩
    · have nh2 := own_nltl h2 (by decide : (893 : Int32).toInt = 893)
      rw [if_neg h1, if_neg h2]
      exact Or.inl ⟨rfl, Or.inl (by omega)⟩
def own_PN_58 (n : Int) : Prop := ((248 ≤ n ∧ n ≤ 767)) ∨ own_PN_72 n
theorem own_nscS_58 (p0 : Int32) : (own_nsc_58 p0 = 1 ∧ own_PN_58 p0.toInt) ∨ (own_nsc_58 p0 = 0 ∧ ¬ own_PN_58 p0.toInt) := by
  unfold own_nsc_58 own_PN_58
  by_cases h1 : p0 < (248 : Int32)
  · have nh1 := own_ltr h1 (by decide : (248 : Int32).toInt = 248)
    rw [if_pos h1]
    rcases own_nscS_72 p0 with ⟨a, b⟩ | ⟨a, b⟩
    · exact Or.inl ⟨a, Or.inr b⟩
    · exact Or.inr ⟨a, fun q => q.elim (fun q => by omega) b⟩
  · have nh1 := own_nltr h1 (by decide : (248 : Int32).toInt = 248)
    by_cases h2 : (767 : Int32) < p0
    · have nh2 := own_ltl h2 (by decide : (767 : Int32).toInt = 767)
      rw [if_neg h1, if_pos h2]
      rcases own_nscS_72 p0 with ⟨a, b⟩ | ⟨a, b⟩
      · exact Or.inl ⟨a, Or.inr b⟩
      · exact Or.inr ⟨a, fun q => q.elim (fun q => by omega) b⟩
    · have nh2 := own_nltl h2 (by decide : (767 : Int32).toInt = 767)
      rw [if_neg h1, if_neg h2]
      exact Or.inl ⟨rfl, Or.inl (by omega)⟩
def own_PN_44 (n : Int) : Prop := ((216 ≤ n ∧ n ≤ 246)) ∨ own_PN_58 n
theorem own_nscS_44 (p0 : Int32) : (own_nsc_44 p0 = 1 ∧ own_PN_44 p0.toInt) ∨ (own_nsc_44 p0 = 0 ∧ ¬ own_PN_44 p0.toInt) := by
  unfold own_nsc_44 own_PN_44
  by_cases h1 : p0 < (216 : Int32)
  · have nh1 := own_ltr h1 (by decide : (216 : Int32).toInt = 216)
    rw [if_pos h1]
    rcases own_nscS_58 p0 with ⟨a, b⟩ | ⟨a, b⟩
    · exact Or.inl ⟨a, Or.inr b⟩
    · exact Or.inr ⟨a, fun q => q.elim (fun q => by omega) b⟩
  · have nh1 := own_nltr h1 (by decide : (216 : Int32).toInt = 216)
    by_cases h2 : (246 : Int32) < p0
    · have nh2 := own_ltl h2 (by decide : (246 : Int32).toInt = 246)
      rw [if_neg h1, if_pos h2]
      rcases own_nscS_58 p0 with ⟨a, b⟩ | ⟨a, b⟩
      · exact Or.inl ⟨a, Or.inr b⟩
      · exact Or.inr ⟨a, fun q => q.elim (fun q => by omega) b⟩
    · have nh2 := own_nltl h2 (by decide : (246 : Int32).toInt = 246)
      rw [if_neg h1, if_neg h2]
      exact Or.inl ⟨rfl, Or.inl (by omega)⟩
def own_PN_24 (n : Int) : Prop := ((n = 95) ∨ (¬ n = 95 ∧ 192 ≤ n ∧ n ≤ 214)) ∨ own_PN_44 n
theorem own_nscS_24 (p0 : Int32) : (own_nsc_24 p0 = 1 ∧ own_PN_24 p0.toInt) ∨ (own_nsc_24 p0 = 0 ∧ ¬ own_PN_24 p0.toInt) := by
  unfold own_nsc_24 own_PN_24
  by_cases h1 : p0 = (95 : Int32)
  · have nh1 := own_eqr h1 (by decide : (95 : Int32).toInt = 95)
    rw [if_pos h1]
    exact Or.inl ⟨rfl, Or.inl (by omega)⟩
  · have nh1 := own_neqr h1 (by decide : (95 : Int32).toInt = 95)
    by_cases h2 : p0 < (192 : Int32)
    · have nh2 := own_ltr h2 (by decide : (192 : Int32).toInt = 192)
      rw [if_neg h1, if_pos h2]
      rcases own_nscS_44 p0 with ⟨a, b⟩ | ⟨a, b⟩
      · exact Or.inl ⟨a, Or.inr b⟩
      · exact Or.inr ⟨a, fun q => q.elim (fun q => by omega) b⟩
    · have nh2 := own_nltr h2 (by decide : (192 : Int32).toInt = 192)
      by_cases h3 : (214 : Int32) < p0
      · have nh3 := own_ltl h3 (by decide : (214 : Int32).toInt = 214)
        rw [if_neg h1, if_neg h2, if_pos h3]
        rcases own_nscS_44 p0 with ⟨a, b⟩ | ⟨a, b⟩
        · exact Or.inl ⟨a, Or.inr b⟩
        · exact Or.inr ⟨a, fun q => q.elim (fun q => by omega) b⟩
      · have nh3 := own_nltl h3 (by decide : (214 : Int32).toInt = 214)
        rw [if_neg h1, if_neg h2, if_neg h3]
        exact Or.inl ⟨rfl, Or.inl (by omega)⟩
def own_PN_12 (n : Int) : Prop := ((65 ≤ n ∧ n ≤ 90)) ∨ own_PN_24 n
theorem own_nscS_12 (p0 : Int32) : (own_nsc_12 p0 = 1 ∧ own_PN_12 p0.toInt) ∨ (own_nsc_12 p0 = 0 ∧ ¬ own_PN_12 p0.toInt) := by
  unfold own_nsc_12 own_PN_12
  by_cases h1 : p0 < (65 : Int32)
  · have nh1 := own_ltr h1 (by decide : (65 : Int32).toInt = 65)
    rw [if_pos h1]
    rcases own_nscS_24 p0 with ⟨a, b⟩ | ⟨a, b⟩
    · exact Or.inl ⟨a, Or.inr b⟩
    · exact Or.inr ⟨a, fun q => q.elim (fun q => by omega) b⟩
  · have nh1 := own_nltr h1 (by decide : (65 : Int32).toInt = 65)
    by_cases h2 : (90 : Int32) < p0
    · have nh2 := own_ltl h2 (by decide : (90 : Int32).toInt = 90)
      rw [if_neg h1, if_pos h2]
      rcases own_nscS_24 p0 with ⟨a, b⟩ | ⟨a, b⟩
      · exact Or.inl ⟨a, Or.inr b⟩
      · exact Or.inr ⟨a, fun q => q.elim (fun q => by omega) b⟩
    · have nh2 := own_nltl h2 (by decide : (90 : Int32).toInt = 90)
      rw [if_neg h1, if_neg h2]
      exact Or.inl ⟨rfl, Or.inl (by omega)⟩
def own_PN_0 (n : Int) : Prop := ((97 ≤ n ∧ n ≤ 122)) ∨ own_PN_12 n
theorem own_nscS_0 (p0 : Int32) : (own_nsc_0 p0 = 1 ∧ own_PN_0 p0.toInt) ∨ (own_nsc_0 p0 = 0 ∧ ¬ own_PN_0 p0.toInt) := by
  unfold own_nsc_0 own_PN_0
  by_cases h1 : p0 < (97 : Int32)
  · have nh1 := own_ltr h1 (by decide : (97 : Int32).toInt = 97)
    rw [if_pos h1]
    rcases own_nscS_12 p0 with ⟨a, b⟩ | ⟨a, b⟩
    · exact Or.inl ⟨a, Or.inr b⟩
    · exact Or.inr ⟨a, fun q => q.elim (fun q => by omega) b⟩
  · have nh1 := own_nltr h1 (by decide : (97 : Int32).toInt = 97)
    by_cases h2 : (122 : Int32) < p0
    · have nh2 := own_ltl h2 (by decide : (122 : Int32).toInt = 122)
      rw [if_neg h1, if_pos h2]
      rcases own_nscS_12 p0 with ⟨a, b⟩ | ⟨a, b⟩
      · exact Or.inl ⟨a, Or.inr b⟩
      · exact Or.inr ⟨a, fun q => q.elim (fun q => by omega) b⟩
    · have nh2 := own_nltl h2 (by decide : (122 : Int32).toInt = 122)
      rw [if_neg h1, if_neg h2]
      exact Or.inl ⟨rfl, Or.inl (by omega)⟩
theorem own_no (n : Int) (h1 : own_PG_0 n) (h2 : own_PN_0 n) : False := by
  simp only [own_PG_164, own_PG_152, own_PG_140, own_PG_128, own_PG_114, own_PG_100, own_PG_86, own_PG_65, own_PG_37, own_PG_18, own_PG_0, own_PN_179, own_PN_167, own_PN_155, own_PN_142, own_PN_128, own_PN_114, own_PN_100, own_PN_86, own_PN_72, own_PN_58, own_PN_44, own_PN_24, own_PN_12, own_PN_0] at h1 h2
  omega
theorem own_some (n : Int) (h1 : ¬ own_PG_0 n) (h2 : ¬ own_PN_0 n) : False := by
  simp only [own_PG_164, own_PG_152, own_PG_140, own_PG_128, own_PG_114, own_PG_100, own_PG_86, own_PG_65, own_PG_37, own_PG_18, own_PG_0, own_PN_179, own_PN_167, own_PN_155, own_PN_142, own_PN_128, own_PN_114, own_PN_100, own_PN_86, own_PN_72, own_PN_58, own_PN_44, own_PN_24, own_PN_12, own_PN_0] at h1 h2
  omega
theorem own_lawN (x : Int32) (h : own_gap_0 x = 0) : own_nsc_0 x = 1 := by
  rcases own_gapS_0 x with ⟨a, b⟩ | ⟨a, b⟩
  · rw [a] at h; exact absurd h (by decide)
  · rcases own_nscS_0 x with ⟨d, q⟩ | ⟨d, q⟩
    · exact d
    · exact (own_some _ b q).elim
theorem own_lawG (x : Int32) (h : ¬ own_gap_0 x = 0) : own_nsc_0 x = 0 := by
  rcases own_gapS_0 x with ⟨a, b⟩ | ⟨a, b⟩
  · rcases own_nscS_0 x with ⟨d, q⟩ | ⟨d, q⟩
    · exact (own_no _ b q).elim
    · exact d
  · exact absurd a h
/-- an int[] of n places, whatever they hold -/
def own_IA (Z : State) (h : Heap) (a : Addr) (n : Int32) : Prop := ∃ k vs, Arv Z h a k .int n vs (.int 0)
theorem own_IA_set {Z : State} {h h' : Heap} {a : Addr} {n j x : Int32} (V : own_IA Z h a n) (hj : ¬ j < 0 ∧ j < n) (W : Wr h h' a j.toNatClampNeg (.int x)) : own_IA Z h' a n := by
  obtain ⟨k, vs, V⟩ := V
  have V2 := V.pad (vs' := vs ++ List.replicate (j.toNatClampNeg + 1) (.int 0)) (pad_rep vs (.int 0) _)
  obtain ⟨cl, A, q1, S, q3, H, G⟩ := V2
  exact ⟨k, _, Arv.set A q1 S q3 H G rfl W j.toNatClampNeg rfl (by simp; omega)⟩
theorem own_IA_lt {Z : State} {h : Heap} {a : Addr} {n : Int32} (V : own_IA Z h a n) : a < h.size := by obtain ⟨k, vs, V⟩ := V; exact V.lt
theorem d1_170 : decode method_2_code 170 = .ok (.iconst 1, 1) := by decide +kernel
theorem d1_171 : decode method_2_code 171 = .ok (.goto 4, 3) := by decide +kernel
theorem d1_175 : decode method_2_code 175 = .ok (.ireturn, 1) := by decide +kernel
theorem d1_164 : decode method_2_code 164 = .ok (.iload_n 0, 1) := by decide +kernel
theorem d1_165 : decode method_2_code 165 = .ok (.ldc 13, 2) := by decide +kernel
theorem d1_167 : decode method_2_code 167 = .ok (.if_icmp .le 7, 3) := by decide +kernel
theorem d1_174 : decode method_2_code 174 = .ok (.iconst 0, 1) := by decide +kernel
theorem d1_152 : decode method_2_code 152 = .ok (.iload_n 0, 1) := by decide +kernel
theorem d1_153 : decode method_2_code 153 = .ok (.ldc 11, 2) := by decide +kernel
theorem d1_155 : decode method_2_code 155 = .ok (.if_icmp .lt 9, 3) := by decide +kernel
theorem d1_158 : decode method_2_code 158 = .ok (.iload_n 0, 1) := by decide +kernel
theorem d1_159 : decode method_2_code 159 = .ok (.ldc 12, 2) := by decide +kernel
theorem d1_161 : decode method_2_code 161 = .ok (.if_icmp .le 9, 3) := by decide +kernel
theorem d1_140 : decode method_2_code 140 = .ok (.iload_n 0, 1) := by decide +kernel
theorem d1_141 : decode method_2_code 141 = .ok (.ldc 9, 2) := by decide +kernel
theorem d1_143 : decode method_2_code 143 = .ok (.if_icmp .lt 9, 3) := by decide +kernel
theorem d1_146 : decode method_2_code 146 = .ok (.iload_n 0, 1) := by decide +kernel
theorem d1_147 : decode method_2_code 147 = .ok (.ldc 10, 2) := by decide +kernel
theorem d1_149 : decode method_2_code 149 = .ok (.if_icmp .le 21, 3) := by decide +kernel
theorem d1_128 : decode method_2_code 128 = .ok (.iload_n 0, 1) := by decide +kernel
theorem d1_129 : decode method_2_code 129 = .ok (.ldc 7, 2) := by decide +kernel
theorem d1_131 : decode method_2_code 131 = .ok (.if_icmp .lt 9, 3) := by decide +kernel
theorem d1_134 : decode method_2_code 134 = .ok (.iload_n 0, 1) := by decide +kernel
theorem d1_135 : decode method_2_code 135 = .ok (.ldc 8, 2) := by decide +kernel
theorem d1_137 : decode method_2_code 137 = .ok (.if_icmp .le 33, 3) := by decide +kernel
theorem d1_114 : decode method_2_code 114 = .ok (.iload_n 0, 1) := by decide +kernel
theorem d1_115 : decode method_2_code 115 = .ok (.sipush 12272, 3) := by decide +kernel
theorem d1_118 : decode method_2_code 118 = .ok (.if_icmp .lt 10, 3) := by decide +kernel
theorem d1_121 : decode method_2_code 121 = .ok (.iload_n 0, 1) := by decide +kernel
theorem d1_122 : decode method_2_code 122 = .ok (.sipush 12288, 3) := by decide +kernel
theorem d1_125 : decode method_2_code 125 = .ok (.if_icmp .le 45, 3) := by decide +kernel
theorem d1_100 : decode method_2_code 100 = .ok (.iload_n 0, 1) := by decide +kernel
theorem d1_101 : decode method_2_code 101 = .ok (.sipush 8592, 3) := by decide +kernel
theorem d1_104 : decode method_2_code 104 = .ok (.if_icmp .lt 10, 3) := by decide +kernel
theorem d1_107 : decode method_2_code 107 = .ok (.iload_n 0, 1) := by decide +kernel
theorem d1_108 : decode method_2_code 108 = .ok (.sipush 11263, 3) := by decide +kernel
theorem d1_111 : decode method_2_code 111 = .ok (.if_icmp .le 59, 3) := by decide +kernel
theorem d1_86 : decode method_2_code 86 = .ok (.iload_n 0, 1) := by decide +kernel
theorem d1_87 : decode method_2_code 87 = .ok (.sipush 8206, 3) := by decide +kernel
theorem d1_90 : decode method_2_code 90 = .ok (.if_icmp .lt 10, 3) := by decide +kernel
theorem d1_93 : decode method_2_code 93 = .ok (.iload_n 0, 1) := by decide +kernel
theorem d1_94 : decode method_2_code 94 = .ok (.sipush 8303, 3) := by decide +kernel
theorem d1_97 : decode method_2_code 97 = .ok (.if_icmp .le 73, 3) := by decide +kernel
theorem d1_65 : decode method_2_code 65 = .ok (.iload_n 0, 1) := by decide +kernel
theorem d1_66 : decode method_2_code 66 = .ok (.sipush 894, 3) := by decide +kernel
theorem d1_69 : decode method_2_code 69 = .ok (.if_icmp .eq 101, 3) := by decide +kernel
theorem d1_72 : decode method_2_code 72 = .ok (.iload_n 0, 1) := by decide +kernel
theorem d1_73 : decode method_2_code 73 = .ok (.sipush 8192, 3) := by decide +kernel
theorem d1_76 : decode method_2_code 76 = .ok (.if_icmp .lt 10, 3) := by decide +kernel
theorem d1_79 : decode method_2_code 79 = .ok (.iload_n 0, 1) := by decide +kernel
theorem d1_80 : decode method_2_code 80 = .ok (.sipush 8203, 3) := by decide +kernel
theorem d1_83 : decode method_2_code 83 = .ok (.if_icmp .le 87, 3) := by decide +kernel
theorem d1_37 : decode method_2_code 37 = .ok (.iload_n 0, 1) := by decide +kernel
theorem d1_38 : decode method_2_code 38 = .ok (.sipush 215, 3) := by decide +kernel
theorem d1_41 : decode method_2_code 41 = .ok (.if_icmp .eq 129, 3) := by decide +kernel
theorem d1_44 : decode method_2_code 44 = .ok (.iload_n 0, 1) := by decide +kernel
theorem d1_45 : decode method_2_code 45 = .ok (.sipush 247, 3) := by decide +kernel
theorem d1_48 : decode method_2_code 48 = .ok (.if_icmp .eq 122, 3) := by decide +kernel
theorem d1_51 : decode method_2_code 51 = .ok (.iload_n 0, 1) := by decide +kernel
theorem d1_52 : decode method_2_code 52 = .ok (.sipush 768, 3) := by decide +kernel
theorem d1_55 : decode method_2_code 55 = .ok (.if_icmp .lt 10, 3) := by decide +kernel
theorem d1_58 : decode method_2_code 58 = .ok (.iload_n 0, 1) := by decide +kernel
theorem d1_59 : decode method_2_code 59 = .ok (.sipush 879, 3) := by decide +kernel
theorem d1_62 : decode method_2_code 62 = .ok (.if_icmp .le 108, 3) := by decide +kernel
theorem d1_18 : decode method_2_code 18 = .ok (.iload_n 0, 1) := by decide +kernel
theorem d1_19 : decode method_2_code 19 = .ok (.bipush 96, 2) := by decide +kernel
theorem d1_21 : decode method_2_code 21 = .ok (.if_icmp .eq 149, 3) := by decide +kernel
theorem d1_24 : decode method_2_code 24 = .ok (.iload_n 0, 1) := by decide +kernel
theorem d1_25 : decode method_2_code 25 = .ok (.bipush 123, 2) := by decide +kernel
theorem d1_27 : decode method_2_code 27 = .ok (.if_icmp .lt 10, 3) := by decide +kernel
theorem d1_30 : decode method_2_code 30 = .ok (.iload_n 0, 1) := by decide +kernel
theorem d1_31 : decode method_2_code 31 = .ok (.sipush 191, 3) := by decide +kernel
theorem d1_34 : decode method_2_code 34 = .ok (.if_icmp .le 136, 3) := by decide +kernel
theorem d1_0 : decode method_2_code 0 = .ok (.iload_n 0, 1) := by decide +kernel
theorem d1_1 : decode method_2_code 1 = .ok (.bipush 65, 2) := by decide +kernel
theorem d1_3 : decode method_2_code 3 = .ok (.if_icmp .lt 167, 3) := by decide +kernel
theorem d1_6 : decode method_2_code 6 = .ok (.iload_n 0, 1) := by decide +kernel
theorem d1_7 : decode method_2_code 7 = .ok (.bipush 91, 2) := by decide +kernel
theorem d1_9 : decode method_2_code 9 = .ok (.if_icmp .lt 9, 3) := by decide +kernel
theorem d1_12 : decode method_2_code 12 = .ok (.iload_n 0, 1) := by decide +kernel
theorem d1_13 : decode method_2_code 13 = .ok (.bipush 94, 2) := by decide +kernel
theorem d1_15 : decode method_2_code 15 = .ok (.if_icmp .le 155, 3) := by decide +kernel
theorem d2_195 : decode prog_102_method_12_code 195 = .ok (.iconst 0, 1) := by decide +kernel
theorem d2_196 : decode prog_102_method_12_code 196 = .ok (.ireturn, 1) := by decide +kernel
theorem d2_191 : decode prog_102_method_12_code 191 = .ok (.iconst 1, 1) := by decide +kernel
theorem d2_192 : decode prog_102_method_12_code 192 = .ok (.goto 4, 3) := by decide +kernel
theorem d2_179 : decode prog_102_method_12_code 179 = .ok (.iload_n 0, 1) := by decide +kernel
theorem d2_180 : decode prog_102_method_12_code 180 = .ok (.ldc 110, 2) := by decide +kernel
theorem d2_182 : decode prog_102_method_12_code 182 = .ok (.if_icmp .lt 13, 3) := by decide +kernel
theorem d2_185 : decode prog_102_method_12_code 185 = .ok (.iload_n 0, 1) := by decide +kernel
theorem d2_186 : decode prog_102_method_12_code 186 = .ok (.ldc 111, 2) := by decide +kernel
theorem d2_188 : decode prog_102_method_12_code 188 = .ok (.if_icmp .gt 7, 3) := by decide +kernel
theorem d2_167 : decode prog_102_method_12_code 167 = .ok (.iload_n 0, 1) := by decide +kernel
theorem d2_168 : decode prog_102_method_12_code 168 = .ok (.ldc 108, 2) := by decide +kernel
theorem d2_170 : decode prog_102_method_12_code 170 = .ok (.if_icmp .lt 9, 3) := by decide +kernel
theorem d2_173 : decode prog_102_method_12_code 173 = .ok (.iload_n 0, 1) := by decide +kernel
theorem d2_174 : decode prog_102_method_12_code 174 = .ok (.ldc 109, 2) := by decide +kernel
theorem d2_176 : decode prog_102_method_12_code 176 = .ok (.if_icmp .le 15, 3) := by decide +kernel
theorem d2_155 : decode prog_102_method_12_code 155 = .ok (.iload_n 0, 1) := by decide +kernel
theorem d2_156 : decode prog_102_method_12_code 156 = .ok (.ldc 106, 2) := by decide +kernel
theorem d2_158 : decode prog_102_method_12_code 158 = .ok (.if_icmp .lt 9, 3) := by decide +kernel
theorem d2_161 : decode prog_102_method_12_code 161 = .ok (.iload_n 0, 1) := by decide +kernel
theorem d2_162 : decode prog_102_method_12_code 162 = .ok (.ldc 107, 2) := by decide +kernel
theorem d2_164 : decode prog_102_method_12_code 164 = .ok (.if_icmp .le 27, 3) := by decide +kernel
theorem d2_142 : decode prog_102_method_12_code 142 = .ok (.iload_n 0, 1) := by decide +kernel
theorem d2_143 : decode prog_102_method_12_code 143 = .ok (.sipush 12289, 3) := by decide +kernel
theorem d2_146 : decode prog_102_method_12_code 146 = .ok (.if_icmp .lt 9, 3) := by decide +kernel
theorem d2_149 : decode prog_102_method_12_code 149 = .ok (.iload_n 0, 1) := by decide +kernel
theorem d2_150 : decode prog_102_method_12_code 150 = .ok (.ldc 105, 2) := by decide +kernel
theorem d2_152 : decode prog_102_method_12_code 152 = .ok (.if_icmp .le 39, 3) := by decide +kernel
theorem d2_128 : decode prog_102_method_12_code 128 = .ok (.iload_n 0, 1) := by decide +kernel
theorem d2_129 : decode prog_102_method_12_code 129 = .ok (.sipush 11264, 3) := by decide +kernel
theorem d2_132 : decode prog_102_method_12_code 132 = .ok (.if_icmp .lt 10, 3) := by decide +kernel
theorem d2_135 : decode prog_102_method_12_code 135 = .ok (.iload_n 0, 1) := by decide +kernel
theorem d2_136 : decode prog_102_method_12_code 136 = .ok (.sipush 12271, 3) := by decide +kernel
theorem d2_139 : decode prog_102_method_12_code 139 = .ok (.if_icmp .le 52, 3) := by decide +kernel
theorem d2_114 : decode prog_102_method_12_code 114 = .ok (.iload_n 0, 1) := by decide +kernel
theorem d2_115 : decode prog_102_method_12_code 115 = .ok (.sipush 8304, 3) := by decide +kernel
theorem d2_118 : decode prog_102_method_12_code 118 = .ok (.if_icmp .lt 10, 3) := by decide +kernel
theorem d2_121 : decode prog_102_method_12_code 121 = .ok (.iload_n 0, 1) := by decide +kernel
theorem d2_122 : decode prog_102_method_12_code 122 = .ok (.sipush 8591, 3) := by decide +kernel
theorem d2_125 : decode prog_102_method_12_code 125 = .ok (.if_icmp .le 66, 3) := by decide +kernel
theorem d2_100 : decode prog_102_method_12_code 100 = .ok (.iload_n 0, 1) := by decide +kernel
theorem d2_101 : decode prog_102_method_12_code 101 = .ok (.sipush 8204, 3) := by decide +kernel
theorem d2_104 : decode prog_102_method_12_code 104 = .ok (.if_icmp .lt 10, 3) := by decide +kernel
theorem d2_107 : decode prog_102_method_12_code 107 = .ok (.iload_n 0, 1) := by decide +kernel
theorem d2_108 : decode prog_102_method_12_code 108 = .ok (.sipush 8205, 3) := by decide +kernel
theorem d2_111 : decode prog_102_method_12_code 111 = .ok (.if_icmp .le 80, 3) := by decide +kernel
theorem d2_86 : decode prog_102_method_12_code 86 = .ok (.iload_n 0, 1) := by decide +kernel
theorem d2_87 : decode prog_102_method_12_code 87 = .ok (.sipush 895, 3) := by decide +kernel
theorem d2_90 : decode prog_102_method_12_code 90 = .ok (.if_icmp .lt 10, 3) := by decide +kernel
theorem d2_93 : decode prog_102_method_12_code 93 = .ok (.iload_n 0, 1) := by decide +kernel
theorem d2_94 : decode prog_102_method_12_code 94 = .ok (.sipush 8191, 3) := by decide +kernel
theorem d2_97 : decode prog_102_method_12_code 97 = .ok (.if_icmp .le 94, 3) := by decide +kernel
theorem d2_72 : decode prog_102_method_12_code 72 = .ok (.iload_n 0, 1) := by decide +kernel
theorem d2_73 : decode prog_102_method_12_code 73 = .ok (.sipush 880, 3) := by decide +kernel
theorem d2_76 : decode prog_102_method_12_code 76 = .ok (.if_icmp .lt 10, 3) := by decide +kernel
theorem d2_79 : decode prog_102_method_12_code 79 = .ok (.iload_n 0, 1) := by decide +kernel
theorem d2_80 : decode prog_102_method_12_code 80 = .ok (.sipush 893, 3) := by decide +kernel
theorem d2_83 : decode prog_102_method_12_code 83 = .ok (.if_icmp .le 108, 3) := by decide +kernel
theorem d2_58 : decode prog_102_method_12_code 58 = .ok (.iload_n 0, 1) := by decide +kernel
theorem d2_59 : decode prog_102_method_12_code 59 = .ok (.sipush 248, 3) := by decide +kernel
theorem d2_62 : decode prog_102_method_12_code 62 = .ok (.if_icmp .lt 10, 3) := by decide +kernel
theorem d2_65 : decode prog_102_method_12_code 65 = .ok (.iload_n 0, 1) := by decide +kernel
theorem d2_66 : decode prog_102_method_12_code 66 = .ok (.sipush 767, 3) := by decide +kernel
theorem d2_69 : decode prog_102_method_12_code 69 = .ok (.if_icmp .le 122, 3) := by decide +kernel
theorem d2_44 : decode prog_102_method_12_code 44 = .ok (.iload_n 0, 1) := by decide +kernel
theorem d2_45 : decode prog_102_method_12_code 45 = .ok (.sipush 216, 3) := by decide +kernel
theorem d2_48 : decode prog_102_method_12_code 48 = .ok (.if_icmp .lt 10, 3) := by decide +kernel
theorem d2_51 : decode prog_102_method_12_code 51 = .ok (.iload_n 0, 1) := by decide +kernel
theorem d2_52 : decode prog_102_method_12_code 52 = .ok (.sipush 246, 3) := by decide +kernel
theorem d2_55 : decode prog_102_method_12_code 55 = .ok (.if_icmp .le 136, 3) := by decide +kernel
theorem d2_24 : decode prog_102_method_12_code 24 = .ok (.iload_n 0, 1) := by decide +kernel
theorem d2_25 : decode prog_102_method_12_code 25 = .ok (.bipush 95, 2) := by decide +kernel
theorem d2_27 : decode prog_102_method_12_code 27 = .ok (.if_icmp .eq 164, 3) := by decide +kernel
theorem d2_30 : decode prog_102_method_12_code 30 = .ok (.iload_n 0, 1) := by decide +kernel
theorem d2_31 : decode prog_102_method_12_code 31 = .ok (.sipush 192, 3) := by decide +kernel
theorem d2_34 : decode prog_102_method_12_code 34 = .ok (.if_icmp .lt 10, 3) := by decide +kernel
theorem d2_37 : decode prog_102_method_12_code 37 = .ok (.iload_n 0, 1) := by decide +kernel
theorem d2_38 : decode prog_102_method_12_code 38 = .ok (.sipush 214, 3) := by decide +kernel
theorem d2_41 : decode prog_102_method_12_code 41 = .ok (.if_icmp .le 150, 3) := by decide +kernel
theorem d2_12 : decode prog_102_method_12_code 12 = .ok (.iload_n 0, 1) := by decide +kernel
theorem d2_13 : decode prog_102_method_12_code 13 = .ok (.bipush 65, 2) := by decide +kernel
theorem d2_15 : decode prog_102_method_12_code 15 = .ok (.if_icmp .lt 9, 3) := by decide +kernel
theorem d2_18 : decode prog_102_method_12_code 18 = .ok (.iload_n 0, 1) := by decide +kernel
theorem d2_19 : decode prog_102_method_12_code 19 = .ok (.bipush 90, 2) := by decide +kernel
theorem d2_21 : decode prog_102_method_12_code 21 = .ok (.if_icmp .le 170, 3) := by decide +kernel
theorem d2_0 : decode prog_102_method_12_code 0 = .ok (.iload_n 0, 1) := by decide +kernel
theorem d2_1 : decode prog_102_method_12_code 1 = .ok (.bipush 97, 2) := by decide +kernel
theorem d2_3 : decode prog_102_method_12_code 3 = .ok (.if_icmp .lt 9, 3) := by decide +kernel
theorem d2_6 : decode prog_102_method_12_code 6 = .ok (.iload_n 0, 1) := by decide +kernel
theorem d2_7 : decode prog_102_method_12_code 7 = .ok (.bipush 122, 2) := by decide +kernel
theorem d2_9 : decode prog_102_method_12_code 9 = .ok (.if_icmp .le 182, 3) := by decide +kernel
theorem pn_173 : plainName "com/example/umform/umform/model/tree/NameIsNameStartCharPinLaw" = true := by first | (simp [plainName, overriddenIn]; done) | decide +kernel
theorem ef_rm1 (m : MethodId) (x0 : Int32) : entryFrame m #[(.int x0)] 1 = mkF m 0 #[.val (.int x0)] [] := by first | (simp [entryFrame, mkF, argsToLocals, Value.category]; done) | rfl
def Q_rm1 (Z : State) (p0 : Int32) (h0 : Heap) (n0 : Nat) (v : Option Value) (h : Heap) (L : List Loc) : Prop := v = some (.int (own_gap_0 p0)) ∧ h = h0 ∧ L = []
set_option maxRecDepth 65536 in
set_option maxHeartbeats 40000000 in
theorem rm1 (l : Launch) (Z : State) (a0 : Array Value) (hw : ∀ d ∈ tables_1, d.before a0 Z = true) (ws : List Jvm.Cond) (p0 : Int32) (h0 : Heap) (n0 : Nat) (Z0 : n0 ≤ h0.size)  :
    MetFree l (⟨"com/example/umform/umform/model/tree/NameIsNameStartCharPinLaw", "inGap", "(I)Z"⟩ : MethodName) (head1 (Jvm.Cond.code (⟨"com/example/umform/umform/model/tree/NameIsNameStartCharPinLaw", "inGap", "(I)Z"⟩ : MethodName) method_2_code 1 (some .boolean) :: ws) ({ frames := 0, cells := 0, slots := 0, locals := 0 } : Room)) (fun a U => a = #[(.int p0)] ∧ Z.Warmed39 U.vm ∧ U.heap = h0) (fun _ _ _ _ _ => True) (fun _ U o U' => ∃ v L, o = .returned v ∧ Q_rm1 Z p0 h0 n0 v U'.heap L ∧ FrameEnd U o U' L ({ frames := 0, cells := 0, slots := 0, locals := 0 } : Room).cells ({ frames := 0, cells := 0, slots := 0, locals := 0 } : Room).slots) := by
  refine MetFree.of_bodySF (plainFor_of_name pn_173) hisR ?_
  intro p e s m args below meth c s₁ Bd hml0 hP hK
  obtain ⟨rfl, hZ, hh⟩ := hP
  have hx := Bd.exec
  have hby := Bd.bytes
  have hlk := Bd.notSynchronized
  have hml : c.maxLocals = 1 := hml0
  have hown : s.vm.findClass "com/example/umform/umform/model/tree/NameIsNameStartCharPinLaw" = some m.cls := findClass_of_methodNamed Bd.named
  have hnm := (name_of_methodNamed Bd.named Bd.method).1
  have X0 : Stand p l e ({ frames := 0, cells := 0, slots := 0, locals := 0 } : Room) s m #[(.int p0)] below meth c s₁ [] 0 0 := Stand.of_body Bd
  have e0 : s₁.heap = h0 := by rw [← hh, Bd.state]; rfl
  have N0 := Fr.nil n0
  change own_Go p e below s (Q_rm1 Z p0 h0 n0) ({ frames := 0, cells := 0, slots := 0, locals := 0 } : Room).cells ({ frames := 0, cells := 0, slots := 0, locals := 0 } : Room).slots _
  refine own_go (S' := (s₁.setTop (mkF m 0 #[.val (.int p0)] []))) (fun _ kont => castTop (ef_rm1 m p0) kont) ?_
  have K170 : own_Go p e below s (fun (v : Option Value) (h : Heap) (L : List Loc) => v = some (.int (own_gap_170 p0)) ∧ h = h0 ∧ L = []) ({ frames := 0, cells := 0, slots := 0, locals := 0 } : Room).cells ({ frames := 0, cells := 0, slots := 0, locals := 0 } : Room).slots (s₁.setTop (mkF m 170 #[.val (.int p0)] [])) := by
    refine own_go (S' := (s₁.setTop (mkF m 175 #[.val (.int p0)] [(.int (1 : Int32))]))) (fun _ kont => XS.iconst X0.here hx rfl (hb hby d1_170) (XS.goto X0.here hx rfl (pc0 := 171) (pc' := 175) rfl (hb hby d1_171) (by decide) (by decide) kont)) ?_
    refine own_retN (t := .boolean) X0 hx hlk (by simp) Bd.returns (hb hby d1_175) (by decide) (by decide) ?_
    exact ⟨rfl, e0, rfl⟩
  have K164 : own_Go p e below s (fun (v : Option Value) (h : Heap) (L : List Loc) => v = some (.int (own_gap_164 p0)) ∧ h = h0 ∧ L = []) ({ frames := 0, cells := 0, slots := 0, locals := 0 } : Room).cells ({ frames := 0, cells := 0, slots := 0, locals := 0 } : Room).slots (s₁.setTop (mkF m 164 #[.val (.int p0)] [])) := by
    refine own_go (S' := (s₁.setTop (mkF m 165 #[.val (.int p0)] [(.int p0)]))) (fun _ kont => XS.iloadN X0.here hx rfl (hb hby d1_164) rfl kont) ?_
    refine own_go (S' := (s₁.setTop (mkF m 167 #[.val (.int p0)] [(.int (983039 : Int32)), (.int p0)]))) (X0.ldcInt hx hown (mvT hZ (hw _ (List.mem_of_getElem? (i := 7) rfl))) (g := (mkF m 165 #[.val (.int p0)] [(.int p0)])) rfl (hb hby d1_165)) ?_
    by_cases b167_1 : (983039 : Int32) < p0
    · refine own_go (S' := (s₁.setTop (mkF m 170 #[.val (.int p0)] []))) (fun _ kont => XS.icmpNo X0.here hx rfl (hb hby d1_167) rfl (tlt b167_1).2.2.2 kont) ?_
      rw [show own_gap_164 p0 = own_gap_170 p0 from by unfold own_gap_164; rw [if_pos b167_1]]
      exact K170
    · refine own_go (S' := (s₁.setTop (mkF m 175 #[.val (.int p0)] [(.int (0 : Int32))]))) (fun _ kont => XS.icmpYes X0.here hx rfl (pc0 := 167) (pc' := 174) rfl (hb hby d1_167) rfl (flt b167_1).2.2.2 (by decide) (by decide) (XS.iconst X0.here hx rfl (hb hby d1_174) kont)) ?_
      refine own_retN (t := .boolean) X0 hx hlk (by simp) Bd.returns (hb hby d1_175) (by decide) (by decide) ?_
      exact ⟨by unfold own_gap_164; rw [if_neg b167_1] <;> rfl, e0, rfl⟩
  have K152 : own_Go p e below s (fun (v : Option Value) (h : Heap) (L : List Loc) => v = some (.int (own_gap_152 p0)) ∧ h = h0 ∧ L = []) ({ frames := 0, cells := 0, slots := 0, locals := 0 } : Room).cells ({ frames := 0, cells := 0, slots := 0, locals := 0 } : Room).slots (s₁.setTop (mkF m 152 #[.val (.int p0)] [])) := by
    refine own_go (S' := (s₁.setTop (mkF m 153 #[.val (.int p0)] [(.int p0)]))) (fun _ kont => XS.iloadN X0.here hx rfl (hb hby d1_152) rfl kont) ?_
    refine own_go (S' := (s₁.setTop (mkF m 155 #[.val (.int p0)] [(.int (65534 : Int32)), (.int p0)]))) (X0.ldcInt hx hown (mvT hZ (hw _ (List.mem_of_getElem? (i := 15) rfl))) (g := (mkF m 153 #[.val (.int p0)] [(.int p0)])) rfl (hb hby d1_153)) ?_
    by_cases b155_2 : p0 < (65534 : Int32)
    · refine own_go (S' := (s₁.setTop (mkF m 164 #[.val (.int p0)] []))) (fun _ kont => XS.icmpYes X0.here hx rfl (pc0 := 155) (pc' := 164) rfl (hb hby d1_155) rfl (tlt b155_2).1 (by decide) (by decide) kont) ?_
      rw [show own_gap_152 p0 = own_gap_164 p0 from by unfold own_gap_152; rw [if_pos b155_2]]
      exact K164
    · refine own_go (S' := (s₁.setTop (mkF m 159 #[.val (.int p0)] [(.int p0)]))) (fun _ kont => XS.icmpNo X0.here hx rfl (hb hby d1_155) rfl (flt b155_2).1 (XS.iloadN X0.here hx rfl (hb hby d1_158) rfl kont)) ?_
      refine own_go (S' := (s₁.setTop (mkF m 161 #[.val (.int p0)] [(.int (65535 : Int32)), (.int p0)]))) (X0.ldcInt hx hown (mvT hZ (hw _ (List.mem_of_getElem? (i := 22) rfl))) (g := (mkF m 159 #[.val (.int p0)] [(.int p0)])) rfl (hb hby d1_159)) ?_
      by_cases b161_3 : (65535 : Int32) < p0
      · refine own_go (S' := (s₁.setTop (mkF m 164 #[.val (.int p0)] []))) (fun _ kont => XS.icmpNo X0.here hx rfl (hb hby d1_161) rfl (tlt b161_3).2.2.2 kont) ?_
        rw [show own_gap_152 p0 = own_gap_164 p0 from by unfold own_gap_152; rw [if_neg b155_2, if_pos b161_3]]
        exact K164
      · refine own_go (S' := (s₁.setTop (mkF m 170 #[.val (.int p0)] []))) (fun _ kont => XS.icmpYes X0.here hx rfl (pc0 := 161) (pc' := 170) rfl (hb hby d1_161) rfl (flt b161_3).2.2.2 (by decide) (by decide) kont) ?_
        rw [show own_gap_152 p0 = own_gap_170 p0 from by unfold own_gap_152; rw [if_neg b155_2, if_neg b161_3]]
        exact K170
  have K140 : own_Go p e below s (fun (v : Option Value) (h : Heap) (L : List Loc) => v = some (.int (own_gap_140 p0)) ∧ h = h0 ∧ L = []) ({ frames := 0, cells := 0, slots := 0, locals := 0 } : Room).cells ({ frames := 0, cells := 0, slots := 0, locals := 0 } : Room).slots (s₁.setTop (mkF m 140 #[.val (.int p0)] [])) := by
    refine own_go (S' := (s₁.setTop (mkF m 141 #[.val (.int p0)] [(.int p0)]))) (fun _ kont => XS.iloadN X0.here hx rfl (hb hby d1_140) rfl kont) ?_
    refine own_go (S' := (s₁.setTop (mkF m 143 #[.val (.int p0)] [(.int (64976 : Int32)), (.int p0)]))) (X0.ldcInt hx hown (mvT hZ (hw _ (List.mem_of_getElem? (i := 14) rfl))) (g := (mkF m 141 #[.val (.int p0)] [(.int p0)])) rfl (hb hby d1_141)) ?_
    by_cases b143_4 : p0 < (64976 : Int32)
    · refine own_go (S' := (s₁.setTop (mkF m 152 #[.val (.int p0)] []))) (fun _ kont => XS.icmpYes X0.here hx rfl (pc0 := 143) (pc' := 152) rfl (hb hby d1_143) rfl (tlt b143_4).1 (by decide) (by decide) kont) ?_
      rw [show own_gap_140 p0 = own_gap_152 p0 from by unfold own_gap_140; rw [if_pos b143_4]]
      exact K152
    · refine own_go (S' := (s₁.setTop (mkF m 147 #[.val (.int p0)] [(.int p0)]))) (fun _ kont => XS.icmpNo X0.here hx rfl (hb hby d1_143) rfl (flt b143_4).1 (XS.iloadN X0.here hx rfl (hb hby d1_146) rfl kont)) ?_
      refine own_go (S' := (s₁.setTop (mkF m 149 #[.val (.int p0)] [(.int (65007 : Int32)), (.int p0)]))) (X0.ldcInt hx hown (mvT hZ (hw _ (List.mem_of_getElem? (i := 21) rfl))) (g := (mkF m 147 #[.val (.int p0)] [(.int p0)])) rfl (hb hby d1_147)) ?_
      by_cases b149_5 : (65007 : Int32) < p0
      · refine own_go (S' := (s₁.setTop (mkF m 152 #[.val (.int p0)] []))) (fun _ kont => XS.icmpNo X0.here hx rfl (hb hby d1_149) rfl (tlt b149_5).2.2.2 kont) ?_
        rw [show own_gap_140 p0 = own_gap_152 p0 from by unfold own_gap_140; rw [if_neg b143_4, if_pos b149_5]]
        exact K152
      · refine own_go (S' := (s₁.setTop (mkF m 170 #[.val (.int p0)] []))) (fun _ kont => XS.icmpYes X0.here hx rfl (pc0 := 149) (pc' := 170) rfl (hb hby d1_149) rfl (flt b149_5).2.2.2 (by decide) (by decide) kont) ?_
        rw [show own_gap_140 p0 = own_gap_170 p0 from by unfold own_gap_140; rw [if_neg b143_4, if_neg b149_5]]
        exact K170
  have K128 : own_Go p e below s (fun (v : Option Value) (h : Heap) (L : List Loc) => v = some (.int (own_gap_128 p0)) ∧ h = h0 ∧ L = []) ({ frames := 0, cells := 0, slots := 0, locals := 0 } : Room).cells ({ frames := 0, cells := 0, slots := 0, locals := 0 } : Room).slots (s₁.setTop (mkF m 128 #[.val (.int p0)] [])) := by
    refine own_go (S' := (s₁.setTop (mkF m 129 #[.val (.int p0)] [(.int p0)]))) (fun _ kont => XS.iloadN X0.here hx rfl (hb hby d1_128) rfl kont) ?_
    refine own_go (S' := (s₁.setTop (mkF m 131 #[.val (.int p0)] [(.int (55296 : Int32)), (.int p0)]))) (X0.ldcInt hx hown (mvT hZ (hw _ (List.mem_of_getElem? (i := 13) rfl))) (g := (mkF m 129 #[.val (.int p0)] [(.int p0)])) rfl (hb hby d1_129)) ?_
    by_cases b131_6 : p0 < (55296 : Int32)
    · refine own_go (S' := (s₁.setTop (mkF m 140 #[.val (.int p0)] []))) (fun _ kont => XS.icmpYes X0.here hx rfl (pc0 := 131) (pc' := 140) rfl (hb hby d1_131) rfl (tlt b131_6).1 (by decide) (by decide) kont) ?_
      rw [show own_gap_128 p0 = own_gap_140 p0 from by unfold own_gap_128; rw [if_pos b131_6]]
      exact K140
    · refine own_go (S' := (s₁.setTop (mkF m 135 #[.val (.int p0)] [(.int p0)]))) (fun _ kont => XS.icmpNo X0.here hx rfl (hb hby d1_131) rfl (flt b131_6).1 (XS.iloadN X0.here hx rfl (hb hby d1_134) rfl kont)) ?_
      refine own_go (S' := (s₁.setTop (mkF m 137 #[.val (.int p0)] [(.int (63743 : Int32)), (.int p0)]))) (X0.ldcInt hx hown (mvT hZ (hw _ (List.mem_of_getElem? (i := 20) rfl))) (g := (mkF m 135 #[.val (.int p0)] [(.int p0)])) rfl (hb hby d1_135)) ?_
      by_cases b137_7 : (63743 : Int32) < p0
      · refine own_go (S' := (s₁.setTop (mkF m 140 #[.val (.int p0)] []))) (fun _ kont => XS.icmpNo X0.here hx rfl (hb hby d1_137) rfl (tlt b137_7).2.2.2 kont) ?_
        rw [show own_gap_128 p0 = own_gap_140 p0 from by unfold own_gap_128; rw [if_neg b131_6, if_pos b137_7]]
        exact K140
      · refine own_go (S' := (s₁.setTop (mkF m 170 #[.val (.int p0)] []))) (fun _ kont => XS.icmpYes X0.here hx rfl (pc0 := 137) (pc' := 170) rfl (hb hby d1_137) rfl (flt b137_7).2.2.2 (by decide) (by decide) kont) ?_
        rw [show own_gap_128 p0 = own_gap_170 p0 from by unfold own_gap_128; rw [if_neg b131_6, if_neg b137_7]]
        exact K170
  have K114 : own_Go p e below s (fun (v : Option Value) (h : Heap) (L : List Loc) => v = some (.int (own_gap_114 p0)) ∧ h = h0 ∧ L = []) ({ frames := 0, cells := 0, slots := 0, locals := 0 } : Room).cells ({ frames := 0, cells := 0, slots := 0, locals := 0 } : Room).slots (s₁.setTop (mkF m 114 #[.val (.int p0)] [])) := by
    refine own_go (S' := (s₁.setTop (mkF m 118 #[.val (.int p0)] [(.int (12272 : Int32)), (.int p0)]))) (fun _ kont => XS.iloadN X0.here hx rfl (hb hby d1_114) rfl (XS.sipush X0.here hx rfl (hb hby d1_115) kont)) ?_
    by_cases b118_8 : p0 < (12272 : Int32)
    · refine own_go (S' := (s₁.setTop (mkF m 128 #[.val (.int p0)] []))) (fun _ kont => XS.icmpYes X0.here hx rfl (pc0 := 118) (pc' := 128) rfl (hb hby d1_118) rfl (tlt b118_8).1 (by decide) (by decide) kont) ?_
      rw [show own_gap_114 p0 = own_gap_128 p0 from by unfold own_gap_114; rw [if_pos b118_8]]
      exact K128
    · refine own_go (S' := (s₁.setTop (mkF m 125 #[.val (.int p0)] [(.int (12288 : Int32)), (.int p0)]))) (fun _ kont => XS.icmpNo X0.here hx rfl (hb hby d1_118) rfl (flt b118_8).1 (XS.iloadN X0.here hx rfl (hb hby d1_121) rfl (XS.sipush X0.here hx rfl (hb hby d1_122) kont))) ?_
      by_cases b125_9 : (12288 : Int32) < p0
      · refine own_go (S' := (s₁.setTop (mkF m 128 #[.val (.int p0)] []))) (fun _ kont => XS.icmpNo X0.here hx rfl (hb hby d1_125) rfl (tlt b125_9).2.2.2 kont) ?_
        rw [show own_gap_114 p0 = own_gap_128 p0 from by unfold own_gap_114; rw [if_neg b118_8, if_pos b125_9]]
        exact K128
      · refine own_go (S' := (s₁.setTop (mkF m 170 #[.val (.int p0)] []))) (fun _ kont => XS.icmpYes X0.here hx rfl (pc0 := 125) (pc' := 170) rfl (hb hby d1_125) rfl (flt b125_9).2.2.2 (by decide) (by decide) kont) ?_
        rw [show own_gap_114 p0 = own_gap_170 p0 from by unfold own_gap_114; rw [if_neg b118_8, if_neg b125_9]]
        exact K170
  have K100 : own_Go p e below s (fun (v : Option Value) (h : Heap) (L : List Loc) => v = some (.int (own_gap_100 p0)) ∧ h = h0 ∧ L = []) ({ frames := 0, cells := 0, slots := 0, locals := 0 } : Room).cells ({ frames := 0, cells := 0, slots := 0, locals := 0 } : Room).slots (s₁.setTop (mkF m 100 #[.val (.int p0)] [])) := by
    refine own_go (S' := (s₁.setTop (mkF m 104 #[.val (.int p0)] [(.int (8592 : Int32)), (.int p0)]))) (fun _ kont => XS.iloadN X0.here hx rfl (hb hby d1_100) rfl (XS.sipush X0.here hx rfl (hb hby d1_101) kont)) ?_
    by_cases b104_10 : p0 < (8592 : Int32)
    · refine own_go (S' := (s₁.setTop (mkF m 114 #[.val (.int p0)] []))) (fun _ kont => XS.icmpYes X0.here hx rfl (pc0 := 104) (pc' := 114) rfl (hb hby d1_104) rfl (tlt b104_10).1 (by decide) (by decide) kont) ?_
      rw [show own_gap_100 p0 = own_gap_114 p0 from by unfold own_gap_100; rw [if_pos b104_10]]
      exact K114
    · refine own_go (S' := (s₁.setTop (mkF m 111 #[.val (.int p0)] [(.int (11263 : Int32)), (.int p0)]))) (fun _ kont => XS.icmpNo X0.here hx rfl (hb hby d1_104) rfl (flt b104_10).1 (XS.iloadN X0.here hx rfl (hb hby d1_107) rfl (XS.sipush X0.here hx rfl (hb hby d1_108) kont))) ?_
      by_cases b111_11 : (11263 : Int32) < p0
      · refine own_go (S' := (s₁.setTop (mkF m 114 #[.val (.int p0)] []))) (fun _ kont => XS.icmpNo X0.here hx rfl (hb hby d1_111) rfl (tlt b111_11).2.2.2 kont) ?_
        rw [show own_gap_100 p0 = own_gap_114 p0 from by unfold own_gap_100; rw [if_neg b104_10, if_pos b111_11]]
        exact K114
      · refine own_go (S' := (s₁.setTop (mkF m 170 #[.val (.int p0)] []))) (fun _ kont => XS.icmpYes X0.here hx rfl (pc0 := 111) (pc' := 170) rfl (hb hby d1_111) rfl (flt b111_11).2.2.2 (by decide) (by decide) kont) ?_
        rw [show own_gap_100 p0 = own_gap_170 p0 from by unfold own_gap_100; rw [if_neg b104_10, if_neg b111_11]]
        exact K170
  have K86 : own_Go p e below s (fun (v : Option Value) (h : Heap) (L : List Loc) => v = some (.int (own_gap_86 p0)) ∧ h = h0 ∧ L = []) ({ frames := 0, cells := 0, slots := 0, locals := 0 } : Room).cells ({ frames := 0, cells := 0, slots := 0, locals := 0 } : Room).slots (s₁.setTop (mkF m 86 #[.val (.int p0)] [])) := by
    refine own_go (S' := (s₁.setTop (mkF m 90 #[.val (.int p0)] [(.int (8206 : Int32)), (.int p0)]))) (fun _ kont => XS.iloadN X0.here hx rfl (hb hby d1_86) rfl (XS.sipush X0.here hx rfl (hb hby d1_87) kont)) ?_
    by_cases b90_12 : p0 < (8206 : Int32)
    · refine own_go (S' := (s₁.setTop (mkF m 100 #[.val (.int p0)] []))) (fun _ kont => XS.icmpYes X0.here hx rfl (pc0 := 90) (pc' := 100) rfl (hb hby d1_90) rfl (tlt b90_12).1 (by decide) (by decide) kont) ?_
      rw [show own_gap_86 p0 = own_gap_100 p0 from by unfold own_gap_86; rw [if_pos b90_12]]
      exact K100
    · refine own_go (S' := (s₁.setTop (mkF m 97 #[.val (.int p0)] [(.int (8303 : Int32)), (.int p0)]))) (fun _ kont => XS.icmpNo X0.here hx rfl (hb hby d1_90) rfl (flt b90_12).1 (XS.iloadN X0.here hx rfl (hb hby d1_93) rfl (XS.sipush X0.here hx rfl (hb hby d1_94) kont))) ?_
      by_cases b97_13 : (8303 : Int32) < p0
      · refine own_go (S' := (s₁.setTop (mkF m 100 #[.val (.int p0)] []))) (fun _ kont => XS.icmpNo X0.here hx rfl (hb hby d1_97) rfl (tlt b97_13).2.2.2 kont) ?_
        rw [show own_gap_86 p0 = own_gap_100 p0 from by unfold own_gap_86; rw [if_neg b90_12, if_pos b97_13]]
        exact K100
      · refine own_go (S' := (s₁.setTop (mkF m 170 #[.val (.int p0)] []))) (fun _ kont => XS.icmpYes X0.here hx rfl (pc0 := 97) (pc' := 170) rfl (hb hby d1_97) rfl (flt b97_13).2.2.2 (by decide) (by decide) kont) ?_
        rw [show own_gap_86 p0 = own_gap_170 p0 from by unfold own_gap_86; rw [if_neg b90_12, if_neg b97_13]]
        exact K170
  have K65 : own_Go p e below s (fun (v : Option Value) (h : Heap) (L : List Loc) => v = some (.int (own_gap_65 p0)) ∧ h = h0 ∧ L = []) ({ frames := 0, cells := 0, slots := 0, locals := 0 } : Room).cells ({ frames := 0, cells := 0, slots := 0, locals := 0 } : Room).slots (s₁.setTop (mkF m 65 #[.val (.int p0)] [])) := by
    refine own_go (S' := (s₁.setTop (mkF m 69 #[.val (.int p0)] [(.int (894 : Int32)), (.int p0)]))) (fun _ kont => XS.iloadN X0.here hx rfl (hb hby d1_65) rfl (XS.sipush X0.here hx rfl (hb hby d1_66) kont)) ?_
    by_cases b69_14 : p0 = (894 : Int32)
    · refine own_go (S' := (s₁.setTop (mkF m 170 #[.val (.int p0)] []))) (fun _ kont => XS.icmpYes X0.here hx rfl (pc0 := 69) (pc' := 170) rfl (hb hby d1_69) rfl (teq b69_14).1 (by decide) (by decide) kont) ?_
      rw [show own_gap_65 p0 = own_gap_170 p0 from by unfold own_gap_65; rw [if_pos b69_14]]
      exact K170
    · refine own_go (S' := (s₁.setTop (mkF m 76 #[.val (.int p0)] [(.int (8192 : Int32)), (.int p0)]))) (fun _ kont => XS.icmpNo X0.here hx rfl (hb hby d1_69) rfl (feq b69_14).1 (XS.iloadN X0.here hx rfl (hb hby d1_72) rfl (XS.sipush X0.here hx rfl (hb hby d1_73) kont))) ?_
      by_cases b76_15 : p0 < (8192 : Int32)
      · refine own_go (S' := (s₁.setTop (mkF m 86 #[.val (.int p0)] []))) (fun _ kont => XS.icmpYes X0.here hx rfl (pc0 := 76) (pc' := 86) rfl (hb hby d1_76) rfl (tlt b76_15).1 (by decide) (by decide) kont) ?_
        rw [show own_gap_65 p0 = own_gap_86 p0 from by unfold own_gap_65; rw [if_neg b69_14, if_pos b76_15]]
        exact K86
      · refine own_go (S' := (s₁.setTop (mkF m 83 #[.val (.int p0)] [(.int (8203 : Int32)), (.int p0)]))) (fun _ kont => XS.icmpNo X0.here hx rfl (hb hby d1_76) rfl (flt b76_15).1 (XS.iloadN X0.here hx rfl (hb hby d1_79) rfl (XS.sipush X0.here hx rfl (hb hby d1_80) kont))) ?_
        by_cases b83_16 : (8203 : Int32) < p0
        · refine own_go (S' := (s₁.setTop (mkF m 86 #[.val (.int p0)] []))) (fun _ kont => XS.icmpNo X0.here hx rfl (hb hby d1_83) rfl (tlt b83_16).2.2.2 kont) ?_
          rw [show own_gap_65 p0 = own_gap_86 p0 from by unfold own_gap_65; rw [if_neg b69_14, if_neg b76_15, if_pos b83_16]]
          exact K86
        · refine own_go (S' := (s₁.setTop (mkF m 170 #[.val (.int p0)] []))) (fun _ kont => XS.icmpYes X0.here hx rfl (pc0 := 83) (pc' := 170) rfl (hb hby d1_83) rfl (flt b83_16).2.2.2 (by decide) (by decide) kont) ?_
          rw [show own_gap_65 p0 = own_gap_170 p0 from by unfold own_gap_65; rw [if_neg b69_14, if_neg b76_15, if_neg b83_16]]
          exact K170
  have K37 : own_Go p e below s (fun (v : Option Value) (h : Heap) (L : List Loc) => v = some (.int (own_gap_37 p0)) ∧ h = h0 ∧ L = []) ({ frames := 0, cells := 0, slots := 0, locals := 0 } : Room).cells ({ frames := 0, cells := 0, slots := 0, locals := 0 } : Room).slots (s₁.setTop (mkF m 37 #[.val (.int p0)] [])) := by
    refine own_go (S' := (s₁.setTop (mkF m 41 #[.val (.int p0)] [(.int (215 : Int32)), (.int p0)]))) (fun _ kont => XS.iloadN X0.here hx rfl (hb hby d1_37) rfl (XS.sipush X0.here hx rfl (hb hby d1_38) kont)) ?_
    by_cases b41_17 : p0 = (215 : Int32)
    · refine own_go (S' := (s₁.setTop (mkF m 170 #[.val (.int p0)] []))) (fun _ kont => XS.icmpYes X0.here hx rfl (pc0 := 41) (pc' := 170) rfl (hb hby d1_41) rfl (teq b41_17).1 (by decide) (by decide) kont) ?_
      rw [show own_gap_37 p0 = own_gap_170 p0 from by unfold own_gap_37; rw [if_pos b41_17]]
      exact K170
    · refine own_go (S' := (s₁.setTop (mkF m 48 #[.val (.int p0)] [(.int (247 : Int32)), (.int p0)]))) (fun _ kont => XS.icmpNo X0.here hx rfl (hb hby d1_41) rfl (feq b41_17).1 (XS.iloadN X0.here hx rfl (hb hby d1_44) rfl (XS.sipush X0.here hx rfl (hb hby d1_45) kont))) ?_
      by_cases b48_18 : p0 = (247 : Int32)
      · refine own_go (S' := (s₁.setTop (mkF m 170 #[.val (.int p0)] []))) (fun _ kont => XS.icmpYes X0.here hx rfl (pc0 := 48) (pc' := 170) rfl (hb hby d1_48) rfl (teq b48_18).1 (by decide) (by decide) kont) ?_
        rw [show own_gap_37 p0 = own_gap_170 p0 from by unfold own_gap_37; rw [if_neg b41_17, if_pos b48_18]]
        exact K170
      · refine own_go (S' := (s₁.setTop (mkF m 55 #[.val (.int p0)] [(.int (768 : Int32)), (.int p0)]))) (fun _ kont => XS.icmpNo X0.here hx rfl (hb hby d1_48) rfl (feq b48_18).1 (XS.iloadN X0.here hx rfl (hb hby d1_51) rfl (XS.sipush X0.here hx rfl (hb hby d1_52) kont))) ?_
        by_cases b55_19 : p0 < (768 : Int32)
        · refine own_go (S' := (s₁.setTop (mkF m 65 #[.val (.int p0)] []))) (fun _ kont => XS.icmpYes X0.here hx rfl (pc0 := 55) (pc' := 65) rfl (hb hby d1_55) rfl (tlt b55_19).1 (by decide) (by decide) kont) ?_
          rw [show own_gap_37 p0 = own_gap_65 p0 from by unfold own_gap_37; rw [if_neg b41_17, if_neg b48_18, if_pos b55_19]]
          exact K65
        · refine own_go (S' := (s₁.setTop (mkF m 62 #[.val (.int p0)] [(.int (879 : Int32)), (.int p0)]))) (fun _ kont => XS.icmpNo X0.here hx rfl (hb hby d1_55) rfl (flt b55_19).1 (XS.iloadN X0.here hx rfl (hb hby d1_58) rfl (XS.sipush X0.here hx rfl (hb hby d1_59) kont))) ?_
          by_cases b62_20 : (879 : Int32) < p0
          · refine own_go (S' := (s₁.setTop (mkF m 65 #[.val (.int p0)] []))) (fun _ kont => XS.icmpNo X0.here hx rfl (hb hby d1_62) rfl (tlt b62_20).2.2.2 kont) ?_
            rw [show own_gap_37 p0 = own_gap_65 p0 from by unfold own_gap_37; rw [if_neg b41_17, if_neg b48_18, if_neg b55_19, if_pos b62_20]]
            exact K65
          · refine own_go (S' := (s₁.setTop (mkF m 170 #[.val (.int p0)] []))) (fun _ kont => XS.icmpYes X0.here hx rfl (pc0 := 62) (pc' := 170) rfl (hb hby d1_62) rfl (flt b62_20).2.2.2 (by decide) (by decide) kont) ?_
            rw [show own_gap_37 p0 = own_gap_170 p0 from by unfold own_gap_37; rw [if_neg b41_17, if_neg b48_18, if_neg b55_19, if_neg b62_20]]
            exact K170
  have K18 : own_Go p e below s (fun (v : Option Value) (h : Heap) (L : List Loc) => v = some (.int (own_gap_18 p0)) ∧ h = h0 ∧ L = []) ({ frames := 0, cells := 0, slots := 0, locals := 0 } : Room).cells ({ frames := 0, cells := 0, slots := 0, locals := 0 } : Room).slots (s₁.setTop (mkF m 18 #[.val (.int p0)] [])) := by
    refine own_go (S' := (s₁.setTop (mkF m 21 #[.val (.int p0)] [(.int (96 : Int32)), (.int p0)]))) (fun _ kont => XS.iloadN X0.here hx rfl (hb hby d1_18) rfl (XS.bipush X0.here hx rfl (hb hby d1_19) kont)) ?_
    by_cases b21_21 : p0 = (96 : Int32)
    · refine own_go (S' := (s₁.setTop (mkF m 170 #[.val (.int p0)] []))) (fun _ kont => XS.icmpYes X0.here hx rfl (pc0 := 21) (pc' := 170) rfl (hb hby d1_21) rfl (teq b21_21).1 (by decide) (by decide) kont) ?_
      rw [show own_gap_18 p0 = own_gap_170 p0 from by unfold own_gap_18; rw [if_pos b21_21]]
      exact K170
    · refine own_go (S' := (s₁.setTop (mkF m 27 #[.val (.int p0)] [(.int (123 : Int32)), (.int p0)]))) (fun _ kont => XS.icmpNo X0.here hx rfl (hb hby d1_21) rfl (feq b21_21).1 (XS.iloadN X0.here hx rfl (hb hby d1_24) rfl (XS.bipush X0.here hx rfl (hb hby d1_25) kont))) ?_
      by_cases b27_22 : p0 < (123 : Int32)
      · refine own_go (S' := (s₁.setTop (mkF m 37 #[.val (.int p0)] []))) (fun _ kont => XS.icmpYes X0.here hx rfl (pc0 := 27) (pc' := 37) rfl (hb hby d1_27) rfl (tlt b27_22).1 (by decide) (by decide) kont) ?_
        rw [show own_gap_18 p0 = own_gap_37 p0 from by unfold own_gap_18; rw [if_neg b21_21, if_pos b27_22]]
        exact K37
      · refine own_go (S' := (s₁.setTop (mkF m 34 #[.val (.int p0)] [(.int (191 : Int32)), (.int p0)]))) (fun _ kont => XS.icmpNo X0.here hx rfl (hb hby d1_27) rfl (flt b27_22).1 (XS.iloadN X0.here hx rfl (hb hby d1_30) rfl (XS.sipush X0.here hx rfl (hb hby d1_31) kont))) ?_
        by_cases b34_23 : (191 : Int32) < p0
        · refine own_go (S' := (s₁.setTop (mkF m 37 #[.val (.int p0)] []))) (fun _ kont => XS.icmpNo X0.here hx rfl (hb hby d1_34) rfl (tlt b34_23).2.2.2 kont) ?_
          rw [show own_gap_18 p0 = own_gap_37 p0 from by unfold own_gap_18; rw [if_neg b21_21, if_neg b27_22, if_pos b34_23]]
          exact K37
        · refine own_go (S' := (s₁.setTop (mkF m 170 #[.val (.int p0)] []))) (fun _ kont => XS.icmpYes X0.here hx rfl (pc0 := 34) (pc' := 170) rfl (hb hby d1_34) rfl (flt b34_23).2.2.2 (by decide) (by decide) kont) ?_
          rw [show own_gap_18 p0 = own_gap_170 p0 from by unfold own_gap_18; rw [if_neg b21_21, if_neg b27_22, if_neg b34_23]]
          exact K170
  show own_Go p e below s (fun (v : Option Value) (h : Heap) (L : List Loc) => v = some (.int (own_gap_0 p0)) ∧ h = h0 ∧ L = []) ({ frames := 0, cells := 0, slots := 0, locals := 0 } : Room).cells ({ frames := 0, cells := 0, slots := 0, locals := 0 } : Room).slots _
  refine own_go (S' := (s₁.setTop (mkF m 3 #[.val (.int p0)] [(.int (65 : Int32)), (.int p0)]))) (fun _ kont => XS.iloadN X0.here hx rfl (hb hby d1_0) rfl (XS.bipush X0.here hx rfl (hb hby d1_1) kont)) ?_
  by_cases b3_24 : p0 < (65 : Int32)
  · refine own_go (S' := (s₁.setTop (mkF m 170 #[.val (.int p0)] []))) (fun _ kont => XS.icmpYes X0.here hx rfl (pc0 := 3) (pc' := 170) rfl (hb hby d1_3) rfl (tlt b3_24).1 (by decide) (by decide) kont) ?_
    rw [show own_gap_0 p0 = own_gap_170 p0 from by unfold own_gap_0; rw [if_pos b3_24]]
    exact K170
  · refine own_go (S' := (s₁.setTop (mkF m 9 #[.val (.int p0)] [(.int (91 : Int32)), (.int p0)]))) (fun _ kont => XS.icmpNo X0.here hx rfl (hb hby d1_3) rfl (flt b3_24).1 (XS.iloadN X0.here hx rfl (hb hby d1_6) rfl (XS.bipush X0.here hx rfl (hb hby d1_7) kont))) ?_
    by_cases b9_25 : p0 < (91 : Int32)
    · refine own_go (S' := (s₁.setTop (mkF m 18 #[.val (.int p0)] []))) (fun _ kont => XS.icmpYes X0.here hx rfl (pc0 := 9) (pc' := 18) rfl (hb hby d1_9) rfl (tlt b9_25).1 (by decide) (by decide) kont) ?_
      rw [show own_gap_0 p0 = own_gap_18 p0 from by unfold own_gap_0; rw [if_neg b3_24, if_pos b9_25]]
      exact K18
    · refine own_go (S' := (s₁.setTop (mkF m 15 #[.val (.int p0)] [(.int (94 : Int32)), (.int p0)]))) (fun _ kont => XS.icmpNo X0.here hx rfl (hb hby d1_9) rfl (flt b9_25).1 (XS.iloadN X0.here hx rfl (hb hby d1_12) rfl (XS.bipush X0.here hx rfl (hb hby d1_13) kont))) ?_
      by_cases b15_26 : (94 : Int32) < p0
      · refine own_go (S' := (s₁.setTop (mkF m 18 #[.val (.int p0)] []))) (fun _ kont => XS.icmpNo X0.here hx rfl (hb hby d1_15) rfl (tlt b15_26).2.2.2 kont) ?_
        rw [show own_gap_0 p0 = own_gap_18 p0 from by unfold own_gap_0; rw [if_neg b3_24, if_neg b9_25, if_pos b15_26]]
        exact K18
      · refine own_go (S' := (s₁.setTop (mkF m 170 #[.val (.int p0)] []))) (fun _ kont => XS.icmpYes X0.here hx rfl (pc0 := 15) (pc' := 170) rfl (hb hby d1_15) rfl (flt b15_26).2.2.2 (by decide) (by decide) kont) ?_
        rw [show own_gap_0 p0 = own_gap_170 p0 from by unfold own_gap_0; rw [if_neg b3_24, if_neg b9_25, if_neg b15_26]]
        exact K170
theorem pn_174 : plainName "com/example/umform/umform/model/tree/Name" = true := by first | (simp [plainName, overriddenIn]; done) | decide +kernel
theorem ef_rm2 (m : MethodId) (x0 : Int32) : entryFrame m #[(.int x0)] 1 = mkF m 0 #[.val (.int x0)] [] := by first | (simp [entryFrame, mkF, argsToLocals, Value.category]; done) | rfl
def Q_rm2 (Z : State) (p0 : Int32) (h0 : Heap) (n0 : Nat) (v : Option Value) (h : Heap) (L : List Loc) : Prop := v = some (.int (own_nsc_0 p0)) ∧ h = h0 ∧ L = []
set_option maxRecDepth 65536 in
set_option maxHeartbeats 40000000 in
theorem rm2 (l : Launch) (Z : State) (a0 : Array Value) (hw : ∀ d ∈ tables_1, d.before a0 Z = true) (ws : List Jvm.Cond) (p0 : Int32) (h0 : Heap) (n0 : Nat) (Z0 : n0 ≤ h0.size)  :
    MetFree l (⟨"com/example/umform/umform/model/tree/Name", "isNameStartChar", "(I)Z"⟩ : MethodName) (head1 (Jvm.Cond.code (⟨"com/example/umform/umform/model/tree/Name", "isNameStartChar", "(I)Z"⟩ : MethodName) prog_102_method_12_code 1 (some .boolean) :: ws) ({ frames := 0, cells := 0, slots := 0, locals := 0 } : Room)) (fun a U => a = #[(.int p0)] ∧ Z.Warmed39 U.vm ∧ U.heap = h0) (fun _ _ _ _ _ => True) (fun _ U o U' => ∃ v L, o = .returned v ∧ Q_rm2 Z p0 h0 n0 v U'.heap L ∧ FrameEnd U o U' L ({ frames := 0, cells := 0, slots := 0, locals := 0 } : Room).cells ({ frames := 0, cells := 0, slots := 0, locals := 0 } : Room).slots) := by
  refine MetFree.of_bodySF (plainFor_of_name pn_174) hisR ?_
  intro p e s m args below meth c s₁ Bd hml0 hP hK
  obtain ⟨rfl, hZ, hh⟩ := hP
  have hx := Bd.exec
  have hby := Bd.bytes
  have hlk := Bd.notSynchronized
  have hml : c.maxLocals = 1 := hml0
  have hown : s.vm.findClass "com/example/umform/umform/model/tree/Name" = some m.cls := findClass_of_methodNamed Bd.named
  have hnm := (name_of_methodNamed Bd.named Bd.method).1
  have X0 : Stand p l e ({ frames := 0, cells := 0, slots := 0, locals := 0 } : Room) s m #[(.int p0)] below meth c s₁ [] 0 0 := Stand.of_body Bd
  have e0 : s₁.heap = h0 := by rw [← hh, Bd.state]; rfl
  have N0 := Fr.nil n0
  change own_Go p e below s (Q_rm2 Z p0 h0 n0) ({ frames := 0, cells := 0, slots := 0, locals := 0 } : Room).cells ({ frames := 0, cells := 0, slots := 0, locals := 0 } : Room).slots _
  refine own_go (S' := (s₁.setTop (mkF m 0 #[.val (.int p0)] []))) (fun _ kont => castTop (ef_rm2 m p0) kont) ?_
  have K195 : own_Go p e below s (fun (v : Option Value) (h : Heap) (L : List Loc) => v = some (.int (own_nsc_195 p0)) ∧ h = h0 ∧ L = []) ({ frames := 0, cells := 0, slots := 0, locals := 0 } : Room).cells ({ frames := 0, cells := 0, slots := 0, locals := 0 } : Room).slots (s₁.setTop (mkF m 195 #[.val (.int p0)] [])) := by
    refine own_go (S' := (s₁.setTop (mkF m 196 #[.val (.int p0)] [(.int (0 : Int32))]))) (fun _ kont => XS.iconst X0.here hx rfl (hb hby d2_195) kont) ?_
    refine own_retN (t := .boolean) X0 hx hlk (by simp) Bd.returns (hb hby d2_196) (by decide) (by decide) ?_
    exact ⟨rfl, e0, rfl⟩
  have K191 : own_Go p e below s (fun (v : Option Value) (h : Heap) (L : List Loc) => v = some (.int (own_nsc_191 p0)) ∧ h = h0 ∧ L = []) ({ frames := 0, cells := 0, slots := 0, locals := 0 } : Room).cells ({ frames := 0, cells := 0, slots := 0, locals := 0 } : Room).slots (s₁.setTop (mkF m 191 #[.val (.int p0)] [])) := by
    refine own_go (S' := (s₁.setTop (mkF m 196 #[.val (.int p0)] [(.int (1 : Int32))]))) (fun _ kont => XS.iconst X0.here hx rfl (hb hby d2_191) (XS.goto X0.here hx rfl (pc0 := 192) (pc' := 196) rfl (hb hby d2_192) (by decide) (by decide) kont)) ?_
    refine own_retN (t := .boolean) X0 hx hlk (by simp) Bd.returns (hb hby d2_196) (by decide) (by decide) ?_
    exact ⟨rfl, e0, rfl⟩
  have K179 : own_Go p e below s (fun (v : Option Value) (h : Heap) (L : List Loc) => v = some (.int (own_nsc_179 p0)) ∧ h = h0 ∧ L = []) ({ frames := 0, cells := 0, slots := 0, locals := 0 } : Room).cells ({ frames := 0, cells := 0, slots := 0, locals := 0 } : Room).slots (s₁.setTop (mkF m 179 #[.val (.int p0)] [])) := by
    refine own_go (S' := (s₁.setTop (mkF m 180 #[.val (.int p0)] [(.int p0)]))) (fun _ kont => XS.iloadN X0.here hx rfl (hb hby d2_179) rfl kont) ?_
    refine own_go (S' := (s₁.setTop (mkF m 182 #[.val (.int p0)] [(.int (65536 : Int32)), (.int p0)]))) (X0.ldcInt hx hown (mvT hZ (hw _ (List.mem_of_getElem? (i := 28) rfl))) (g := (mkF m 180 #[.val (.int p0)] [(.int p0)])) rfl (hb hby d2_180)) ?_
    by_cases b182_1 : p0 < (65536 : Int32)
    · refine own_go (S' := (s₁.setTop (mkF m 195 #[.val (.int p0)] []))) (fun _ kont => XS.icmpYes X0.here hx rfl (pc0 := 182) (pc' := 195) rfl (hb hby d2_182) rfl (tlt b182_1).1 (by decide) (by decide) kont) ?_
      rw [show own_nsc_179 p0 = own_nsc_195 p0 from by unfold own_nsc_179; rw [if_pos b182_1]]
      exact K195
    · refine own_go (S' := (s₁.setTop (mkF m 186 #[.val (.int p0)] [(.int p0)]))) (fun _ kont => XS.icmpNo X0.here hx rfl (hb hby d2_182) rfl (flt b182_1).1 (XS.iloadN X0.here hx rfl (hb hby d2_185) rfl kont)) ?_
      refine own_go (S' := (s₁.setTop (mkF m 188 #[.val (.int p0)] [(.int (983039 : Int32)), (.int p0)]))) (X0.ldcInt hx hown (mvT hZ (hw _ (List.mem_of_getElem? (i := 29) rfl))) (g := (mkF m 186 #[.val (.int p0)] [(.int p0)])) rfl (hb hby d2_186)) ?_
      by_cases b188_2 : (983039 : Int32) < p0
      · refine own_go (S' := (s₁.setTop (mkF m 195 #[.val (.int p0)] []))) (fun _ kont => XS.icmpYes X0.here hx rfl (pc0 := 188) (pc' := 195) rfl (hb hby d2_188) rfl (tlt b188_2).2.2.1 (by decide) (by decide) kont) ?_
        rw [show own_nsc_179 p0 = own_nsc_195 p0 from by unfold own_nsc_179; rw [if_neg b182_1, if_pos b188_2]]
        exact K195
      · refine own_go (S' := (s₁.setTop (mkF m 191 #[.val (.int p0)] []))) (fun _ kont => XS.icmpNo X0.here hx rfl (hb hby d2_188) rfl (flt b188_2).2.2.1 kont) ?_
        rw [show own_nsc_179 p0 = own_nsc_191 p0 from by unfold own_nsc_179; rw [if_neg b182_1, if_neg b188_2]]
        exact K191
  have K167 : own_Go p e below s (fun (v : Option Value) (h : Heap) (L : List Loc) => v = some (.int (own_nsc_167 p0)) ∧ h = h0 ∧ L = []) ({ frames := 0, cells := 0, slots := 0, locals := 0 } : Room).cells ({ frames := 0, cells := 0, slots := 0, locals := 0 } : Room).slots (s₁.setTop (mkF m 167 #[.val (.int p0)] [])) := by
    refine own_go (S' := (s₁.setTop (mkF m 168 #[.val (.int p0)] [(.int p0)]))) (fun _ kont => XS.iloadN X0.here hx rfl (hb hby d2_167) rfl kont) ?_
    refine own_go (S' := (s₁.setTop (mkF m 170 #[.val (.int p0)] [(.int (65008 : Int32)), (.int p0)]))) (X0.ldcInt hx hown (mvT hZ (hw _ (List.mem_of_getElem? (i := 26) rfl))) (g := (mkF m 168 #[.val (.int p0)] [(.int p0)])) rfl (hb hby d2_168)) ?_
    by_cases b170_3 : p0 < (65008 : Int32)
    · refine own_go (S' := (s₁.setTop (mkF m 179 #[.val (.int p0)] []))) (fun _ kont => XS.icmpYes X0.here hx rfl (pc0 := 170) (pc' := 179) rfl (hb hby d2_170) rfl (tlt b170_3).1 (by decide) (by decide) kont) ?_
      rw [show own_nsc_167 p0 = own_nsc_179 p0 from by unfold own_nsc_167; rw [if_pos b170_3]]
      exact K179
    · refine own_go (S' := (s₁.setTop (mkF m 174 #[.val (.int p0)] [(.int p0)]))) (fun _ kont => XS.icmpNo X0.here hx rfl (hb hby d2_170) rfl (flt b170_3).1 (XS.iloadN X0.here hx rfl (hb hby d2_173) rfl kont)) ?_
      refine own_go (S' := (s₁.setTop (mkF m 176 #[.val (.int p0)] [(.int (65533 : Int32)), (.int p0)]))) (X0.ldcInt hx hown (mvT hZ (hw _ (List.mem_of_getElem? (i := 27) rfl))) (g := (mkF m 174 #[.val (.int p0)] [(.int p0)])) rfl (hb hby d2_174)) ?_
      by_cases b176_4 : (65533 : Int32) < p0
      · refine own_go (S' := (s₁.setTop (mkF m 179 #[.val (.int p0)] []))) (fun _ kont => XS.icmpNo X0.here hx rfl (hb hby d2_176) rfl (tlt b176_4).2.2.2 kont) ?_
        rw [show own_nsc_167 p0 = own_nsc_179 p0 from by unfold own_nsc_167; rw [if_neg b170_3, if_pos b176_4]]
        exact K179
      · refine own_go (S' := (s₁.setTop (mkF m 191 #[.val (.int p0)] []))) (fun _ kont => XS.icmpYes X0.here hx rfl (pc0 := 176) (pc' := 191) rfl (hb hby d2_176) rfl (flt b176_4).2.2.2 (by decide) (by decide) kont) ?_
        rw [show own_nsc_167 p0 = own_nsc_191 p0 from by unfold own_nsc_167; rw [if_neg b170_3, if_neg b176_4]]
        exact K191
  have K155 : own_Go p e below s (fun (v : Option Value) (h : Heap) (L : List Loc) => v = some (.int (own_nsc_155 p0)) ∧ h = h0 ∧ L = []) ({ frames := 0, cells := 0, slots := 0, locals := 0 } : Room).cells ({ frames := 0, cells := 0, slots := 0, locals := 0 } : Room).slots (s₁.setTop (mkF m 155 #[.val (.int p0)] [])) := by
    refine own_go (S' := (s₁.setTop (mkF m 156 #[.val (.int p0)] [(.int p0)]))) (fun _ kont => XS.iloadN X0.here hx rfl (hb hby d2_155) rfl kont) ?_
    refine own_go (S' := (s₁.setTop (mkF m 158 #[.val (.int p0)] [(.int (63744 : Int32)), (.int p0)]))) (X0.ldcInt hx hown (mvT hZ (hw _ (List.mem_of_getElem? (i := 24) rfl))) (g := (mkF m 156 #[.val (.int p0)] [(.int p0)])) rfl (hb hby d2_156)) ?_
    by_cases b158_5 : p0 < (63744 : Int32)
    · refine own_go (S' := (s₁.setTop (mkF m 167 #[.val (.int p0)] []))) (fun _ kont => XS.icmpYes X0.here hx rfl (pc0 := 158) (pc' := 167) rfl (hb hby d2_158) rfl (tlt b158_5).1 (by decide) (by decide) kont) ?_
      rw [show own_nsc_155 p0 = own_nsc_167 p0 from by unfold own_nsc_155; rw [if_pos b158_5]]
      exact K167
    · refine own_go (S' := (s₁.setTop (mkF m 162 #[.val (.int p0)] [(.int p0)]))) (fun _ kont => XS.icmpNo X0.here hx rfl (hb hby d2_158) rfl (flt b158_5).1 (XS.iloadN X0.here hx rfl (hb hby d2_161) rfl kont)) ?_
      refine own_go (S' := (s₁.setTop (mkF m 164 #[.val (.int p0)] [(.int (64975 : Int32)), (.int p0)]))) (X0.ldcInt hx hown (mvT hZ (hw _ (List.mem_of_getElem? (i := 25) rfl))) (g := (mkF m 162 #[.val (.int p0)] [(.int p0)])) rfl (hb hby d2_162)) ?_
      by_cases b164_6 : (64975 : Int32) < p0
      · refine own_go (S' := (s₁.setTop (mkF m 167 #[.val (.int p0)] []))) (fun _ kont => XS.icmpNo X0.here hx rfl (hb hby d2_164) rfl (tlt b164_6).2.2.2 kont) ?_
        rw [show own_nsc_155 p0 = own_nsc_167 p0 from by unfold own_nsc_155; rw [if_neg b158_5, if_pos b164_6]]
        exact K167
      · refine own_go (S' := (s₁.setTop (mkF m 191 #[.val (.int p0)] []))) (fun _ kont => XS.icmpYes X0.here hx rfl (pc0 := 164) (pc' := 191) rfl (hb hby d2_164) rfl (flt b164_6).2.2.2 (by decide) (by decide) kont) ?_
        rw [show own_nsc_155 p0 = own_nsc_191 p0 from by unfold own_nsc_155; rw [if_neg b158_5, if_neg b164_6]]
        exact K191
  have K142 : own_Go p e below s (fun (v : Option Value) (h : Heap) (L : List Loc) => v = some (.int (own_nsc_142 p0)) ∧ h = h0 ∧ L = []) ({ frames := 0, cells := 0, slots := 0, locals := 0 } : Room).cells ({ frames := 0, cells := 0, slots := 0, locals := 0 } : Room).slots (s₁.setTop (mkF m 142 #[.val (.int p0)] [])) := by
    refine own_go (S' := (s₁.setTop (mkF m 146 #[.val (.int p0)] [(.int (12289 : Int32)), (.int p0)]))) (fun _ kont => XS.iloadN X0.here hx rfl (hb hby d2_142) rfl (XS.sipush X0.here hx rfl (hb hby d2_143) kont)) ?_
    by_cases b146_7 : p0 < (12289 : Int32)
    · refine own_go (S' := (s₁.setTop (mkF m 155 #[.val (.int p0)] []))) (fun _ kont => XS.icmpYes X0.here hx rfl (pc0 := 146) (pc' := 155) rfl (hb hby d2_146) rfl (tlt b146_7).1 (by decide) (by decide) kont) ?_
      rw [show own_nsc_142 p0 = own_nsc_155 p0 from by unfold own_nsc_142; rw [if_pos b146_7]]
      exact K155
    · refine own_go (S' := (s₁.setTop (mkF m 150 #[.val (.int p0)] [(.int p0)]))) (fun _ kont => XS.icmpNo X0.here hx rfl (hb hby d2_146) rfl (flt b146_7).1 (XS.iloadN X0.here hx rfl (hb hby d2_149) rfl kont)) ?_
      refine own_go (S' := (s₁.setTop (mkF m 152 #[.val (.int p0)] [(.int (55295 : Int32)), (.int p0)]))) (X0.ldcInt hx hown (mvT hZ (hw _ (List.mem_of_getElem? (i := 23) rfl))) (g := (mkF m 150 #[.val (.int p0)] [(.int p0)])) rfl (hb hby d2_150)) ?_
      by_cases b152_8 : (55295 : Int32) < p0
      · refine own_go (S' := (s₁.setTop (mkF m 155 #[.val (.int p0)] []))) (fun _ kont => XS.icmpNo X0.here hx rfl (hb hby d2_152) rfl (tlt b152_8).2.2.2 kont) ?_
        rw [show own_nsc_142 p0 = own_nsc_155 p0 from by unfold own_nsc_142; rw [if_neg b146_7, if_pos b152_8]]
        exact K155
      · refine own_go (S' := (s₁.setTop (mkF m 191 #[.val (.int p0)] []))) (fun _ kont => XS.icmpYes X0.here hx rfl (pc0 := 152) (pc' := 191) rfl (hb hby d2_152) rfl (flt b152_8).2.2.2 (by decide) (by decide) kont) ?_
        rw [show own_nsc_142 p0 = own_nsc_191 p0 from by unfold own_nsc_142; rw [if_neg b146_7, if_neg b152_8]]
        exact K191
  have K128 : own_Go p e below s (fun (v : Option Value) (h : Heap) (L : List Loc) => v = some (.int (own_nsc_128 p0)) ∧ h = h0 ∧ L = []) ({ frames := 0, cells := 0, slots := 0, locals := 0 } : Room).cells ({ frames := 0, cells := 0, slots := 0, locals := 0 } : Room).slots (s₁.setTop (mkF m 128 #[.val (.int p0)] [])) := by
    refine own_go (S' := (s₁.setTop (mkF m 132 #[.val (.int p0)] [(.int (11264 : Int32)), (.int p0)]))) (fun _ kont => XS.iloadN X0.here hx rfl (hb hby d2_128) rfl (XS.sipush X0.here hx rfl (hb hby d2_129) kont)) ?_
    by_cases b132_9 : p0 < (11264 : Int32)
    · refine own_go (S' := (s₁.setTop (mkF m 142 #[.val (.int p0)] []))) (fun _ kont => XS.icmpYes X0.here hx rfl (pc0 := 132) (pc' := 142) rfl (hb hby d2_132) rfl (tlt b132_9).1 (by decide) (by decide) kont) ?_
      rw [show own_nsc_128 p0 = own_nsc_142 p0 from by unfold own_nsc_128; rw [if_pos b132_9]]
      exact K142
    · refine own_go (S' := (s₁.setTop (mkF m 139 #[.val (.int p0)] [(.int (12271 : Int32)), (.int p0)]))) (fun _ kont => XS.icmpNo X0.here hx rfl (hb hby d2_132) rfl (flt b132_9).1 (XS.iloadN X0.here hx rfl (hb hby d2_135) rfl (XS.sipush X0.here hx rfl (hb hby d2_136) kont))) ?_
      by_cases b139_10 : (12271 : Int32) < p0
      · refine own_go (S' := (s₁.setTop (mkF m 142 #[.val (.int p0)] []))) (fun _ kont => XS.icmpNo X0.here hx rfl (hb hby d2_139) rfl (tlt b139_10).2.2.2 kont) ?_
        rw [show own_nsc_128 p0 = own_nsc_142 p0 from by unfold own_nsc_128; rw [if_neg b132_9, if_pos b139_10]]
        exact K142
      · refine own_go (S' := (s₁.setTop (mkF m 191 #[.val (.int p0)] []))) (fun _ kont => XS.icmpYes X0.here hx rfl (pc0 := 139) (pc' := 191) rfl (hb hby d2_139) rfl (flt b139_10).2.2.2 (by decide) (by decide) kont) ?_
        rw [show own_nsc_128 p0 = own_nsc_191 p0 from by unfold own_nsc_128; rw [if_neg b132_9, if_neg b139_10]]
        exact K191
  have K114 : own_Go p e below s (fun (v : Option Value) (h : Heap) (L : List Loc) => v = some (.int (own_nsc_114 p0)) ∧ h = h0 ∧ L = []) ({ frames := 0, cells := 0, slots := 0, locals := 0 } : Room).cells ({ frames := 0, cells := 0, slots := 0, locals := 0 } : Room).slots (s₁.setTop (mkF m 114 #[.val (.int p0)] [])) := by
    refine own_go (S' := (s₁.setTop (mkF m 118 #[.val (.int p0)] [(.int (8304 : Int32)), (.int p0)]))) (fun _ kont => XS.iloadN X0.here hx rfl (hb hby d2_114) rfl (XS.sipush X0.here hx rfl (hb hby d2_115) kont)) ?_
    by_cases b118_11 : p0 < (8304 : Int32)
    · refine own_go (S' := (s₁.setTop (mkF m 128 #[.val (.int p0)] []))) (fun _ kont => XS.icmpYes X0.here hx rfl (pc0 := 118) (pc' := 128) rfl (hb hby d2_118) rfl (tlt b118_11).1 (by decide) (by decide) kont) ?_
      rw [show own_nsc_114 p0 = own_nsc_128 p0 from by unfold own_nsc_114; rw [if_pos b118_11]]
      exact K128
    · refine own_go (S' := (s₁.setTop (mkF m 125 #[.val (.int p0)] [(.int (8591 : Int32)), (.int p0)]))) (fun _ kont => XS.icmpNo X0.here hx rfl (hb hby d2_118) rfl (flt b118_11).1 (XS.iloadN X0.here hx rfl (hb hby d2_121) rfl (XS.sipush X0.here hx rfl (hb hby d2_122) kont))) ?_
      by_cases b125_12 : (8591 : Int32) < p0
      · refine own_go (S' := (s₁.setTop (mkF m 128 #[.val (.int p0)] []))) (fun _ kont => XS.icmpNo X0.here hx rfl (hb hby d2_125) rfl (tlt b125_12).2.2.2 kont) ?_
        rw [show own_nsc_114 p0 = own_nsc_128 p0 from by unfold own_nsc_114; rw [if_neg b118_11, if_pos b125_12]]
        exact K128
      · refine own_go (S' := (s₁.setTop (mkF m 191 #[.val (.int p0)] []))) (fun _ kont => XS.icmpYes X0.here hx rfl (pc0 := 125) (pc' := 191) rfl (hb hby d2_125) rfl (flt b125_12).2.2.2 (by decide) (by decide) kont) ?_
        rw [show own_nsc_114 p0 = own_nsc_191 p0 from by unfold own_nsc_114; rw [if_neg b118_11, if_neg b125_12]]
        exact K191
  have K100 : own_Go p e below s (fun (v : Option Value) (h : Heap) (L : List Loc) => v = some (.int (own_nsc_100 p0)) ∧ h = h0 ∧ L = []) ({ frames := 0, cells := 0, slots := 0, locals := 0 } : Room).cells ({ frames := 0, cells := 0, slots := 0, locals := 0 } : Room).slots (s₁.setTop (mkF m 100 #[.val (.int p0)] [])) := by
    refine own_go (S' := (s₁.setTop (mkF m 104 #[.val (.int p0)] [(.int (8204 : Int32)), (.int p0)]))) (fun _ kont => XS.iloadN X0.here hx rfl (hb hby d2_100) rfl (XS.sipush X0.here hx rfl (hb hby d2_101) kont)) ?_
    by_cases b104_13 : p0 < (8204 : Int32)
    · refine own_go (S' := (s₁.setTop (mkF m 114 #[.val (.int p0)] []))) (fun _ kont => XS.icmpYes X0.here hx rfl (pc0 := 104) (pc' := 114) rfl (hb hby d2_104) rfl (tlt b104_13).1 (by decide) (by decide) kont) ?_
      rw [show own_nsc_100 p0 = own_nsc_114 p0 from by unfold own_nsc_100; rw [if_pos b104_13]]
      exact K114
    · refine own_go (S' := (s₁.setTop (mkF m 111 #[.val (.int p0)] [(.int (8205 : Int32)), (.int p0)]))) (fun _ kont => XS.icmpNo X0.here hx rfl (hb hby d2_104) rfl (flt b104_13).1 (XS.iloadN X0.here hx rfl (hb hby d2_107) rfl (XS.sipush X0.here hx rfl (hb hby d2_108) kont))) ?_
      by_cases b111_14 : (8205 : Int32) < p0
      · refine own_go (S' := (s₁.setTop (mkF m 114 #[.val (.int p0)] []))) (fun _ kont => XS.icmpNo X0.here hx rfl (hb hby d2_111) rfl (tlt b111_14).2.2.2 kont) ?_
        rw [show own_nsc_100 p0 = own_nsc_114 p0 from by unfold own_nsc_100; rw [if_neg b104_13, if_pos b111_14]]
        exact K114
      · refine own_go (S' := (s₁.setTop (mkF m 191 #[.val (.int p0)] []))) (fun _ kont => XS.icmpYes X0.here hx rfl (pc0 := 111) (pc' := 191) rfl (hb hby d2_111) rfl (flt b111_14).2.2.2 (by decide) (by decide) kont) ?_
        rw [show own_nsc_100 p0 = own_nsc_191 p0 from by unfold own_nsc_100; rw [if_neg b104_13, if_neg b111_14]]
        exact K191
  have K86 : own_Go p e below s (fun (v : Option Value) (h : Heap) (L : List Loc) => v = some (.int (own_nsc_86 p0)) ∧ h = h0 ∧ L = []) ({ frames := 0, cells := 0, slots := 0, locals := 0 } : Room).cells ({ frames := 0, cells := 0, slots := 0, locals := 0 } : Room).slots (s₁.setTop (mkF m 86 #[.val (.int p0)] [])) := by
    refine own_go (S' := (s₁.setTop (mkF m 90 #[.val (.int p0)] [(.int (895 : Int32)), (.int p0)]))) (fun _ kont => XS.iloadN X0.here hx rfl (hb hby d2_86) rfl (XS.sipush X0.here hx rfl (hb hby d2_87) kont)) ?_
    by_cases b90_15 : p0 < (895 : Int32)
    · refine own_go (S' := (s₁.setTop (mkF m 100 #[.val (.int p0)] []))) (fun _ kont => XS.icmpYes X0.here hx rfl (pc0 := 90) (pc' := 100) rfl (hb hby d2_90) rfl (tlt b90_15).1 (by decide) (by decide) kont) ?_
      rw [show own_nsc_86 p0 = own_nsc_100 p0 from by unfold own_nsc_86; rw [if_pos b90_15]]
      exact K100
    · refine own_go (S' := (s₁.setTop (mkF m 97 #[.val (.int p0)] [(.int (8191 : Int32)), (.int p0)]))) (fun _ kont => XS.icmpNo X0.here hx rfl (hb hby d2_90) rfl (flt b90_15).1 (XS.iloadN X0.here hx rfl (hb hby d2_93) rfl (XS.sipush X0.here hx rfl (hb hby d2_94) kont))) ?_
      by_cases b97_16 : (8191 : Int32) < p0
      · refine own_go (S' := (s₁.setTop (mkF m 100 #[.val (.int p0)] []))) (fun _ kont => XS.icmpNo X0.here hx rfl (hb hby d2_97) rfl (tlt b97_16).2.2.2 kont) ?_
        rw [show own_nsc_86 p0 = own_nsc_100 p0 from by unfold own_nsc_86; rw [if_neg b90_15, if_pos b97_16]]
        exact K100
      · refine own_go (S' := (s₁.setTop (mkF m 191 #[.val (.int p0)] []))) (fun _ kont => XS.icmpYes X0.here hx rfl (pc0 := 97) (pc' := 191) rfl (hb hby d2_97) rfl (flt b97_16).2.2.2 (by decide) (by decide) kont) ?_
        rw [show own_nsc_86 p0 = own_nsc_191 p0 from by unfold own_nsc_86; rw [if_neg b90_15, if_neg b97_16]]
        exact K191
  have K72 : own_Go p e below s (fun (v : Option Value) (h : Heap) (L : List Loc) => v = some (.int (own_nsc_72 p0)) ∧ h = h0 ∧ L = []) ({ frames := 0, cells := 0, slots := 0, locals := 0 } : Room).cells ({ frames := 0, cells := 0, slots := 0, locals := 0 } : Room).slots (s₁.setTop (mkF m 72 #[.val (.int p0)] [])) := by
    refine own_go (S' := (s₁.setTop (mkF m 76 #[.val (.int p0)] [(.int (880 : Int32)), (.int p0)]))) (fun _ kont => XS.iloadN X0.here hx rfl (hb hby d2_72) rfl (XS.sipush X0.here hx rfl (hb hby d2_73) kont)) ?_
    by_cases b76_17 : p0 < (880 : Int32)
    · refine own_go (S' := (s₁.setTop (mkF m 86 #[.val (.int p0)] []))) (fun _ kont => XS.icmpYes X0.here hx rfl (pc0 := 76) (pc' := 86) rfl (hb hby d2_76) rfl (tlt b76_17).1 (by decide) (by decide) kont) ?_
      rw [show own_nsc_72 p0 = own_nsc_86 p0 from by unfold own_nsc_72; rw [if_pos b76_17]]
      exact K86
    · refine own_go (S' := (s₁.setTop (mkF m 83 #[.val (.int p0)] [(.int (893 : Int32)), (.int p0)]))) (fun _ kont => XS.icmpNo X0.here hx rfl (hb hby d2_76) rfl (flt b76_17).1 (XS.iloadN X0.here hx rfl (hb hby d2_79) rfl (XS.sipush X0.here hx rfl (hb hby d2_80) kont))) ?_
      by_cases b83_18 : (893 : Int32) < p0
      · refine own_go (S' := (s₁.setTop (mkF m 86 #[.val (.int p0)] []))) (fun _ kont => XS.icmpNo X0.here hx rfl (hb hby d2_83) rfl (tlt b83_18).2.2.2 kont) ?_
        rw [show own_nsc_72 p0 = own_nsc_86 p0 from by unfold own_nsc_72; rw [if_neg b76_17, if_pos b83_18]]
        exact K86
      · refine own_go (S' := (s₁.setTop (mkF m 191 #[.val (.int p0)] []))) (fun _ kont => XS.icmpYes X0.here hx rfl (pc0 := 83) (pc' := 191) rfl (hb hby d2_83) rfl (flt b83_18).2.2.2 (by decide) (by decide) kont) ?_
        rw [show own_nsc_72 p0 = own_nsc_191 p0 from by unfold own_nsc_72; rw [if_neg b76_17, if_neg b83_18]]
        exact K191
  have K58 : own_Go p e below s (fun (v : Option Value) (h : Heap) (L : List Loc) => v = some (.int (own_nsc_58 p0)) ∧ h = h0 ∧ L = []) ({ frames := 0, cells := 0, slots := 0, locals := 0 } : Room).cells ({ frames := 0, cells := 0, slots := 0, locals := 0 } : Room).slots (s₁.setTop (mkF m 58 #[.val (.int p0)] [])) := by
    refine own_go (S' := (s₁.setTop (mkF m 62 #[.val (.int p0)] [(.int (248 : Int32)), (.int p0)]))) (fun _ kont => XS.iloadN X0.here hx rfl (hb hby d2_58) rfl (XS.sipush X0.here hx rfl (hb hby d2_59) kont)) ?_
    by_cases b62_19 : p0 < (248 : Int32)
    · refine own_go (S' := (s₁.setTop (mkF m 72 #[.val (.int p0)] []))) (fun _ kont => XS.icmpYes X0.here hx rfl (pc0 := 62) (pc' := 72) rfl (hb hby d2_62) rfl (tlt b62_19).1 (by decide) (by decide) kont) ?_
      rw [show own_nsc_58 p0 = own_nsc_72 p0 from by unfold own_nsc_58; rw [if_pos b62_19]]
      exact K72
    · refine own_go (S' := (s₁.setTop (mkF m 69 #[.val (.int p0)] [(.int (767 : Int32)), (.int p0)]))) (fun _ kont => XS.icmpNo X0.here hx rfl (hb hby d2_62) rfl (flt b62_19).1 (XS.iloadN X0.here hx rfl (hb hby d2_65) rfl (XS.sipush X0.here hx rfl (hb hby d2_66) kont))) ?_
      by_cases b69_20 : (767 : Int32) < p0
      · refine own_go (S' := (s₁.setTop (mkF m 72 #[.val (.int p0)] []))) (fun _ kont => XS.icmpNo X0.here hx rfl (hb hby d2_69) rfl (tlt b69_20).2.2.2 kont) ?_
        rw [show own_nsc_58 p0 = own_nsc_72 p0 from by unfold own_nsc_58; rw [if_neg b62_19, if_pos b69_20]]
        exact K72
      · refine own_go (S' := (s₁.setTop (mkF m 191 #[.val (.int p0)] []))) (fun _ kont => XS.icmpYes X0.here hx rfl (pc0 := 69) (pc' := 191) rfl (hb hby d2_69) rfl (flt b69_20).2.2.2 (by decide) (by decide) kont) ?_
        rw [show own_nsc_58 p0 = own_nsc_191 p0 from by unfold own_nsc_58; rw [if_neg b62_19, if_neg b69_20]]
        exact K191
  have K44 : own_Go p e below s (fun (v : Option Value) (h : Heap) (L : List Loc) => v = some (.int (own_nsc_44 p0)) ∧ h = h0 ∧ L = []) ({ frames := 0, cells := 0, slots := 0, locals := 0 } : Room).cells ({ frames := 0, cells := 0, slots := 0, locals := 0 } : Room).slots (s₁.setTop (mkF m 44 #[.val (.int p0)] [])) := by
    refine own_go (S' := (s₁.setTop (mkF m 48 #[.val (.int p0)] [(.int (216 : Int32)), (.int p0)]))) (fun _ kont => XS.iloadN X0.here hx rfl (hb hby d2_44) rfl (XS.sipush X0.here hx rfl (hb hby d2_45) kont)) ?_
    by_cases b48_21 : p0 < (216 : Int32)
    · refine own_go (S' := (s₁.setTop (mkF m 58 #[.val (.int p0)] []))) (fun _ kont => XS.icmpYes X0.here hx rfl (pc0 := 48) (pc' := 58) rfl (hb hby d2_48) rfl (tlt b48_21).1 (by decide) (by decide) kont) ?_
      rw [show own_nsc_44 p0 = own_nsc_58 p0 from by unfold own_nsc_44; rw [if_pos b48_21]]
      exact K58
    · refine own_go (S' := (s₁.setTop (mkF m 55 #[.val (.int p0)] [(.int (246 : Int32)), (.int p0)]))) (fun _ kont => XS.icmpNo X0.here hx rfl (hb hby d2_48) rfl (flt b48_21).1 (XS.iloadN X0.here hx rfl (hb hby d2_51) rfl (XS.sipush X0.here hx rfl (hb hby d2_52) kont))) ?_
      by_cases b55_22 : (246 : Int32) < p0
      · refine own_go (S' := (s₁.setTop (mkF m 58 #[.val (.int p0)] []))) (fun _ kont => XS.icmpNo X0.here hx rfl (hb hby d2_55) rfl (tlt b55_22).2.2.2 kont) ?_
        rw [show own_nsc_44 p0 = own_nsc_58 p0 from by unfold own_nsc_44; rw [if_neg b48_21, if_pos b55_22]]
        exact K58
      · refine own_go (S' := (s₁.setTop (mkF m 191 #[.val (.int p0)] []))) (fun _ kont => XS.icmpYes X0.here hx rfl (pc0 := 55) (pc' := 191) rfl (hb hby d2_55) rfl (flt b55_22).2.2.2 (by decide) (by decide) kont) ?_
        rw [show own_nsc_44 p0 = own_nsc_191 p0 from by unfold own_nsc_44; rw [if_neg b48_21, if_neg b55_22]]
        exact K191
  have K24 : own_Go p e below s (fun (v : Option Value) (h : Heap) (L : List Loc) => v = some (.int (own_nsc_24 p0)) ∧ h = h0 ∧ L = []) ({ frames := 0, cells := 0, slots := 0, locals := 0 } : Room).cells ({ frames := 0, cells := 0, slots := 0, locals := 0 } : Room).slots (s₁.setTop (mkF m 24 #[.val (.int p0)] [])) := by
    refine own_go (S' := (s₁.setTop (mkF m 27 #[.val (.int p0)] [(.int (95 : Int32)), (.int p0)]))) (fun _ kont => XS.iloadN X0.here hx rfl (hb hby d2_24) rfl (XS.bipush X0.here hx rfl (hb hby d2_25) kont)) ?_
    by_cases b27_23 : p0 = (95 : Int32)
    · refine own_go (S' := (s₁.setTop (mkF m 191 #[.val (.int p0)] []))) (fun _ kont => XS.icmpYes X0.here hx rfl (pc0 := 27) (pc' := 191) rfl (hb hby d2_27) rfl (teq b27_23).1 (by decide) (by decide) kont) ?_
      rw [show own_nsc_24 p0 = own_nsc_191 p0 from by unfold own_nsc_24; rw [if_pos b27_23]]
      exact K191
    · refine own_go (S' := (s₁.setTop (mkF m 34 #[.val (.int p0)] [(.int (192 : Int32)), (.int p0)]))) (fun _ kont => XS.icmpNo X0.here hx rfl (hb hby d2_27) rfl (feq b27_23).1 (XS.iloadN X0.here hx rfl (hb hby d2_30) rfl (XS.sipush X0.here hx rfl (hb hby d2_31) kont))) ?_
      by_cases b34_24 : p0 < (192 : Int32)
      · refine own_go (S' := (s₁.setTop (mkF m 44 #[.val (.int p0)] []))) (fun _ kont => XS.icmpYes X0.here hx rfl (pc0 := 34) (pc' := 44) rfl (hb hby d2_34) rfl (tlt b34_24).1 (by decide) (by decide) kont) ?_
        rw [show own_nsc_24 p0 = own_nsc_44 p0 from by unfold own_nsc_24; rw [if_neg b27_23, if_pos b34_24]]
        exact K44
      · refine own_go (S' := (s₁.setTop (mkF m 41 #[.val (.int p0)] [(.int (214 : Int32)), (.int p0)]))) (fun _ kont => XS.icmpNo X0.here hx rfl (hb hby d2_34) rfl (flt b34_24).1 (XS.iloadN X0.here hx rfl (hb hby d2_37) rfl (XS.sipush X0.here hx rfl (hb hby d2_38) kont))) ?_
        by_cases b41_25 : (214 : Int32) < p0
        · refine own_go (S' := (s₁.setTop (mkF m 44 #[.val (.int p0)] []))) (fun _ kont => XS.icmpNo X0.here hx rfl (hb hby d2_41) rfl (tlt b41_25).2.2.2 kont) ?_
          rw [show own_nsc_24 p0 = own_nsc_44 p0 from by unfold own_nsc_24; rw [if_neg b27_23, if_neg b34_24, if_pos b41_25]]
          exact K44
        · refine own_go (S' := (s₁.setTop (mkF m 191 #[.val (.int p0)] []))) (fun _ kont => XS.icmpYes X0.here hx rfl (pc0 := 41) (pc' := 191) rfl (hb hby d2_41) rfl (flt b41_25).2.2.2 (by decide) (by decide) kont) ?_
          rw [show own_nsc_24 p0 = own_nsc_191 p0 from by unfold own_nsc_24; rw [if_neg b27_23, if_neg b34_24, if_neg b41_25]]
          exact K191
  have K12 : own_Go p e below s (fun (v : Option Value) (h : Heap) (L : List Loc) => v = some (.int (own_nsc_12 p0)) ∧ h = h0 ∧ L = []) ({ frames := 0, cells := 0, slots := 0, locals := 0 } : Room).cells ({ frames := 0, cells := 0, slots := 0, locals := 0 } : Room).slots (s₁.setTop (mkF m 12 #[.val (.int p0)] [])) := by
    refine own_go (S' := (s₁.setTop (mkF m 15 #[.val (.int p0)] [(.int (65 : Int32)), (.int p0)]))) (fun _ kont => XS.iloadN X0.here hx rfl (hb hby d2_12) rfl (XS.bipush X0.here hx rfl (hb hby d2_13) kont)) ?_
    by_cases b15_26 : p0 < (65 : Int32)
    · refine own_go (S' := (s₁.setTop (mkF m 24 #[.val (.int p0)] []))) (fun _ kont => XS.icmpYes X0.here hx rfl (pc0 := 15) (pc' := 24) rfl (hb hby d2_15) rfl (tlt b15_26).1 (by decide) (by decide) kont) ?_
      rw [show own_nsc_12 p0 = own_nsc_24 p0 from by unfold own_nsc_12; rw [if_pos b15_26]]
      exact K24
    · refine own_go (S' := (s₁.setTop (mkF m 21 #[.val (.int p0)] [(.int (90 : Int32)), (.int p0)]))) (fun _ kont => XS.icmpNo X0.here hx rfl (hb hby d2_15) rfl (flt b15_26).1 (XS.iloadN X0.here hx rfl (hb hby d2_18) rfl (XS.bipush X0.here hx rfl (hb hby d2_19) kont))) ?_
      by_cases b21_27 : (90 : Int32) < p0
      · refine own_go (S' := (s₁.setTop (mkF m 24 #[.val (.int p0)] []))) (fun _ kont => XS.icmpNo X0.here hx rfl (hb hby d2_21) rfl (tlt b21_27).2.2.2 kont) ?_
        rw [show own_nsc_12 p0 = own_nsc_24 p0 from by unfold own_nsc_12; rw [if_neg b15_26, if_pos b21_27]]
        exact K24
      · refine own_go (S' := (s₁.setTop (mkF m 191 #[.val (.int p0)] []))) (fun _ kont => XS.icmpYes X0.here hx rfl (pc0 := 21) (pc' := 191) rfl (hb hby d2_21) rfl (flt b21_27).2.2.2 (by decide) (by decide) kont) ?_
        rw [show own_nsc_12 p0 = own_nsc_191 p0 from by unfold own_nsc_12; rw [if_neg b15_26, if_neg b21_27]]
        exact K191
  show own_Go p e below s (fun (v : Option Value) (h : Heap) (L : List Loc) => v = some (.int (own_nsc_0 p0)) ∧ h = h0 ∧ L = []) ({ frames := 0, cells := 0, slots := 0, locals := 0 } : Room).cells ({ frames := 0, cells := 0, slots := 0, locals := 0 } : Room).slots _
  refine own_go (S' := (s₁.setTop (mkF m 3 #[.val (.int p0)] [(.int (97 : Int32)), (.int p0)]))) (fun _ kont => XS.iloadN X0.here hx rfl (hb hby d2_0) rfl (XS.bipush X0.here hx rfl (hb hby d2_1) kont)) ?_
  by_cases b3_28 : p0 < (97 : Int32)
  · refine own_go (S' := (s₁.setTop (mkF m 12 #[.val (.int p0)] []))) (fun _ kont => XS.icmpYes X0.here hx rfl (pc0 := 3) (pc' := 12) rfl (hb hby d2_3) rfl (tlt b3_28).1 (by decide) (by decide) kont) ?_
    rw [show own_nsc_0 p0 = own_nsc_12 p0 from by unfold own_nsc_0; rw [if_pos b3_28]]
    exact K12
  · refine own_go (S' := (s₁.setTop (mkF m 9 #[.val (.int p0)] [(.int (122 : Int32)), (.int p0)]))) (fun _ kont => XS.icmpNo X0.here hx rfl (hb hby d2_3) rfl (flt b3_28).1 (XS.iloadN X0.here hx rfl (hb hby d2_6) rfl (XS.bipush X0.here hx rfl (hb hby d2_7) kont))) ?_
    by_cases b9_29 : (122 : Int32) < p0
    · refine own_go (S' := (s₁.setTop (mkF m 12 #[.val (.int p0)] []))) (fun _ kont => XS.icmpNo X0.here hx rfl (hb hby d2_9) rfl (tlt b9_29).2.2.2 kont) ?_
      rw [show own_nsc_0 p0 = own_nsc_12 p0 from by unfold own_nsc_0; rw [if_neg b3_28, if_pos b9_29]]
      exact K12
    · refine own_go (S' := (s₁.setTop (mkF m 191 #[.val (.int p0)] []))) (fun _ kont => XS.icmpYes X0.here hx rfl (pc0 := 9) (pc' := 191) rfl (hb hby d2_9) rfl (flt b9_29).2.2.2 (by decide) (by decide) kont) ?_
      rw [show own_nsc_0 p0 = own_nsc_191 p0 from by unfold own_nsc_0; rw [if_neg b3_28, if_neg b9_29]]
      exact K191
theorem pd_175 : parseMethodDescriptor "(I)Z" = some ⟨[.int], some .boolean⟩ := by decide +kernel
theorem ef_rm0 (m : MethodId) (x0 : Int32) (x1 : Int32) (x2 : Int32) (x3 : Int32) : entryFrame m #[(.int x0), (.int x1), (.int x2), (.int x3)] maxLocals = mkF m 0 #[.val (.int x0), .val (.int x1), .val (.int x2), .val (.int x3), .unset, .unset, .unset] [] := by first | (simp [entryFrame, mkF, argsToLocals, Value.category, maxLocals]; done) | rfl
def Q_rm0 (Z : State) (i0 i1 i2 i3 : Int32) (h0 : Heap) (n0 : Nat) (v : Option Value) (h : Heap) (L : List Loc) : Prop := v = some (.int 1) ∧ Fr n0 L
set_option maxRecDepth 65536 in
set_option maxHeartbeats 40000000 in
theorem rm0 (l : Launch) (Z : State) (a0 : Array Value) (hw : ∀ d ∈ tables_1, d.before a0 Z = true) (ws : List Jvm.Cond) (i0 i1 i2 i3 : Int32) (h0 : Heap) (n0 : Nat) (Z0 : n0 ≤ h0.size)  :
    MetFree l x (head1 (Jvm.Cond.code x code maxLocals ret :: ws) room_1) (fun a U => a = #[(.int i0), (.int i1), (.int i2), (.int i3)] ∧ Z.Warmed39 U.vm ∧ U.heap = h0) (fun _ _ _ _ _ => True) (fun _ U o U' => ∃ v L, o = .returned v ∧ Q_rm0 Z i0 i1 i2 i3 h0 n0 v U'.heap L ∧ FrameEnd U o U' L room_1.cells room_1.slots) := by
  refine MetFree.of_bodySF (plainFor_of_name pn_173) hisR ?_
  intro p e s m args below meth c s₁ Bd hml0 hP hK
  obtain ⟨rfl, hZ, hh⟩ := hP
  have hx := Bd.exec
  have hby := Bd.bytes
  have hlk := Bd.notSynchronized
  have hml : c.maxLocals = 7 := hml0
  have hown : s.vm.findClass "com/example/umform/umform/model/tree/NameIsNameStartCharPinLaw" = some m.cls := findClass_of_methodNamed Bd.named
  have hnm := (name_of_methodNamed Bd.named Bd.method).1
  have X0 : Stand p l e room_1 s m #[(.int i0), (.int i1), (.int i2), (.int i3)] below meth c s₁ [] 0 0 := Stand.of_body Bd
  have e0 : s₁.heap = h0 := by rw [← hh, Bd.state]; rfl
  have N0 := Fr.nil n0
  change own_Go p e below s (Q_rm0 Z i0 i1 i2 i3 h0 n0) room_1.cells room_1.slots _
  refine own_go (S' := (s₁.setTop (mkF m 0 #[.val (.int i0), .val (.int i1), .val (.int i2), .val (.int i3), .unset, .unset, .unset] []))) (fun _ kont => castTop (ef_rm0 m i0 i1 i2 i3) kont) ?_
  have K229 : ∀ (Tk : State) (lk : List Loc) (bk : Addr) (yk : Int32) (u6 : Slot) (o6 : u6 = .unset ∨ ∃ w, u6 = .val w ∧ w.category = 1) (Xk : Stand p l e room_1 s m #[(.int i0), (.int i1), (.int i2), (.int i3)] below meth c Tk lk 1 30) (Zk : n0 ≤ Tk.heap.size) (Nk : Fr n0 lk), own_Go p e below s (Q_rm0 Z i0 i1 i2 i3 h0 n0) room_1.cells room_1.slots (Tk.setTop (mkF m 229 #[.val (.int i0), .val (.int i1), .val (.int i2), .val (.int i3), .val (.ref bk), .val (.int yk), u6] [])) := by
    intro Tk lk bk yk u6 o6 Xk Zk Nk
    refine own_go (S' := (Tk.setTop (mkF m 231 #[.val (.int i0), .val (.int i1), .val (.int i2), .val (.int i3), .val (.ref bk), .val (.int yk), u6] [(.int yk)]))) (fun _ kont => XS.iload Xk.here hx rfl (hb hby at_229) rfl kont) ?_
    obtain ⟨v1, _, ⟨T1, L1, k1, n1⟩, -, X1, ⟨Lc1, hQ1, l1, y1, z1⟩, st1⟩ := Jvm.LawKit.callS Xk hx (y := (⟨"com/example/umform/umform/model/tree/NameIsNameStartCharPinLaw", "inGap", "(I)Z"⟩ : MethodName)) hown (mvT hZ (hw _ (List.mem_of_getElem? (i := 9) rfl))) (mvT hZ (hw _ (List.mem_of_getElem? (i := 10) rfl))) (mvT hZ (hw _ (List.mem_of_getElem? (i := 11) rfl))) (mvT hZ (hw _ (List.mem_of_getElem? (i := 12) rfl))) (by decide) (backOf (W := 0) (rm1 l Z a0 hw [] yk Tk.heap n0 Zk) hZ (hw _ (List.mem_of_getElem? (i := 12) rfl)) (hw _ (List.mem_of_getElem? (i := 11) rfl)) (by decide) (by decide)) (g := (mkF m 231 #[.val (.int i0), .val (.int i1), .val (.int i2), .val (.int i3), .val (.ref bk), .val (.int yk), u6] [(.int yk)])) rfl (by rw [hml]; rfl) (argsL := [(.int yk)]) (rest := []) (lenOf pd_175 rfl) rfl (by show 2 * 0 + _ ≤ _; exact Nat.le_of_eq rfl) (hb hby at_231) (fun _ _ => ⟨rfl, rfl, (by decide : 1 + 0 ≤ _), (by decide : 30 + 0 ≤ _)⟩)
    dsimp only [Pt.U, Pt.locs, Pt.cells, Pt.slots] at X1 l1 y1 z1 st1 hQ1
    subst l1 y1 z1
    obtain ⟨rfl, eh1, rfl⟩ := hQ1
    have N1 := Fr.app Nk (Fr.nil n0)
    refine own_go (S' := (T1.setTop (mkF m 234 #[.val (.int i0), .val (.int i1), .val (.int i2), .val (.int i3), .val (.ref bk), .val (.int yk), u6] [(.int (own_gap_0 yk))]))) st1 ?_
    by_cases qg : (own_gap_0 yk) = (0 : Int32)
    · refine own_go (S' := (T1.setTop (mkF m 246 #[.val (.int i0), .val (.int i1), .val (.int i2), .val (.int i3), .val (.ref bk), .val (.int yk), .val (.int (1 : Int32))] [(.int yk)]))) (fun _ kont => XS.ifNo X1.here hx rfl (hb hby at_234) rfl ((if0 _ _).trans (teq qg).2) (XS.iconst X1.here hx rfl (hb hby at_237) (XS.goto X1.here hx rfl (pc0 := 238) (pc' := 242) rfl (hb hby at_238) (by decide) (by decide) (XS.istoreS X1.here hx rfl (hb hby at_242) rfl rfl o6 (XS.iload X1.here hx rfl (hb hby at_244) rfl kont))))) ?_
      obtain ⟨v2, _, ⟨T2, L2, k2, n2⟩, -, X2, ⟨Lc2, hQ2, l2, y2, z2⟩, st2⟩ := Jvm.LawKit.callS X1 hx (y := (⟨"com/example/umform/umform/model/tree/Name", "isNameStartChar", "(I)Z"⟩ : MethodName)) hown (mvT hZ (hw _ (List.mem_of_getElem? (i := 16) rfl))) (mvT hZ (hw _ (List.mem_of_getElem? (i := 17) rfl))) (mvT hZ (hw _ (List.mem_of_getElem? (i := 18) rfl))) (mvT hZ (hw _ (List.mem_of_getElem? (i := 19) rfl))) (by decide) (backOf (W := 0) (rm2 l Z a0 hw [] yk Tk.heap n0 Zk) hZ (hw _ (List.mem_of_getElem? (i := 19) rfl)) (hw _ (List.mem_of_getElem? (i := 18) rfl)) (by decide) (by decide)) (g := (mkF m 246 #[.val (.int i0), .val (.int i1), .val (.int i2), .val (.int i3), .val (.ref bk), .val (.int yk), .val (.int (1 : Int32))] [(.int yk)])) rfl (by rw [hml]; rfl) (argsL := [(.int yk)]) (rest := []) (lenOf pd_175 rfl) rfl (by show 2 * 0 + _ ≤ _; exact Nat.le_of_eq rfl) (hb hby at_246) (fun _ _ => ⟨rfl, eh1, (by decide : 1 + 0 ≤ _), (by decide : 30 + 0 ≤ _)⟩)
      dsimp only [Pt.U, Pt.locs, Pt.cells, Pt.slots] at X2 l2 y2 z2 st2 hQ2
      subst l2 y2 z2
      obtain ⟨rfl, eh2, rfl⟩ := hQ2
      have N2 := Fr.app N1 (Fr.nil n0)
      refine own_go (S' := (T2.setTop (mkF m 249 #[.val (.int i0), .val (.int i1), .val (.int i2), .val (.int i3), .val (.ref bk), .val (.int yk), .val (.int (1 : Int32))] [(.int (own_nsc_0 yk))]))) st2 ?_
      refine own_go (S' := (T2.setTop (mkF m 259 #[.val (.int i0), .val (.int i1), .val (.int i2), .val (.int i3), .val (.ref bk), .val (.int yk), .val (.int (1 : Int32))] [(.int (1 : Int32))]))) (fun _ kont => XS.iload X2.here hx rfl (hb hby at_249) rfl (XS.icmpNo X2.here hx rfl (hb hby at_251) rfl (teq (own_lawN _ qg)).2 (XS.iconst X2.here hx rfl (hb hby at_254) (XS.goto X2.here hx rfl (pc0 := 255) (pc' := 259) rfl (hb hby at_255) (by decide) (by decide) kont)))) ?_
      refine own_retN (t := .boolean) X2 hx hlk (by simp) Bd.returns (hb hby at_259) (by decide) (by decide) ?_
      exact ⟨rfl, N2⟩
    · refine own_go (S' := (T1.setTop (mkF m 246 #[.val (.int i0), .val (.int i1), .val (.int i2), .val (.int i3), .val (.ref bk), .val (.int yk), .val (.int (0 : Int32))] [(.int yk)]))) (fun _ kont => XS.ifYes X1.here hx rfl (pc0 := 234) (pc' := 241) rfl (hb hby at_234) rfl ((if0 _ _).trans (feq qg).2) (by decide) (by decide) (XS.iconst X1.here hx rfl (hb hby at_241) (XS.istoreS X1.here hx rfl (hb hby at_242) rfl rfl o6 (XS.iload X1.here hx rfl (hb hby at_244) rfl kont)))) ?_
      obtain ⟨v3, _, ⟨T3, L3, k3, n3⟩, -, X3, ⟨Lc3, hQ3, l3, y3, z3⟩, st3⟩ := Jvm.LawKit.callS X1 hx (y := (⟨"com/example/umform/umform/model/tree/Name", "isNameStartChar", "(I)Z"⟩ : MethodName)) hown (mvT hZ (hw _ (List.mem_of_getElem? (i := 16) rfl))) (mvT hZ (hw _ (List.mem_of_getElem? (i := 17) rfl))) (mvT hZ (hw _ (List.mem_of_getElem? (i := 18) rfl))) (mvT hZ (hw _ (List.mem_of_getElem? (i := 19) rfl))) (by decide) (backOf (W := 0) (rm2 l Z a0 hw [] yk Tk.heap n0 Zk) hZ (hw _ (List.mem_of_getElem? (i := 19) rfl)) (hw _ (List.mem_of_getElem? (i := 18) rfl)) (by decide) (by decide)) (g := (mkF m 246 #[.val (.int i0), .val (.int i1), .val (.int i2), .val (.int i3), .val (.ref bk), .val (.int yk), .val (.int (0 : Int32))] [(.int yk)])) rfl (by rw [hml]; rfl) (argsL := [(.int yk)]) (rest := []) (lenOf pd_175 rfl) rfl (by show 2 * 0 + _ ≤ _; exact Nat.le_of_eq rfl) (hb hby at_246) (fun _ _ => ⟨rfl, eh1, (by decide : 1 + 0 ≤ _), (by decide : 30 + 0 ≤ _)⟩)
      dsimp only [Pt.U, Pt.locs, Pt.cells, Pt.slots] at X3 l3 y3 z3 st3 hQ3
      subst l3 y3 z3
      obtain ⟨rfl, eh3, rfl⟩ := hQ3
      have N3 := Fr.app N1 (Fr.nil n0)
      refine own_go (S' := (T3.setTop (mkF m 249 #[.val (.int i0), .val (.int i1), .val (.int i2), .val (.int i3), .val (.ref bk), .val (.int yk), .val (.int (0 : Int32))] [(.int (own_nsc_0 yk))]))) st3 ?_
      refine own_go (S' := (T3.setTop (mkF m 259 #[.val (.int i0), .val (.int i1), .val (.int i2), .val (.int i3), .val (.ref bk), .val (.int yk), .val (.int (0 : Int32))] [(.int (1 : Int32))]))) (fun _ kont => XS.iload X3.here hx rfl (hb hby at_249) rfl (XS.icmpNo X3.here hx rfl (hb hby at_251) rfl (teq (own_lawG _ qg)).2 (XS.iconst X3.here hx rfl (hb hby at_254) (XS.goto X3.here hx rfl (pc0 := 255) (pc' := 259) rfl (hb hby at_255) (by decide) (by decide) kont)))) ?_
      refine own_retN (t := .boolean) X3 hx hlk (by simp) Bd.returns (hb hby at_259) (by decide) (by decide) ?_
      exact ⟨rfl, N3⟩
  have K208 : ∀ (Tk : State) (lk : List Loc) (bk : Addr) (Xk : Stand p l e room_1 s m #[(.int i0), (.int i1), (.int i2), (.int i3)] below meth c Tk lk 1 30) (Zk : n0 ≤ Tk.heap.size) (Nk : Fr n0 lk) (IAk : own_IA Z Tk.heap bk (30 : Int32)), own_Go p e below s (Q_rm0 Z i0 i1 i2 i3 h0 n0) room_1.cells room_1.slots (Tk.setTop (mkF m 208 #[.val (.int i0), .val (.int i1), .val (.int i2), .val (.int i3), .val (.ref bk), .unset, .unset] [])) := by
    intro Tk lk bk Xk Zk Nk IAk
    refine own_go (S' := (Tk.setTop (mkF m 209 #[.val (.int i0), .val (.int i1), .val (.int i2), .val (.int i3), .val (.ref bk), .unset, .unset] [(.int i1)]))) (fun _ kont => XS.iloadN Xk.here hx rfl (hb hby at_208) rfl kont) ?_
    refine own_go (S' := (Tk.setTop (mkF m 211 #[.val (.int i0), .val (.int i1), .val (.int i2), .val (.int i3), .val (.ref bk), .unset, .unset] [(.int (2147483647 : Int32)), (.int i1)]))) (Xk.ldcInt hx hown (mvT hZ (hw _ (List.mem_of_getElem? (i := 8) rfl))) (g := (mkF m 209 #[.val (.int i0), .val (.int i1), .val (.int i2), .val (.int i3), .val (.ref bk), .unset, .unset] [(.int i1)])) rfl (hb hby at_209)) ?_
    refine own_go (S' := (Tk.setTop (mkF m 214 #[.val (.int i0), .val (.int i1), .val (.int i2), .val (.int i3), .val (.ref bk), .unset, .unset] [(.ref bk), (.int (i1 &&& (2147483647 : Int32)))]))) (fun _ kont => XS.iand Xk.here hx rfl (hb hby at_211) rfl (XS.aload Xk.here hx rfl (hb hby at_212) rfl rfl kont)) ?_
    obtain ⟨kkL, vsL, clL, ArL, -, SL, ML, HL, GL⟩ := IAk
    have qlL := len_of SL ML
    refine own_go (S' := (Tk.setTop (mkF m 215 #[.val (.int i0), .val (.int i1), .val (.int i2), .val (.int i3), .val (.ref bk), .unset, .unset] [(.int (30 : Int32)), (.int (i1 &&& (2147483647 : Int32)))]))) (fun _ kont => Xk.arraylength hx (by exact ArL.1) (State.isArrayOf_alike hZ.alike ArL.2.1) (g := (mkF m 214 #[.val (.int i0), .val (.int i1), .val (.int i2), .val (.int i3), .val (.ref bk), .unset, .unset] [(.ref bk), (.int (i1 &&& (2147483647 : Int32)))])) rfl rfl (hb hby at_214) _ (by rw [qlL]; exact kont)) ?_
    refine own_go (S' := (Tk.setTop (mkF m 222 #[.val (.int i0), .val (.int i1), .val (.int i2), .val (.int i3), .val (.ref bk), .unset, .val (.int ((i1 &&& (2147483647 : Int32)) % (30 : Int32)))] [(.int ((i1 &&& (2147483647 : Int32)) % (30 : Int32))), (.ref bk)]))) (fun _ kont => iremM Xk hx (g := (mkF m 215 #[.val (.int i0), .val (.int i1), .val (.int i2), .val (.int i3), .val (.ref bk), .unset, .unset] [(.int (30 : Int32)), (.int (i1 &&& (2147483647 : Int32)))])) rfl (hb hby at_215) rfl (by decide) (XS.istore Xk.here hx rfl (hb hby at_216) rfl (l' := #[.val (.int i0), .val (.int i1), .val (.int i2), .val (.int i3), .val (.ref bk), .unset, .val (.int ((i1 &&& (2147483647 : Int32)) % (30 : Int32)))]) rfl (XS.aload Xk.here hx rfl (hb hby at_218) rfl rfl (XS.iload Xk.here hx rfl (hb hby at_220) rfl kont)))) ?_
    have hr1 := c_andS i1 (2147483647 : Int32)
    have hr2 := c_irem (i1 &&& (2147483647 : Int32)) (30 : Int32) 30 (by decide)
    have hr3 := hr2.1 (hr1.2.2 (by decide))
    have hj1 : ¬ ((i1 &&& (2147483647 : Int32)) % (30 : Int32)) < (0 : Int32) := fun q => by have := own_ltr q (by decide : (0 : Int32).toInt = 0); omega
    have hj2 : ((i1 &&& (2147483647 : Int32)) % (30 : Int32)) < (30 : Int32) := by rw [Int32.lt_iff_toInt_lt]; have : (30 : Int32).toInt = 30 := (by decide); omega
    have hinL := inb_of SL ⟨hj1, hj2⟩
    obtain ⟨xL, hxL⟩ := fit_I (GL _ (Nat.lt_of_not_le fun q => hinL (Or.inr q))) (Or.inl rfl)
    have hatL := HL _ (Nat.lt_of_not_le fun q => hinL (Or.inr q))
    rw [hxL] at hatL
    refine own_go (S' := (Tk.setTop (mkF m 223 #[.val (.int i0), .val (.int i1), .val (.int i2), .val (.int i3), .val (.ref bk), .unset, .val (.int ((i1 &&& (2147483647 : Int32)) % (30 : Int32)))] [(.int xL)]))) (fun _ kont => Xk.iaload hx (j := ((i1 &&& (2147483647 : Int32)) % (30 : Int32))) (v := .int xL) (by exact ArL.1) (State.isArrayOf_alike hZ.alike ArL.2.1) ArL.2.2 hinL hatL (g := (mkF m 222 #[.val (.int i0), .val (.int i1), .val (.int i2), .val (.int i3), .val (.ref bk), .unset, .val (.int ((i1 &&& (2147483647 : Int32)) % (30 : Int32)))] [(.int ((i1 &&& (2147483647 : Int32)) % (30 : Int32))), (.ref bk)])) rfl rfl (hb hby at_222) _ kont) ?_
    refine own_go (S' := (Tk.setTop (mkF m 229 #[.val (.int i0), .val (.int i1), .val (.int i2), .val (.int i3), .val (.ref bk), .val (.int (xL + (i2 % (5 : Int32)))), .val (.int ((i1 &&& (2147483647 : Int32)) % (30 : Int32)))] []))) (fun _ kont => XS.iloadN Xk.here hx rfl (hb hby at_223) rfl (XS.iconst Xk.here hx rfl (hb hby at_224) (iremM Xk hx (g := (mkF m 225 #[.val (.int i0), .val (.int i1), .val (.int i2), .val (.int i3), .val (.ref bk), .unset, .val (.int ((i1 &&& (2147483647 : Int32)) % (30 : Int32)))] [(.int (5 : Int32)), (.int i2), (.int xL)])) rfl (hb hby at_225) rfl (by decide) (XS.iadd Xk.here hx rfl (hb hby at_226) rfl (XS.istore Xk.here hx rfl (hb hby at_227) rfl (l' := #[.val (.int i0), .val (.int i1), .val (.int i2), .val (.int i3), .val (.ref bk), .val (.int (xL + (i2 % (5 : Int32)))), .val (.int ((i1 &&& (2147483647 : Int32)) % (30 : Int32)))]) rfl kont))))) ?_
    exact K229 _ _ _ _ _ (Or.inr ⟨_, rfl, rfl⟩) Xk Zk Nk
  refine own_go (S' := (s₁.setTop (mkF m 2 #[.val (.int i0), .val (.int i1), .val (.int i2), .val (.int i3), .unset, .unset, .unset] [(.int (30 : Int32))]))) (fun _ kont => XS.bipush X0.here hx rfl (hb hby at_0) kont) ?_
  obtain ⟨T5, h5, k5, X5, e5, E5, A5, st5⟩ := newP X0 hx hZ (hw _ (List.mem_of_getElem? (i := 0) rfl)) e0 (g := (mkF m 2 #[.val (.int i0), .val (.int i1), .val (.int i2), .val (.int i3), .unset, .unset, .unset] [(.int (30 : Int32))])) rfl (hb hby at_2) rfl (by decide) (cap := 30) (by decide) (by decide) (by decide) (by decide)
  obtain ⟨b5, gz5⟩ : ∃ z, z = h0.size := ⟨_, rfl⟩
  rw [← gz5] at A5 st5
  have g_b5 : n0 ≤ b5 := Nat.le_trans Z0 (Nat.le_of_eq gz5.symm)
  have V5 := Arv.new A5 (by decide)
  have Z5 : n0 ≤ h5.size := Nat.le_trans Z0 E5.1
  refine own_go (S' := (T5.setTop (mkF m 4 #[.val (.int i0), .val (.int i1), .val (.int i2), .val (.int i3), .unset, .unset, .unset] [(.ref b5)]))) st5 ?_
  refine own_go (S' := (T5.setTop (mkF m 8 #[.val (.int i0), .val (.int i1), .val (.int i2), .val (.int i3), .unset, .unset, .unset] [(.int (65 : Int32)), (.int (0 : Int32)), (.ref b5), (.ref b5)]))) (fun _ kont => XS.dup X5.here hx rfl (hb hby at_4) rfl rfl (XS.iconst X5.here hx rfl (hb hby at_5) (XS.bipush X5.here hx rfl (hb hby at_6) kont))) ?_
  have IA0 : own_IA Z h5 b5 (30 : Int32) := ⟨_, _, V5⟩
  obtain ⟨kk6, vs6, cl6, Ar6, -, S6, -⟩ := id IA0
  obtain ⟨T6, h6, X6, e6, W6, st6⟩ := stI X5 hx hZ e5 Ar6 (j := (0 : Int32)) (inb_of S6 ⟨by decide, by decide⟩) (g := (mkF m 8 #[.val (.int i0), .val (.int i1), .val (.int i2), .val (.int i3), .unset, .unset, .unset] [(.int (65 : Int32)), (.int (0 : Int32)), (.ref b5), (.ref b5)])) rfl rfl (hb hby at_8)
  have IA6 := own_IA_set IA0 ⟨by decide, by decide⟩ W6
  have N6 := Fr.snoc X6 N0 g_b5
  have Z6 : n0 ≤ h6.size := Nat.le_trans Z5 (Nat.le_of_eq W6.size.symm)
  refine own_go (S' := (T6.setTop (mkF m 9 #[.val (.int i0), .val (.int i1), .val (.int i2), .val (.int i3), .unset, .unset, .unset] [(.ref b5)]))) st6 ?_
  refine own_go (S' := (T6.setTop (mkF m 13 #[.val (.int i0), .val (.int i1), .val (.int i2), .val (.int i3), .unset, .unset, .unset] [(.int (90 : Int32)), (.int (1 : Int32)), (.ref b5), (.ref b5)]))) (fun _ kont => XS.dup X6.here hx rfl (hb hby at_9) rfl rfl (XS.iconst X6.here hx rfl (hb hby at_10) (XS.bipush X6.here hx rfl (hb hby at_11) kont))) ?_
  obtain ⟨kk7, vs7, cl7, Ar7, -, S7, -⟩ := id IA6
  obtain ⟨T7, h7, X7, e7, W7, st7⟩ := stI X6 hx hZ e6 Ar7 (j := (1 : Int32)) (inb_of S7 ⟨by decide, by decide⟩) (g := (mkF m 13 #[.val (.int i0), .val (.int i1), .val (.int i2), .val (.int i3), .unset, .unset, .unset] [(.int (90 : Int32)), (.int (1 : Int32)), (.ref b5), (.ref b5)])) rfl rfl (hb hby at_13)
  have IA7 := own_IA_set IA6 ⟨by decide, by decide⟩ W7
  have N7 := Fr.snoc X7 N6 g_b5
  have Z7 : n0 ≤ h7.size := Nat.le_trans Z6 (Nat.le_of_eq W7.size.symm)
  refine own_go (S' := (T7.setTop (mkF m 14 #[.val (.int i0), .val (.int i1), .val (.int i2), .val (.int i3), .unset, .unset, .unset] [(.ref b5)]))) st7 ?_
  refine own_go (S' := (T7.setTop (mkF m 18 #[.val (.int i0), .val (.int i1), .val (.int i2), .val (.int i3), .unset, .unset, .unset] [(.int (95 : Int32)), (.int (2 : Int32)), (.ref b5), (.ref b5)]))) (fun _ kont => XS.dup X7.here hx rfl (hb hby at_14) rfl rfl (XS.iconst X7.here hx rfl (hb hby at_15) (XS.bipush X7.here hx rfl (hb hby at_16) kont))) ?_
  obtain ⟨kk8, vs8, cl8, Ar8, -, S8, -⟩ := id IA7
  obtain ⟨T8, h8, X8, e8, W8, st8⟩ := stI X7 hx hZ e7 Ar8 (j := (2 : Int32)) (inb_of S8 ⟨by decide, by decide⟩) (g := (mkF m 18 #[.val (.int i0), .val (.int i1), .val (.int i2), .val (.int i3), .unset, .unset, .unset] [(.int (95 : Int32)), (.int (2 : Int32)), (.ref b5), (.ref b5)])) rfl rfl (hb hby at_18)
  have IA8 := own_IA_set IA7 ⟨by decide, by decide⟩ W8
  have N8 := Fr.snoc X8 N7 g_b5
  have Z8 : n0 ≤ h8.size := Nat.le_trans Z7 (Nat.le_of_eq W8.size.symm)
  refine own_go (S' := (T8.setTop (mkF m 19 #[.val (.int i0), .val (.int i1), .val (.int i2), .val (.int i3), .unset, .unset, .unset] [(.ref b5)]))) st8 ?_
  refine own_go (S' := (T8.setTop (mkF m 23 #[.val (.int i0), .val (.int i1), .val (.int i2), .val (.int i3), .unset, .unset, .unset] [(.int (97 : Int32)), (.int (3 : Int32)), (.ref b5), (.ref b5)]))) (fun _ kont => XS.dup X8.here hx rfl (hb hby at_19) rfl rfl (XS.iconst X8.here hx rfl (hb hby at_20) (XS.bipush X8.here hx rfl (hb hby at_21) kont))) ?_
  obtain ⟨kk9, vs9, cl9, Ar9, -, S9, -⟩ := id IA8
  obtain ⟨T9, h9, X9, e9, W9, st9⟩ := stI X8 hx hZ e8 Ar9 (j := (3 : Int32)) (inb_of S9 ⟨by decide, by decide⟩) (g := (mkF m 23 #[.val (.int i0), .val (.int i1), .val (.int i2), .val (.int i3), .unset, .unset, .unset] [(.int (97 : Int32)), (.int (3 : Int32)), (.ref b5), (.ref b5)])) rfl rfl (hb hby at_23)
  have IA9 := own_IA_set IA8 ⟨by decide, by decide⟩ W9
  have N9 := Fr.snoc X9 N8 g_b5
  have Z9 : n0 ≤ h9.size := Nat.le_trans Z8 (Nat.le_of_eq W9.size.symm)
  refine own_go (S' := (T9.setTop (mkF m 24 #[.val (.int i0), .val (.int i1), .val (.int i2), .val (.int i3), .unset, .unset, .unset] [(.ref b5)]))) st9 ?_
  refine own_go (S' := (T9.setTop (mkF m 28 #[.val (.int i0), .val (.int i1), .val (.int i2), .val (.int i3), .unset, .unset, .unset] [(.int (122 : Int32)), (.int (4 : Int32)), (.ref b5), (.ref b5)]))) (fun _ kont => XS.dup X9.here hx rfl (hb hby at_24) rfl rfl (XS.iconst X9.here hx rfl (hb hby at_25) (XS.bipush X9.here hx rfl (hb hby at_26) kont))) ?_
  obtain ⟨kk10, vs10, cl10, Ar10, -, S10, -⟩ := id IA9
  obtain ⟨T10, h10, X10, e10, W10, st10⟩ := stI X9 hx hZ e9 Ar10 (j := (4 : Int32)) (inb_of S10 ⟨by decide, by decide⟩) (g := (mkF m 28 #[.val (.int i0), .val (.int i1), .val (.int i2), .val (.int i3), .unset, .unset, .unset] [(.int (122 : Int32)), (.int (4 : Int32)), (.ref b5), (.ref b5)])) rfl rfl (hb hby at_28)
  have IA10 := own_IA_set IA9 ⟨by decide, by decide⟩ W10
  have N10 := Fr.snoc X10 N9 g_b5
  have Z10 : n0 ≤ h10.size := Nat.le_trans Z9 (Nat.le_of_eq W10.size.symm)
  refine own_go (S' := (T10.setTop (mkF m 29 #[.val (.int i0), .val (.int i1), .val (.int i2), .val (.int i3), .unset, .unset, .unset] [(.ref b5)]))) st10 ?_
  refine own_go (S' := (T10.setTop (mkF m 34 #[.val (.int i0), .val (.int i1), .val (.int i2), .val (.int i3), .unset, .unset, .unset] [(.int (192 : Int32)), (.int (5 : Int32)), (.ref b5), (.ref b5)]))) (fun _ kont => XS.dup X10.here hx rfl (hb hby at_29) rfl rfl (XS.iconst X10.here hx rfl (hb hby at_30) (XS.sipush X10.here hx rfl (hb hby at_31) kont))) ?_
  obtain ⟨kk11, vs11, cl11, Ar11, -, S11, -⟩ := id IA10
  obtain ⟨T11, h11, X11, e11, W11, st11⟩ := stI X10 hx hZ e10 Ar11 (j := (5 : Int32)) (inb_of S11 ⟨by decide, by decide⟩) (g := (mkF m 34 #[.val (.int i0), .val (.int i1), .val (.int i2), .val (.int i3), .unset, .unset, .unset] [(.int (192 : Int32)), (.int (5 : Int32)), (.ref b5), (.ref b5)])) rfl rfl (hb hby at_34)
  have IA11 := own_IA_set IA10 ⟨by decide, by decide⟩ W11
  have N11 := Fr.snoc X11 N10 g_b5
  have Z11 : n0 ≤ h11.size := Nat.le_trans Z10 (Nat.le_of_eq W11.size.symm)
  refine own_go (S' := (T11.setTop (mkF m 35 #[.val (.int i0), .val (.int i1), .val (.int i2), .val (.int i3), .unset, .unset, .unset] [(.ref b5)]))) st11 ?_
  refine own_go (S' := (T11.setTop (mkF m 41 #[.val (.int i0), .val (.int i1), .val (.int i2), .val (.int i3), .unset, .unset, .unset] [(.int (214 : Int32)), (.int (6 : Int32)), (.ref b5), (.ref b5)]))) (fun _ kont => XS.dup X11.here hx rfl (hb hby at_35) rfl rfl (XS.bipush X11.here hx rfl (hb hby at_36) (XS.sipush X11.here hx rfl (hb hby at_38) kont))) ?_
  obtain ⟨kk12, vs12, cl12, Ar12, -, S12, -⟩ := id IA11
  obtain ⟨T12, h12, X12, e12, W12, st12⟩ := stI X11 hx hZ e11 Ar12 (j := (6 : Int32)) (inb_of S12 ⟨by decide, by decide⟩) (g := (mkF m 41 #[.val (.int i0), .val (.int i1), .val (.int i2), .val (.int i3), .unset, .unset, .unset] [(.int (214 : Int32)), (.int (6 : Int32)), (.ref b5), (.ref b5)])) rfl rfl (hb hby at_41)
  have IA12 := own_IA_set IA11 ⟨by decide, by decide⟩ W12
  have N12 := Fr.snoc X12 N11 g_b5
  have Z12 : n0 ≤ h12.size := Nat.le_trans Z11 (Nat.le_of_eq W12.size.symm)
  refine own_go (S' := (T12.setTop (mkF m 42 #[.val (.int i0), .val (.int i1), .val (.int i2), .val (.int i3), .unset, .unset, .unset] [(.ref b5)]))) st12 ?_
  refine own_go (S' := (T12.setTop (mkF m 48 #[.val (.int i0), .val (.int i1), .val (.int i2), .val (.int i3), .unset, .unset, .unset] [(.int (216 : Int32)), (.int (7 : Int32)), (.ref b5), (.ref b5)]))) (fun _ kont => XS.dup X12.here hx rfl (hb hby at_42) rfl rfl (XS.bipush X12.here hx rfl (hb hby at_43) (XS.sipush X12.here hx rfl (hb hby at_45) kont))) ?_
  obtain ⟨kk13, vs13, cl13, Ar13, -, S13, -⟩ := id IA12
  obtain ⟨T13, h13, X13, e13, W13, st13⟩ := stI X12 hx hZ e12 Ar13 (j := (7 : Int32)) (inb_of S13 ⟨by decide, by decide⟩) (g := (mkF m 48 #[.val (.int i0), .val (.int i1), .val (.int i2), .val (.int i3), .unset, .unset, .unset] [(.int (216 : Int32)), (.int (7 : Int32)), (.ref b5), (.ref b5)])) rfl rfl (hb hby at_48)
  have IA13 := own_IA_set IA12 ⟨by decide, by decide⟩ W13
  have N13 := Fr.snoc X13 N12 g_b5
  have Z13 : n0 ≤ h13.size := Nat.le_trans Z12 (Nat.le_of_eq W13.size.symm)
  refine own_go (S' := (T13.setTop (mkF m 49 #[.val (.int i0), .val (.int i1), .val (.int i2), .val (.int i3), .unset, .unset, .unset] [(.ref b5)]))) st13 ?_
  refine own_go (S' := (T13.setTop (mkF m 55 #[.val (.int i0), .val (.int i1), .val (.int i2), .val (.int i3), .unset, .unset, .unset] [(.int (246 : Int32)), (.int (8 : Int32)), (.ref b5), (.ref b5)]))) (fun _ kont => XS.dup X13.here hx rfl (hb hby at_49) rfl rfl (XS.bipush X13.here hx rfl (hb hby at_50) (XS.sipush X13.here hx rfl (hb hby at_52) kont))) ?_
  obtain ⟨kk14, vs14, cl14, Ar14, -, S14, -⟩ := id IA13
  obtain ⟨T14, h14, X14, e14, W14, st14⟩ := stI X13 hx hZ e13 Ar14 (j := (8 : Int32)) (inb_of S14 ⟨by decide, by decide⟩) (g := (mkF m 55 #[.val (.int i0), .val (.int i1), .val (.int i2), .val (.int i3), .unset, .unset, .unset] [(.int (246 : Int32)), (.int (8 : Int32)), (.ref b5), (.ref b5)])) rfl rfl (hb hby at_55)
  have IA14 := own_IA_set IA13 ⟨by decide, by decide⟩ W14
  have N14 := Fr.snoc X14 N13 g_b5
  have Z14 : n0 ≤ h14.size := Nat.le_trans Z13 (Nat.le_of_eq W14.size.symm)
  refine own_go (S' := (T14.setTop (mkF m 56 #[.val (.int i0), .val (.int i1), .val (.int i2), .val (.int i3), .unset, .unset, .unset] [(.ref b5)]))) st14 ?_
  refine own_go (S' := (T14.setTop (mkF m 62 #[.val (.int i0), .val (.int i1), .val (.int i2), .val (.int i3), .unset, .unset, .unset] [(.int (248 : Int32)), (.int (9 : Int32)), (.ref b5), (.ref b5)]))) (fun _ kont => XS.dup X14.here hx rfl (hb hby at_56) rfl rfl (XS.bipush X14.here hx rfl (hb hby at_57) (XS.sipush X14.here hx rfl (hb hby at_59) kont))) ?_
  obtain ⟨kk15, vs15, cl15, Ar15, -, S15, -⟩ := id IA14
  obtain ⟨T15, h15, X15, e15, W15, st15⟩ := stI X14 hx hZ e14 Ar15 (j := (9 : Int32)) (inb_of S15 ⟨by decide, by decide⟩) (g := (mkF m 62 #[.val (.int i0), .val (.int i1), .val (.int i2), .val (.int i3), .unset, .unset, .unset] [(.int (248 : Int32)), (.int (9 : Int32)), (.ref b5), (.ref b5)])) rfl rfl (hb hby at_62)
  have IA15 := own_IA_set IA14 ⟨by decide, by decide⟩ W15
  have N15 := Fr.snoc X15 N14 g_b5
  have Z15 : n0 ≤ h15.size := Nat.le_trans Z14 (Nat.le_of_eq W15.size.symm)
  refine own_go (S' := (T15.setTop (mkF m 63 #[.val (.int i0), .val (.int i1), .val (.int i2), .val (.int i3), .unset, .unset, .unset] [(.ref b5)]))) st15 ?_
  refine own_go (S' := (T15.setTop (mkF m 69 #[.val (.int i0), .val (.int i1), .val (.int i2), .val (.int i3), .unset, .unset, .unset] [(.int (767 : Int32)), (.int (10 : Int32)), (.ref b5), (.ref b5)]))) (fun _ kont => XS.dup X15.here hx rfl (hb hby at_63) rfl rfl (XS.bipush X15.here hx rfl (hb hby at_64) (XS.sipush X15.here hx rfl (hb hby at_66) kont))) ?_
  obtain ⟨kk16, vs16, cl16, Ar16, -, S16, -⟩ := id IA15
  obtain ⟨T16, h16, X16, e16, W16, st16⟩ := stI X15 hx hZ e15 Ar16 (j := (10 : Int32)) (inb_of S16 ⟨by decide, by decide⟩) (g := (mkF m 69 #[.val (.int i0), .val (.int i1), .val (.int i2), .val (.int i3), .unset, .unset, .unset] [(.int (767 : Int32)), (.int (10 : Int32)), (.ref b5), (.ref b5)])) rfl rfl (hb hby at_69)
  have IA16 := own_IA_set IA15 ⟨by decide, by decide⟩ W16
  have N16 := Fr.snoc X16 N15 g_b5
  have Z16 : n0 ≤ h16.size := Nat.le_trans Z15 (Nat.le_of_eq W16.size.symm)
  refine own_go (S' := (T16.setTop (mkF m 70 #[.val (.int i0), .val (.int i1), .val (.int i2), .val (.int i3), .unset, .unset, .unset] [(.ref b5)]))) st16 ?_
  refine own_go (S' := (T16.setTop (mkF m 76 #[.val (.int i0), .val (.int i1), .val (.int i2), .val (.int i3), .unset, .unset, .unset] [(.int (880 : Int32)), (.int (11 : Int32)), (.ref b5), (.ref b5)]))) (fun _ kont => XS.dup X16.here hx rfl (hb hby at_70) rfl rfl (XS.bipush X16.here hx rfl (hb hby at_71) (XS.sipush X16.here hx rfl (hb hby at_73) kont))) ?_
  obtain ⟨kk17, vs17, cl17, Ar17, -, S17, -⟩ := id IA16
  obtain ⟨T17, h17, X17, e17, W17, st17⟩ := stI X16 hx hZ e16 Ar17 (j := (11 : Int32)) (inb_of S17 ⟨by decide, by decide⟩) (g := (mkF m 76 #[.val (.int i0), .val (.int i1), .val (.int i2), .val (.int i3), .unset, .unset, .unset] [(.int (880 : Int32)), (.int (11 : Int32)), (.ref b5), (.ref b5)])) rfl rfl (hb hby at_76)
  have IA17 := own_IA_set IA16 ⟨by decide, by decide⟩ W17
  have N17 := Fr.snoc X17 N16 g_b5
  have Z17 : n0 ≤ h17.size := Nat.le_trans Z16 (Nat.le_of_eq W17.size.symm)
  refine own_go (S' := (T17.setTop (mkF m 77 #[.val (.int i0), .val (.int i1), .val (.int i2), .val (.int i3), .unset, .unset, .unset] [(.ref b5)]))) st17 ?_
  refine own_go (S' := (T17.setTop (mkF m 83 #[.val (.int i0), .val (.int i1), .val (.int i2), .val (.int i3), .unset, .unset, .unset] [(.int (893 : Int32)), (.int (12 : Int32)), (.ref b5), (.ref b5)]))) (fun _ kont => XS.dup X17.here hx rfl (hb hby at_77) rfl rfl (XS.bipush X17.here hx rfl (hb hby at_78) (XS.sipush X17.here hx rfl (hb hby at_80) kont))) ?_
  obtain ⟨kk18, vs18, cl18, Ar18, -, S18, -⟩ := id IA17
  obtain ⟨T18, h18, X18, e18, W18, st18⟩ := stI X17 hx hZ e17 Ar18 (j := (12 : Int32)) (inb_of S18 ⟨by decide, by decide⟩) (g := (mkF m 83 #[.val (.int i0), .val (.int i1), .val (.int i2), .val (.int i3), .unset, .unset, .unset] [(.int (893 : Int32)), (.int (12 : Int32)), (.ref b5), (.ref b5)])) rfl rfl (hb hby at_83)
  have IA18 := own_IA_set IA17 ⟨by decide, by decide⟩ W18
  have N18 := Fr.snoc X18 N17 g_b5
  have Z18 : n0 ≤ h18.size := Nat.le_trans Z17 (Nat.le_of_eq W18.size.symm)
  refine own_go (S' := (T18.setTop (mkF m 84 #[.val (.int i0), .val (.int i1), .val (.int i2), .val (.int i3), .unset, .unset, .unset] [(.ref b5)]))) st18 ?_
  refine own_go (S' := (T18.setTop (mkF m 90 #[.val (.int i0), .val (.int i1), .val (.int i2), .val (.int i3), .unset, .unset, .unset] [(.int (895 : Int32)), (.int (13 : Int32)), (.ref b5), (.ref b5)]))) (fun _ kont => XS.dup X18.here hx rfl (hb hby at_84) rfl rfl (XS.bipush X18.here hx rfl (hb hby at_85) (XS.sipush X18.here hx rfl (hb hby at_87) kont))) ?_
  obtain ⟨kk19, vs19, cl19, Ar19, -, S19, -⟩ := id IA18
  obtain ⟨T19, h19, X19, e19, W19, st19⟩ := stI X18 hx hZ e18 Ar19 (j := (13 : Int32)) (inb_of S19 ⟨by decide, by decide⟩) (g := (mkF m 90 #[.val (.int i0), .val (.int i1), .val (.int i2), .val (.int i3), .unset, .unset, .unset] [(.int (895 : Int32)), (.int (13 : Int32)), (.ref b5), (.ref b5)])) rfl rfl (hb hby at_90)
  have IA19 := own_IA_set IA18 ⟨by decide, by decide⟩ W19
  have N19 := Fr.snoc X19 N18 g_b5
  have Z19 : n0 ≤ h19.size := Nat.le_trans Z18 (Nat.le_of_eq W19.size.symm)
  refine own_go (S' := (T19.setTop (mkF m 91 #[.val (.int i0), .val (.int i1), .val (.int i2), .val (.int i3), .unset, .unset, .unset] [(.ref b5)]))) st19 ?_
  refine own_go (S' := (T19.setTop (mkF m 97 #[.val (.int i0), .val (.int i1), .val (.int i2), .val (.int i3), .unset, .unset, .unset] [(.int (8191 : Int32)), (.int (14 : Int32)), (.ref b5), (.ref b5)]))) (fun _ kont => XS.dup X19.here hx rfl (hb hby at_91) rfl rfl (XS.bipush X19.here hx rfl (hb hby at_92) (XS.sipush X19.here hx rfl (hb hby at_94) kont))) ?_
  obtain ⟨kk20, vs20, cl20, Ar20, -, S20, -⟩ := id IA19
  obtain ⟨T20, h20, X20, e20, W20, st20⟩ := stI X19 hx hZ e19 Ar20 (j := (14 : Int32)) (inb_of S20 ⟨by decide, by decide⟩) (g := (mkF m 97 #[.val (.int i0), .val (.int i1), .val (.int i2), .val (.int i3), .unset, .unset, .unset] [(.int (8191 : Int32)), (.int (14 : Int32)), (.ref b5), (.ref b5)])) rfl rfl (hb hby at_97)
  have IA20 := own_IA_set IA19 ⟨by decide, by decide⟩ W20
  have N20 := Fr.snoc X20 N19 g_b5
  have Z20 : n0 ≤ h20.size := Nat.le_trans Z19 (Nat.le_of_eq W20.size.symm)
  refine own_go (S' := (T20.setTop (mkF m 98 #[.val (.int i0), .val (.int i1), .val (.int i2), .val (.int i3), .unset, .unset, .unset] [(.ref b5)]))) st20 ?_
  refine own_go (S' := (T20.setTop (mkF m 104 #[.val (.int i0), .val (.int i1), .val (.int i2), .val (.int i3), .unset, .unset, .unset] [(.int (8204 : Int32)), (.int (15 : Int32)), (.ref b5), (.ref b5)]))) (fun _ kont => XS.dup X20.here hx rfl (hb hby at_98) rfl rfl (XS.bipush X20.here hx rfl (hb hby at_99) (XS.sipush X20.here hx rfl (hb hby at_101) kont))) ?_
  obtain ⟨kk21, vs21, cl21, Ar21, -, S21, -⟩ := id IA20
  obtain ⟨T21, h21, X21, e21, W21, st21⟩ := stI X20 hx hZ e20 Ar21 (j := (15 : Int32)) (inb_of S21 ⟨by decide, by decide⟩) (g := (mkF m 104 #[.val (.int i0), .val (.int i1), .val (.int i2), .val (.int i3), .unset, .unset, .unset] [(.int (8204 : Int32)), (.int (15 : Int32)), (.ref b5), (.ref b5)])) rfl rfl (hb hby at_104)
  have IA21 := own_IA_set IA20 ⟨by decide, by decide⟩ W21
  have N21 := Fr.snoc X21 N20 g_b5
  have Z21 : n0 ≤ h21.size := Nat.le_trans Z20 (Nat.le_of_eq W21.size.symm)
  refine own_go (S' := (T21.setTop (mkF m 105 #[.val (.int i0), .val (.int i1), .val (.int i2), .val (.int i3), .unset, .unset, .unset] [(.ref b5)]))) st21 ?_
  refine own_go (S' := (T21.setTop (mkF m 111 #[.val (.int i0), .val (.int i1), .val (.int i2), .val (.int i3), .unset, .unset, .unset] [(.int (8205 : Int32)), (.int (16 : Int32)), (.ref b5), (.ref b5)]))) (fun _ kont => XS.dup X21.here hx rfl (hb hby at_105) rfl rfl (XS.bipush X21.here hx rfl (hb hby at_106) (XS.sipush X21.here hx rfl (hb hby at_108) kont))) ?_
  obtain ⟨kk22, vs22, cl22, Ar22, -, S22, -⟩ := id IA21
  obtain ⟨T22, h22, X22, e22, W22, st22⟩ := stI X21 hx hZ e21 Ar22 (j := (16 : Int32)) (inb_of S22 ⟨by decide, by decide⟩) (g := (mkF m 111 #[.val (.int i0), .val (.int i1), .val (.int i2), .val (.int i3), .unset, .unset, .unset] [(.int (8205 : Int32)), (.int (16 : Int32)), (.ref b5), (.ref b5)])) rfl rfl (hb hby at_111)
  have IA22 := own_IA_set IA21 ⟨by decide, by decide⟩ W22
  have N22 := Fr.snoc X22 N21 g_b5
  have Z22 : n0 ≤ h22.size := Nat.le_trans Z21 (Nat.le_of_eq W22.size.symm)
  refine own_go (S' := (T22.setTop (mkF m 112 #[.val (.int i0), .val (.int i1), .val (.int i2), .val (.int i3), .unset, .unset, .unset] [(.ref b5)]))) st22 ?_
  refine own_go (S' := (T22.setTop (mkF m 118 #[.val (.int i0), .val (.int i1), .val (.int i2), .val (.int i3), .unset, .unset, .unset] [(.int (8304 : Int32)), (.int (17 : Int32)), (.ref b5), (.ref b5)]))) (fun _ kont => XS.dup X22.here hx rfl (hb hby at_112) rfl rfl (XS.bipush X22.here hx rfl (hb hby at_113) (XS.sipush X22.here hx rfl (hb hby at_115) kont))) ?_
  obtain ⟨kk23, vs23, cl23, Ar23, -, S23, -⟩ := id IA22
  obtain ⟨T23, h23, X23, e23, W23, st23⟩ := stI X22 hx hZ e22 Ar23 (j := (17 : Int32)) (inb_of S23 ⟨by decide, by decide⟩) (g := (mkF m 118 #[.val (.int i0), .val (.int i1), .val (.int i2), .val (.int i3), .unset, .unset, .unset] [(.int (8304 : Int32)), (.int (17 : Int32)), (.ref b5), (.ref b5)])) rfl rfl (hb hby at_118)
  have IA23 := own_IA_set IA22 ⟨by decide, by decide⟩ W23
  have N23 := Fr.snoc X23 N22 g_b5
  have Z23 : n0 ≤ h23.size := Nat.le_trans Z22 (Nat.le_of_eq W23.size.symm)
  refine own_go (S' := (T23.setTop (mkF m 119 #[.val (.int i0), .val (.int i1), .val (.int i2), .val (.int i3), .unset, .unset, .unset] [(.ref b5)]))) st23 ?_
  refine own_go (S' := (T23.setTop (mkF m 125 #[.val (.int i0), .val (.int i1), .val (.int i2), .val (.int i3), .unset, .unset, .unset] [(.int (8591 : Int32)), (.int (18 : Int32)), (.ref b5), (.ref b5)]))) (fun _ kont => XS.dup X23.here hx rfl (hb hby at_119) rfl rfl (XS.bipush X23.here hx rfl (hb hby at_120) (XS.sipush X23.here hx rfl (hb hby at_122) kont))) ?_
  obtain ⟨kk24, vs24, cl24, Ar24, -, S24, -⟩ := id IA23
  obtain ⟨T24, h24, X24, e24, W24, st24⟩ := stI X23 hx hZ e23 Ar24 (j := (18 : Int32)) (inb_of S24 ⟨by decide, by decide⟩) (g := (mkF m 125 #[.val (.int i0), .val (.int i1), .val (.int i2), .val (.int i3), .unset, .unset, .unset] [(.int (8591 : Int32)), (.int (18 : Int32)), (.ref b5), (.ref b5)])) rfl rfl (hb hby at_125)
  have IA24 := own_IA_set IA23 ⟨by decide, by decide⟩ W24
  have N24 := Fr.snoc X24 N23 g_b5
  have Z24 : n0 ≤ h24.size := Nat.le_trans Z23 (Nat.le_of_eq W24.size.symm)
  refine own_go (S' := (T24.setTop (mkF m 126 #[.val (.int i0), .val (.int i1), .val (.int i2), .val (.int i3), .unset, .unset, .unset] [(.ref b5)]))) st24 ?_
  refine own_go (S' := (T24.setTop (mkF m 132 #[.val (.int i0), .val (.int i1), .val (.int i2), .val (.int i3), .unset, .unset, .unset] [(.int (11264 : Int32)), (.int (19 : Int32)), (.ref b5), (.ref b5)]))) (fun _ kont => XS.dup X24.here hx rfl (hb hby at_126) rfl rfl (XS.bipush X24.here hx rfl (hb hby at_127) (XS.sipush X24.here hx rfl (hb hby at_129) kont))) ?_
  obtain ⟨kk25, vs25, cl25, Ar25, -, S25, -⟩ := id IA24
  obtain ⟨T25, h25, X25, e25, W25, st25⟩ := stI X24 hx hZ e24 Ar25 (j := (19 : Int32)) (inb_of S25 ⟨by decide, by decide⟩) (g := (mkF m 132 #[.val (.int i0), .val (.int i1), .val (.int i2), .val (.int i3), .unset, .unset, .unset] [(.int (11264 : Int32)), (.int (19 : Int32)), (.ref b5), (.ref b5)])) rfl rfl (hb hby at_132)
  have IA25 := own_IA_set IA24 ⟨by decide, by decide⟩ W25
  have N25 := Fr.snoc X25 N24 g_b5
  have Z25 : n0 ≤ h25.size := Nat.le_trans Z24 (Nat.le_of_eq W25.size.symm)
  refine own_go (S' := (T25.setTop (mkF m 133 #[.val (.int i0), .val (.int i1), .val (.int i2), .val (.int i3), .unset, .unset, .unset] [(.ref b5)]))) st25 ?_
  refine own_go (S' := (T25.setTop (mkF m 139 #[.val (.int i0), .val (.int i1), .val (.int i2), .val (.int i3), .unset, .unset, .unset] [(.int (12271 : Int32)), (.int (20 : Int32)), (.ref b5), (.ref b5)]))) (fun _ kont => XS.dup X25.here hx rfl (hb hby at_133) rfl rfl (XS.bipush X25.here hx rfl (hb hby at_134) (XS.sipush X25.here hx rfl (hb hby at_136) kont))) ?_
  obtain ⟨kk26, vs26, cl26, Ar26, -, S26, -⟩ := id IA25
  obtain ⟨T26, h26, X26, e26, W26, st26⟩ := stI X25 hx hZ e25 Ar26 (j := (20 : Int32)) (inb_of S26 ⟨by decide, by decide⟩) (g := (mkF m 139 #[.val (.int i0), .val (.int i1), .val (.int i2), .val (.int i3), .unset, .unset, .unset] [(.int (12271 : Int32)), (.int (20 : Int32)), (.ref b5), (.ref b5)])) rfl rfl (hb hby at_139)
  have IA26 := own_IA_set IA25 ⟨by decide, by decide⟩ W26
  have N26 := Fr.snoc X26 N25 g_b5
  have Z26 : n0 ≤ h26.size := Nat.le_trans Z25 (Nat.le_of_eq W26.size.symm)
  refine own_go (S' := (T26.setTop (mkF m 140 #[.val (.int i0), .val (.int i1), .val (.int i2), .val (.int i3), .unset, .unset, .unset] [(.ref b5)]))) st26 ?_
  refine own_go (S' := (T26.setTop (mkF m 146 #[.val (.int i0), .val (.int i1), .val (.int i2), .val (.int i3), .unset, .unset, .unset] [(.int (12289 : Int32)), (.int (21 : Int32)), (.ref b5), (.ref b5)]))) (fun _ kont => XS.dup X26.here hx rfl (hb hby at_140) rfl rfl (XS.bipush X26.here hx rfl (hb hby at_141) (XS.sipush X26.here hx rfl (hb hby at_143) kont))) ?_
  obtain ⟨kk27, vs27, cl27, Ar27, -, S27, -⟩ := id IA26
  obtain ⟨T27, h27, X27, e27, W27, st27⟩ := stI X26 hx hZ e26 Ar27 (j := (21 : Int32)) (inb_of S27 ⟨by decide, by decide⟩) (g := (mkF m 146 #[.val (.int i0), .val (.int i1), .val (.int i2), .val (.int i3), .unset, .unset, .unset] [(.int (12289 : Int32)), (.int (21 : Int32)), (.ref b5), (.ref b5)])) rfl rfl (hb hby at_146)
  have IA27 := own_IA_set IA26 ⟨by decide, by decide⟩ W27
  have N27 := Fr.snoc X27 N26 g_b5
  have Z27 : n0 ≤ h27.size := Nat.le_trans Z26 (Nat.le_of_eq W27.size.symm)
  refine own_go (S' := (T27.setTop (mkF m 147 #[.val (.int i0), .val (.int i1), .val (.int i2), .val (.int i3), .unset, .unset, .unset] [(.ref b5)]))) st27 ?_
  refine own_go (S' := (T27.setTop (mkF m 150 #[.val (.int i0), .val (.int i1), .val (.int i2), .val (.int i3), .unset, .unset, .unset] [(.int (22 : Int32)), (.ref b5), (.ref b5)]))) (fun _ kont => XS.dup X27.here hx rfl (hb hby at_147) rfl rfl (XS.bipush X27.here hx rfl (hb hby at_148) kont)) ?_
  refine own_go (S' := (T27.setTop (mkF m 152 #[.val (.int i0), .val (.int i1), .val (.int i2), .val (.int i3), .unset, .unset, .unset] [(.int (55295 : Int32)), (.int (22 : Int32)), (.ref b5), (.ref b5)]))) (X27.ldcInt hx hown (mvT hZ (hw _ (List.mem_of_getElem? (i := 1) rfl))) (g := (mkF m 150 #[.val (.int i0), .val (.int i1), .val (.int i2), .val (.int i3), .unset, .unset, .unset] [(.int (22 : Int32)), (.ref b5), (.ref b5)])) rfl (hb hby at_150)) ?_
  obtain ⟨kk28, vs28, cl28, Ar28, -, S28, -⟩ := id IA27
  obtain ⟨T28, h28, X28, e28, W28, st28⟩ := stI X27 hx hZ e27 Ar28 (j := (22 : Int32)) (inb_of S28 ⟨by decide, by decide⟩) (g := (mkF m 152 #[.val (.int i0), .val (.int i1), .val (.int i2), .val (.int i3), .unset, .unset, .unset] [(.int (55295 : Int32)), (.int (22 : Int32)), (.ref b5), (.ref b5)])) rfl rfl (hb hby at_152)
  have IA28 := own_IA_set IA27 ⟨by decide, by decide⟩ W28
  have N28 := Fr.snoc X28 N27 g_b5
  have Z28 : n0 ≤ h28.size := Nat.le_trans Z27 (Nat.le_of_eq W28.size.symm)
  refine own_go (S' := (T28.setTop (mkF m 153 #[.val (.int i0), .val (.int i1), .val (.int i2), .val (.int i3), .unset, .unset, .unset] [(.ref b5)]))) st28 ?_
  refine own_go (S' := (T28.setTop (mkF m 156 #[.val (.int i0), .val (.int i1), .val (.int i2), .val (.int i3), .unset, .unset, .unset] [(.int (23 : Int32)), (.ref b5), (.ref b5)]))) (fun _ kont => XS.dup X28.here hx rfl (hb hby at_153) rfl rfl (XS.bipush X28.here hx rfl (hb hby at_154) kont)) ?_
  refine own_go (S' := (T28.setTop (mkF m 158 #[.val (.int i0), .val (.int i1), .val (.int i2), .val (.int i3), .unset, .unset, .unset] [(.int (63744 : Int32)), (.int (23 : Int32)), (.ref b5), (.ref b5)]))) (X28.ldcInt hx hown (mvT hZ (hw _ (List.mem_of_getElem? (i := 2) rfl))) (g := (mkF m 156 #[.val (.int i0), .val (.int i1), .val (.int i2), .val (.int i3), .unset, .unset, .unset] [(.int (23 : Int32)), (.ref b5), (.ref b5)])) rfl (hb hby at_156)) ?_
  obtain ⟨kk29, vs29, cl29, Ar29, -, S29, -⟩ := id IA28
  obtain ⟨T29, h29, X29, e29, W29, st29⟩ := stI X28 hx hZ e28 Ar29 (j := (23 : Int32)) (inb_of S29 ⟨by decide, by decide⟩) (g := (mkF m 158 #[.val (.int i0), .val (.int i1), .val (.int i2), .val (.int i3), .unset, .unset, .unset] [(.int (63744 : Int32)), (.int (23 : Int32)), (.ref b5), (.ref b5)])) rfl rfl (hb hby at_158)
  have IA29 := own_IA_set IA28 ⟨by decide, by decide⟩ W29
  have N29 := Fr.snoc X29 N28 g_b5
  have Z29 : n0 ≤ h29.size := Nat.le_trans Z28 (Nat.le_of_eq W29.size.symm)
  refine own_go (S' := (T29.setTop (mkF m 159 #[.val (.int i0), .val (.int i1), .val (.int i2), .val (.int i3), .unset, .unset, .unset] [(.ref b5)]))) st29 ?_
  refine own_go (S' := (T29.setTop (mkF m 162 #[.val (.int i0), .val (.int i1), .val (.int i2), .val (.int i3), .unset, .unset, .unset] [(.int (24 : Int32)), (.ref b5), (.ref b5)]))) (fun _ kont => XS.dup X29.here hx rfl (hb hby at_159) rfl rfl (XS.bipush X29.here hx rfl (hb hby at_160) kont)) ?_
  refine own_go (S' := (T29.setTop (mkF m 164 #[.val (.int i0), .val (.int i1), .val (.int i2), .val (.int i3), .unset, .unset, .unset] [(.int (64975 : Int32)), (.int (24 : Int32)), (.ref b5), (.ref b5)]))) (X29.ldcInt hx hown (mvT hZ (hw _ (List.mem_of_getElem? (i := 3) rfl))) (g := (mkF m 162 #[.val (.int i0), .val (.int i1), .val (.int i2), .val (.int i3), .unset, .unset, .unset] [(.int (24 : Int32)), (.ref b5), (.ref b5)])) rfl (hb hby at_162)) ?_
  obtain ⟨kk30, vs30, cl30, Ar30, -, S30, -⟩ := id IA29
  obtain ⟨T30, h30, X30, e30, W30, st30⟩ := stI X29 hx hZ e29 Ar30 (j := (24 : Int32)) (inb_of S30 ⟨by decide, by decide⟩) (g := (mkF m 164 #[.val (.int i0), .val (.int i1), .val (.int i2), .val (.int i3), .unset, .unset, .unset] [(.int (64975 : Int32)), (.int (24 : Int32)), (.ref b5), (.ref b5)])) rfl rfl (hb hby at_164)
  have IA30 := own_IA_set IA29 ⟨by decide, by decide⟩ W30
  have N30 := Fr.snoc X30 N29 g_b5
  have Z30 : n0 ≤ h30.size := Nat.le_trans Z29 (Nat.le_of_eq W30.size.symm)
  refine own_go (S' := (T30.setTop (mkF m 165 #[.val (.int i0), .val (.int i1), .val (.int i2), .val (.int i3), .unset, .unset, .unset] [(.ref b5)]))) st30 ?_
  refine own_go (S' := (T30.setTop (mkF m 168 #[.val (.int i0), .val (.int i1), .val (.int i2), .val (.int i3), .unset, .unset, .unset] [(.int (25 : Int32)), (.ref b5), (.ref b5)]))) (fun _ kont => XS.dup X30.here hx rfl (hb hby at_165) rfl rfl (XS.bipush X30.here hx rfl (hb hby at_166) kont)) ?_
  refine own_go (S' := (T30.setTop (mkF m 170 #[.val (.int i0), .val (.int i1), .val (.int i2), .val (.int i3), .unset, .unset, .unset] [(.int (65008 : Int32)), (.int (25 : Int32)), (.ref b5), (.ref b5)]))) (X30.ldcInt hx hown (mvT hZ (hw _ (List.mem_of_getElem? (i := 4) rfl))) (g := (mkF m 168 #[.val (.int i0), .val (.int i1), .val (.int i2), .val (.int i3), .unset, .unset, .unset] [(.int (25 : Int32)), (.ref b5), (.ref b5)])) rfl (hb hby at_168)) ?_
  obtain ⟨kk31, vs31, cl31, Ar31, -, S31, -⟩ := id IA30
  obtain ⟨T31, h31, X31, e31, W31, st31⟩ := stI X30 hx hZ e30 Ar31 (j := (25 : Int32)) (inb_of S31 ⟨by decide, by decide⟩) (g := (mkF m 170 #[.val (.int i0), .val (.int i1), .val (.int i2), .val (.int i3), .unset, .unset, .unset] [(.int (65008 : Int32)), (.int (25 : Int32)), (.ref b5), (.ref b5)])) rfl rfl (hb hby at_170)
  have IA31 := own_IA_set IA30 ⟨by decide, by decide⟩ W31
  have N31 := Fr.snoc X31 N30 g_b5
  have Z31 : n0 ≤ h31.size := Nat.le_trans Z30 (Nat.le_of_eq W31.size.symm)
  refine own_go (S' := (T31.setTop (mkF m 171 #[.val (.int i0), .val (.int i1), .val (.int i2), .val (.int i3), .unset, .unset, .unset] [(.ref b5)]))) st31 ?_
  refine own_go (S' := (T31.setTop (mkF m 174 #[.val (.int i0), .val (.int i1), .val (.int i2), .val (.int i3), .unset, .unset, .unset] [(.int (26 : Int32)), (.ref b5), (.ref b5)]))) (fun _ kont => XS.dup X31.here hx rfl (hb hby at_171) rfl rfl (XS.bipush X31.here hx rfl (hb hby at_172) kont)) ?_
  refine own_go (S' := (T31.setTop (mkF m 176 #[.val (.int i0), .val (.int i1), .val (.int i2), .val (.int i3), .unset, .unset, .unset] [(.int (65533 : Int32)), (.int (26 : Int32)), (.ref b5), (.ref b5)]))) (X31.ldcInt hx hown (mvT hZ (hw _ (List.mem_of_getElem? (i := 5) rfl))) (g := (mkF m 174 #[.val (.int i0), .val (.int i1), .val (.int i2), .val (.int i3), .unset, .unset, .unset] [(.int (26 : Int32)), (.ref b5), (.ref b5)])) rfl (hb hby at_174)) ?_
  obtain ⟨kk32, vs32, cl32, Ar32, -, S32, -⟩ := id IA31
  obtain ⟨T32, h32, X32, e32, W32, st32⟩ := stI X31 hx hZ e31 Ar32 (j := (26 : Int32)) (inb_of S32 ⟨by decide, by decide⟩) (g := (mkF m 176 #[.val (.int i0), .val (.int i1), .val (.int i2), .val (.int i3), .unset, .unset, .unset] [(.int (65533 : Int32)), (.int (26 : Int32)), (.ref b5), (.ref b5)])) rfl rfl (hb hby at_176)
  have IA32 := own_IA_set IA31 ⟨by decide, by decide⟩ W32
  have N32 := Fr.snoc X32 N31 g_b5
  have Z32 : n0 ≤ h32.size := Nat.le_trans Z31 (Nat.le_of_eq W32.size.symm)
  refine own_go (S' := (T32.setTop (mkF m 177 #[.val (.int i0), .val (.int i1), .val (.int i2), .val (.int i3), .unset, .unset, .unset] [(.ref b5)]))) st32 ?_
  refine own_go (S' := (T32.setTop (mkF m 180 #[.val (.int i0), .val (.int i1), .val (.int i2), .val (.int i3), .unset, .unset, .unset] [(.int (27 : Int32)), (.ref b5), (.ref b5)]))) (fun _ kont => XS.dup X32.here hx rfl (hb hby at_177) rfl rfl (XS.bipush X32.here hx rfl (hb hby at_178) kont)) ?_
  refine own_go (S' := (T32.setTop (mkF m 182 #[.val (.int i0), .val (.int i1), .val (.int i2), .val (.int i3), .unset, .unset, .unset] [(.int (65536 : Int32)), (.int (27 : Int32)), (.ref b5), (.ref b5)]))) (X32.ldcInt hx hown (mvT hZ (hw _ (List.mem_of_getElem? (i := 6) rfl))) (g := (mkF m 180 #[.val (.int i0), .val (.int i1), .val (.int i2), .val (.int i3), .unset, .unset, .unset] [(.int (27 : Int32)), (.ref b5), (.ref b5)])) rfl (hb hby at_180)) ?_
  obtain ⟨kk33, vs33, cl33, Ar33, -, S33, -⟩ := id IA32
  obtain ⟨T33, h33, X33, e33, W33, st33⟩ := stI X32 hx hZ e32 Ar33 (j := (27 : Int32)) (inb_of S33 ⟨by decide, by decide⟩) (g := (mkF m 182 #[.val (.int i0), .val (.int i1), .val (.int i2), .val (.int i3), .unset, .unset, .unset] [(.int (65536 : Int32)), (.int (27 : Int32)), (.ref b5), (.ref b5)])) rfl rfl (hb hby at_182)
  have IA33 := own_IA_set IA32 ⟨by decide, by decide⟩ W33
  have N33 := Fr.snoc X33 N32 g_b5
  have Z33 : n0 ≤ h33.size := Nat.le_trans Z32 (Nat.le_of_eq W33.size.symm)
  refine own_go (S' := (T33.setTop (mkF m 183 #[.val (.int i0), .val (.int i1), .val (.int i2), .val (.int i3), .unset, .unset, .unset] [(.ref b5)]))) st33 ?_
  refine own_go (S' := (T33.setTop (mkF m 186 #[.val (.int i0), .val (.int i1), .val (.int i2), .val (.int i3), .unset, .unset, .unset] [(.int (28 : Int32)), (.ref b5), (.ref b5)]))) (fun _ kont => XS.dup X33.here hx rfl (hb hby at_183) rfl rfl (XS.bipush X33.here hx rfl (hb hby at_184) kont)) ?_
  refine own_go (S' := (T33.setTop (mkF m 188 #[.val (.int i0), .val (.int i1), .val (.int i2), .val (.int i3), .unset, .unset, .unset] [(.int (983039 : Int32)), (.int (28 : Int32)), (.ref b5), (.ref b5)]))) (X33.ldcInt hx hown (mvT hZ (hw _ (List.mem_of_getElem? (i := 7) rfl))) (g := (mkF m 186 #[.val (.int i0), .val (.int i1), .val (.int i2), .val (.int i3), .unset, .unset, .unset] [(.int (28 : Int32)), (.ref b5), (.ref b5)])) rfl (hb hby at_186)) ?_
  obtain ⟨kk34, vs34, cl34, Ar34, -, S34, -⟩ := id IA33
  obtain ⟨T34, h34, X34, e34, W34, st34⟩ := stI X33 hx hZ e33 Ar34 (j := (28 : Int32)) (inb_of S34 ⟨by decide, by decide⟩) (g := (mkF m 188 #[.val (.int i0), .val (.int i1), .val (.int i2), .val (.int i3), .unset, .unset, .unset] [(.int (983039 : Int32)), (.int (28 : Int32)), (.ref b5), (.ref b5)])) rfl rfl (hb hby at_188)
  have IA34 := own_IA_set IA33 ⟨by decide, by decide⟩ W34
  have N34 := Fr.snoc X34 N33 g_b5
  have Z34 : n0 ≤ h34.size := Nat.le_trans Z33 (Nat.le_of_eq W34.size.symm)
  refine own_go (S' := (T34.setTop (mkF m 189 #[.val (.int i0), .val (.int i1), .val (.int i2), .val (.int i3), .unset, .unset, .unset] [(.ref b5)]))) st34 ?_
  refine own_go (S' := (T34.setTop (mkF m 193 #[.val (.int i0), .val (.int i1), .val (.int i2), .val (.int i3), .unset, .unset, .unset] [(.int (0 : Int32)), (.int (29 : Int32)), (.ref b5), (.ref b5)]))) (fun _ kont => XS.dup X34.here hx rfl (hb hby at_189) rfl rfl (XS.bipush X34.here hx rfl (hb hby at_190) (XS.iconst X34.here hx rfl (hb hby at_192) kont))) ?_
  obtain ⟨kk35, vs35, cl35, Ar35, -, S35, -⟩ := id IA34
  obtain ⟨T35, h35, X35, e35, W35, st35⟩ := stI X34 hx hZ e34 Ar35 (j := (29 : Int32)) (inb_of S35 ⟨by decide, by decide⟩) (g := (mkF m 193 #[.val (.int i0), .val (.int i1), .val (.int i2), .val (.int i3), .unset, .unset, .unset] [(.int (0 : Int32)), (.int (29 : Int32)), (.ref b5), (.ref b5)])) rfl rfl (hb hby at_193)
  have IA35 := own_IA_set IA34 ⟨by decide, by decide⟩ W35
  have N35 := Fr.snoc X35 N34 g_b5
  have Z35 : n0 ≤ h35.size := Nat.le_trans Z34 (Nat.le_of_eq W35.size.symm)
  refine own_go (S' := (T35.setTop (mkF m 194 #[.val (.int i0), .val (.int i1), .val (.int i2), .val (.int i3), .unset, .unset, .unset] [(.ref b5)]))) st35 ?_
  refine own_go (S' := (T35.setTop (mkF m 199 #[.val (.int i0), .val (.int i1), .val (.int i2), .val (.int i3), .val (.ref b5), .unset, .unset] [(.int (i0 &&& (1 : Int32)))]))) (fun _ kont => XS.astore X35.here hx rfl (hb hby at_194) rfl rfl (l' := #[.val (.int i0), .val (.int i1), .val (.int i2), .val (.int i3), .val (.ref b5), .unset, .unset]) rfl (XS.iloadN X35.here hx rfl (hb hby at_196) rfl (XS.iconst X35.here hx rfl (hb hby at_197) (XS.iand X35.here hx rfl (hb hby at_198) rfl kont)))) ?_
  have Zl : n0 ≤ T35.heap.size := by rw [e35]; exact Z35
  have IAl : own_IA Z T35.heap b5 (30 : Int32) := by rw [e35]; exact IA35
  by_cases qm : (i0 &&& (1 : Int32)) = (0 : Int32)
  · refine own_go (S' := (T35.setTop (mkF m 208 #[.val (.int i0), .val (.int i1), .val (.int i2), .val (.int i3), .val (.ref b5), .unset, .unset] []))) (fun _ kont => XS.ifYes X35.here hx rfl (pc0 := 199) (pc' := 208) rfl (hb hby at_199) rfl ((if0 _ _).trans (teq qm).1) (by decide) (by decide) kont) ?_
    exact K208 _ _ _ X35 Zl N35 IAl
  · refine own_go (S' := (T35.setTop (mkF m 229 #[.val (.int i0), .val (.int i1), .val (.int i2), .val (.int i3), .val (.ref b5), .val (.int i3), .unset] []))) (fun _ kont => XS.ifNo X35.here hx rfl (hb hby at_199) rfl ((if0 _ _).trans (feq qm).1) (XS.iloadN X35.here hx rfl (hb hby at_202) rfl (XS.istore X35.here hx rfl (hb hby at_203) rfl (l' := #[.val (.int i0), .val (.int i1), .val (.int i2), .val (.int i3), .val (.ref b5), .val (.int i3), .unset]) rfl (XS.goto X35.here hx rfl (pc0 := 205) (pc' := 229) rfl (hb hby at_205) (by decide) (by decide) kont)))) ?_
    exact K229 _ _ _ _ _ (Or.inl rfl) X35 Zl N35
set_option maxRecDepth 65536 in
set_option maxHeartbeats 40000000 in
theorem comes_1 {Post : Tables → Env → Array Value → State → Outcome → State → Prop} (hpost : ∀ tb e args s v u, (limb_1_1.after args s (.returned v) u = true ∧ limb_1_2.after args s (.returned v) u = true ∧ True) → FrameEnd s (.returned v) u (Jvm.fieldLocs frame_1_writes args s ++ Jvm.arrayLocs frame_1_arrays args s ++ Jvm.staticLocs frame_1_statics s) 16 128 → Post tb e args s (.returned v) u) :
    ArmFor flags0 classFile x code maxLocals ret World_1 tables_1 room_1 Calls_1 rest_1 Pre_1 Post := by
  intro l hfl _ _ p e ha hc hk s m args below hf hA hF happ hP
  obtain ⟨hcalls, hrest, hpre⟩ := hP
  obtain ⟨-, -, -, hnamed, -, -, -, hat⟩ := (Spec.applies_iff hf).mp happ
  obtain ⟨hg, hn⟩ := and_e (Cond.before_iff.mp (show (Jvm.Cond.and given_1 narrow_1).before args s = true from hpre))
  obtain ⟨h1, h2⟩ := and_e hg
  obtain ⟨w0, w1, w2, w3, rfl⟩ : ∃ w0 w1 w2 w3 : Value, args = #[w0, w1, w2, w3] := by
    have hs : args.size = 4 := by simpa [Cond.value, given_1] using h1
    obtain ⟨L⟩ := args
    match L, hs with
    | [w0, w1, w2, w3], _ => exact ⟨w0, w1, w2, w3, rfl⟩
  have hw := fun d (hd : d ∈ tables_1) => atoms_spec (ws := Jvm.Cond.code x code maxLocals ret :: tables_1) hat d (List.mem_cons_of_mem _ hd)
  have hfit : Fit s := fun {y c} hc i hi => by
    obtain ⟨ha, rfl⟩ := Array.getElem?_eq_some_iff.mp hc
    have q := List.all_eq_true.mp ((Array.all_eq_true_iff_forall_mem.mp hF) _ (Array.getElem_mem ha)) i (List.mem_range.mpr hi)
    simpa [Array.getElem?_eq_getElem hi] using q
  obtain ⟨hk0, hr0⟩ := and_e h2
  obtain ⟨i0, ev0⟩ := is_v hk0
  obtain rfl : w0 = (.int i0) := Option.some.inj ev0
  obtain ⟨hk1, hr1⟩ := and_e hr0
  obtain ⟨i1, ev1⟩ := is_v hk1
  obtain rfl : w1 = (.int i1) := Option.some.inj ev1
  obtain ⟨hk2, hr2⟩ := and_e hr1
  obtain ⟨i2, ev2⟩ := is_v hk2
  obtain rfl : w2 = (.int i2) := Option.some.inj ev2
  obtain ⟨i3, ev3⟩ := is_v hr2
  obtain rfl : w3 = (.int i3) := Option.some.inj ev3
  obtain ⟨n, o, h1, h2, h3, _, L, rfl, ⟨rfl, N⟩, hq⟩ := rm0 l s _ hw tables_1 i0 i1 i2 i3 s.heap s.heap.size (Nat.le_refl _) p e ha hc hk s m _ below hf ((Spec.applies_iff_loose hf).mp happ).1 ⟨rfl, State.Warmed39.refl s, rfl⟩ trivial
  refine ⟨n, _, h1, h2, h3, hpost _ _ _ _ _ _ ⟨Cond.after_iff.mpr rfl, Cond.after_iff.mpr (eq_i res_at (Term.int_eval (1)) rfl), trivial⟩ ⟨hq.1, hq.2.1, (hq.2.2.sift fun y hy => Or.inr (N y hy)).mono (by decide) (by decide)⟩⟩
theorem main_1_1 : Claimed_1_1 := comes_1 fun _ _ _ _ _ _ h hF => ⟨h.1, hF⟩
theorem main_1_2 : Claimed_1_2 := comes_1 fun _ _ _ _ _ _ h hF => ⟨h.2.1, hF⟩
end Jvm.Pilot.@@N@@
namespace Jvm.Pilot.@@N@@
open Jvm Jvm.ClassFile Sem Op Lib Jvm.Free Jvm.Stand Jvm.Pilot.@@N@@.Jvm.D
/-! MADE BY PROGRAM (witnessworld.py) out of the Statement's table words and the real class files: 10 classes; the members and pool entries that the words name. The judged class is class 1, her method 2. -/
namespace start1
open Jvm.ClassFile
def u (s : String) : CpInfo := .utf8 (stringToUtf16 s)
/-- a pool by its gaps: so many unusable entries, then the entry; so many at the end -/
def gap : Nat → List CpInfo → List CpInfo
  | 0, r => r
  | n + 1, r => .unusable :: gap n r
def poolList (es : List (Nat × CpInfo)) (last : Nat) : List CpInfo := es.foldr (fun e r => gap e.1 (e.2 :: r)) (gap last [])
def pool (es : List (Nat × CpInfo)) (last : Nat) : Array CpInfo := ⟨poolList es last⟩
def fileOf (pool : Array CpInfo) (this : Nat) (attrs : Array Attribute := #[]) (ms : Array MethodInfo := #[]) (fl : Nat := 33) (sup : Nat := 0) (ifs : Array Nat := #[]) (fds : Array FieldInfo := #[]) : ClassFile where
  minorVersion := 0
  majorVersion := 65
  constantPool := pool
  accessFlags := fl
  thisClass := this
  superClass := sup
  interfaces := ifs
  fields := fds
  methods := ms
  attributes := attrs
def plain (name : String) (sup : Option ClassId) : Class where
  name := name
  kind := .ordinary
  loader := none
  accessFlags := 33
  super := sup
  interfaces := #[]
  cf := none
  fields := #[]
  methods := #[]
  instanceTypes := #[]
  staticTypes := #[]
  resolved := #[]
  callSites := []
  init := .initialized
  statics := none
  mirror := none

def pool0 : Array CpInfo := pool [(5, u "<init>"), (0, u "()V"), (1, .class_ 10), (1, u "java/lang/Object")] 113

def k0m0 : Method := { name := "<init>", desc := "()V", sig := { parameters := [], returnType := none }, accessFlags := 1, code := none }
/-- java/lang/Object -/
def k0 : Class := { plain "java/lang/Object" none with
  accessFlags := 33
  interfaces := #[]
  cf := some (fileOf pool0 8 #[] #[{ accessFlags := 1, nameIndex := 5, descriptorIndex := 6, attributes := #[] }] 33 0 #[] #[])
  fields := #[]
  methods := #[k0m0]
  instanceTypes := #[]
  staticTypes := #[]
  resolved := Array.replicate 124 none
  statics := none }

def pool1 : Array CpInfo := pool [(2, .class_ 4), (1, u "java/lang/Object"), (0, u "<init>"), (0, u "()V"), (0, .integer 55296), (0, .integer 63743), (0, .integer 64976), (0, .integer 65007), (0, .integer 65534), (0, .integer 65535), (0, .integer 983039), (0, .integer 55295), (0, .integer 63744), (0, .integer 64975), (0, .integer 65008), (0, .integer 65533), (0, .integer 65536), (0, .integer 2147483647), (0, .methodref 22 23), (0, .class_ 24), (0, .nameAndType 25 26), (0, u "com/example/umform/umform/model/tree/NameIsNameStartCharPinLaw"), (0, u "inGap"), (0, u "(I)Z"), (0, .methodref 28 29), (0, .class_ 30), (0, .nameAndType 31 26), (0, u "com/example/umform/umform/model/tree/Name"), (0, u "isNameStartChar"), (3, u "law"), (0, u "(IIII)Z")] 4

def k1m0 : Method := { name := "<init>", desc := "()V", sig := { parameters := [], returnType := none }, accessFlags := 2, code := none }
def k1c1 : Code := { maxStack := 2, maxLocals := 1, code := method_2_code, exceptionTable := #[], attributes := #[] }
def k1m1 : Method := { name := "inGap", desc := "(I)Z", sig := { parameters := [.int], returnType := some .boolean }, accessFlags := 10, code := some k1c1 }
def k1c2 : Code := { maxStack := 4, maxLocals := 7, code := code, exceptionTable := #[], attributes := #[] }
def k1m2 : Method := { name := "law", desc := "(IIII)Z", sig := { parameters := [.int, .int, .int, .int], returnType := some .boolean }, accessFlags := 9, code := some k1c2 }
/-- com/example/umform/umform/model/tree/NameIsNameStartCharPinLaw -/
def k1 : Class := { plain "com/example/umform/umform/model/tree/NameIsNameStartCharPinLaw" (some 0) with
  accessFlags := 49
  interfaces := #[]
  cf := some (fileOf pool1 22 #[] #[{ accessFlags := 2, nameIndex := 5, descriptorIndex := 6, attributes := #[] }, { accessFlags := 10, nameIndex := 25, descriptorIndex := 26, attributes := #[] }, { accessFlags := 9, nameIndex := 35, descriptorIndex := 36, attributes := #[] }] 49 2 #[] #[])
  fields := #[]
  methods := #[k1m0, k1m1, k1m2]
  instanceTypes := #[]
  staticTypes := #[]
  resolved := Array.replicate 41 none
  statics := none }

def pool2 : Array CpInfo := pool [(1, .class_ 2), (0, u "java/lang/Comparable"), (0, .class_ 4), (0, u "java/lang/Object")] 7

/-- java/lang/Comparable -/
def k2 : Class := { plain "java/lang/Comparable" (some 0) with
  accessFlags := 1537
  interfaces := #[]
  cf := some (fileOf pool2 1 #[] #[] 1537 3 #[] #[])
  fields := #[]
  methods := #[]
  instanceTypes := #[]
  staticTypes := #[]
  resolved := Array.replicate 12 none
  statics := none }

def pool3 : Array CpInfo := pool [(2, .class_ 4), (1, u "java/lang/Object"), (11, .class_ 18), (1, u "com/example/umform/umform/model/tree/Name"), (0, u "namespaceUri"), (0, u "Ljava/lang/String;"), (2, u "localName"), (2, u "prefix"), (68, u "isNameStartChar"), (0, u "(I)Z"), (8, .integer 55295), (0, .integer 63744), (0, .integer 64975), (0, .integer 65008), (0, .integer 65533), (0, .integer 65536), (0, .integer 983039), (14, .class_ 127), (0, u "java/lang/Comparable"), (0, u "XML_NAMESPACE"), (1, u "XMLNS_NAMESPACE")] 43

def k3c0 : Code := { maxStack := 2, maxLocals := 1, code := prog_102_method_12_code, exceptionTable := #[], attributes := #[] }
def k3m0 : Method := { name := "isNameStartChar", desc := "(I)Z", sig := { parameters := [.int], returnType := some .boolean }, accessFlags := 9, code := some k3c0 }
/-- com/example/umform/umform/model/tree/Name -/
def k3 : Class := { plain "com/example/umform/umform/model/tree/Name" (some 0) with
  accessFlags := 33
  interfaces := #[2]
  cf := some (fileOf pool3 16 #[] #[{ accessFlags := 9, nameIndex := 95, descriptorIndex := 96, attributes := #[] }] 33 2 #[126] #[{ accessFlags := 25, nameIndex := 128, descriptorIndex := 20, attributes := #[] }, { accessFlags := 25, nameIndex := 130, descriptorIndex := 20, attributes := #[] }, { accessFlags := 18, nameIndex := 19, descriptorIndex := 20, attributes := #[] }, { accessFlags := 18, nameIndex := 23, descriptorIndex := 20, attributes := #[] }, { accessFlags := 18, nameIndex := 26, descriptorIndex := 20, attributes := #[] }])
  fields := #[{ name := "XML_NAMESPACE", type := (.object "java/lang/String"), accessFlags := 25, slot := 0, constantValue := 0 }, { name := "XMLNS_NAMESPACE", type := (.object "java/lang/String"), accessFlags := 25, slot := 1, constantValue := 0 }, { name := "namespaceUri", type := (.object "java/lang/String"), accessFlags := 18, slot := 0, constantValue := 0 }, { name := "localName", type := (.object "java/lang/String"), accessFlags := 18, slot := 1, constantValue := 0 }, { name := "prefix", type := (.object "java/lang/String"), accessFlags := 18, slot := 2, constantValue := 0 }]
  methods := #[k3m0]
  instanceTypes := #[(.object "java/lang/String"), (.object "java/lang/String"), (.object "java/lang/String")]
  staticTypes := #[(.object "java/lang/String"), (.object "java/lang/String")]
  resolved := Array.replicate 174 none
  statics := none }

def pool4 : Array CpInfo := pool [(1, u "java/lang/Cloneable"), (0, .class_ 1), (0, u "java/lang/Object"), (0, .class_ 3)] 3

/-- java/lang/Cloneable -/
def k4 : Class := { plain "java/lang/Cloneable" (some 0) with
  accessFlags := 1537
  interfaces := #[]
  cf := some (fileOf pool4 2 #[] #[] 1537 4 #[] #[])
  fields := #[]
  methods := #[]
  instanceTypes := #[]
  staticTypes := #[]
  resolved := Array.replicate 8 none
  statics := none }

def pool5 : Array CpInfo := pool [(1, u "java/io/Serializable"), (0, .class_ 1), (0, u "java/lang/Object"), (0, .class_ 3)] 3

/-- java/io/Serializable -/
def k5 : Class := { plain "java/io/Serializable" (some 0) with
  accessFlags := 1537
  interfaces := #[]
  cf := some (fileOf pool5 2 #[] #[] 1537 4 #[] #[])
  fields := #[]
  methods := #[]
  instanceTypes := #[]
  staticTypes := #[]
  resolved := Array.replicate 8 none
  statics := none }

/-- the primitive byte -/
def k6 : Class := { plain "byte" none with kind := .primitive 'B', accessFlags := 0x411 }
/-- [B -/
def k7 : Class := { plain "[B" (some 0) with kind := .array 6 .byte, interfaces := #[4, 5], accessFlags := 1041 }

/-- the primitive int -/
def k8 : Class := { plain "int" none with kind := .primitive 'I', accessFlags := 0x411 }
/-- [I -/
def k9 : Class := { plain "[I" (some 0) with kind := .array 8 .int, interfaces := #[4, 5], accessFlags := 1041 }

def heap : Heap := #[]
def classes : Array Class := #[k0, k1, k2, k3, k4, k5, k6, k7, k8, k9]
def interned : List (Array UInt16 × Addr) := []
def slotsUsed : Nat := 0
def theMethod : MethodId := ⟨1, 2⟩
def args0 : Array Value := #[.int 5, .int 300, .int 7, .int 9]
def aboutOver (below : List Frame) : State where
  vm := { classes := classes, interned := interned.toArray }
  heap := heap
  slotsUsed := slotsUsed
  threads := #[{ frames := .invoking theMethod args0 :: below }]
def below0 : List Frame := [.native { method := ⟨0, 0⟩, args := #[] }]
def about1 : State := aboutOver below0
def p0 : Program := .bare "" "" ""
def e0 : Env := launch0.env 0 0 0
theorem w_frames : about1.frames = Frame.invoking theMethod args0 :: below0 := rfl
set_option maxRecDepth 65536 in
theorem w_args : argsFit about1.vm theMethod args0 = true := by decide +kernel
set_option maxRecDepth 65536 in
theorem w_heap : heapFits about1 = true := by decide +kernel
set_option maxRecDepth 65536 in
theorem w_runnable : about1.curStatus? = some .runnable := by decide +kernel
set_option maxRecDepth 65536 in
theorem w_alone : about1.alone = true := by decide +kernel
set_option maxRecDepth 65536 in
theorem w_named : about1.methodNamed? x = some theMethod := by decide +kernel
set_option maxRecDepth 65536 in
theorem w_hears : about1.hears theMethod below0 = true := by decide +kernel
set_option maxRecDepth 65536 in
theorem w_ripe : about1.ripe theMethod args0 below0 = true := by decide +kernel
theorem w_running : about1.status = .running := rfl
set_option maxRecDepth 65536 in
theorem w_room : about1.hasRoom e0.platform room_1 = true :=
  launch0.hasRoom_least _ room_1 (by decide +kernel) (by decide +kernel) (by decide +kernel) (by decide +kernel) (by decide +kernel) (by decide +kernel)
theorem allAtoms_all (ts : List Jvm.Cond) (a : Array Jvm.Value) (st : Jvm.State) : (allAtoms ts).before a st = ts.all (fun c => c.before a st) := by
  induction ts with
  | nil => rfl
  | cons c t ih =>
    show (Jvm.Cond.and c (allAtoms t)).before a st = _
    rw [Jvm.Cond.before_and, ih, List.all_cons]
def words1 : List Jvm.Cond := Jvm.Cond.code x code maxLocals ret :: tables_1
/-- a 'code' word, met by the world's own term for the bytes: nothing is compared byte by byte -/
theorem code_word {y : MethodName} {bytes : ByteArray} {mx : Nat} {rt : Option FieldType} {a : Array Value} {s : State} {m : MethodId} {meth : Method} {c : Code} (h1 : s.methodNamed? y = some m) (h2 : s.vm.method? m = some meth) (h3 : meth.code = some c) (h4 : c.code = bytes)
    (h5 : (c.maxLocals == mx && c.exceptionTable.isEmpty && decide (c.maxStack ≤ mostOperands) && decide (meth.sig.returnType = rt) && !meth.locks && decide (parseMethodDescriptor y.desc = some meth.sig)) = true) : (Jvm.Cond.code y bytes mx rt).before a s = true := by
  simp only [Bool.and_eq_true, beq_iff_eq, Bool.not_eq_true', decide_eq_true_eq] at h5
  obtain ⟨⟨⟨⟨⟨g1, g2⟩, g3⟩, g4⟩, g5⟩, g6⟩ := h5
  simp [Cond.before, Cond.holds, Cond.value, h1, h2, h3, h4, g1, g2, g3, g4, g5, g6]
def isCode : Jvm.Cond → Bool
  | .code _ _ _ _ => true
  | _ => false
theorem all_split {L : List Jvm.Cond} {P : Jvm.Cond → Bool} (h1 : L.all (fun c => isCode c || P c) = true) (h2 : ∀ c ∈ L.filter isCode, P c = true) : L.all P = true := by
  refine List.all_eq_true.mpr fun c hc => ?_
  have h := List.all_eq_true.mp h1 c hc
  rcases Bool.eq_false_or_eq_true (isCode c) with hi | hi
  · exact h2 c (List.mem_filter.mpr ⟨hc, hi⟩)
  · simpa [hi] using h
set_option maxRecDepth 65536 in
theorem w_c0 : (Jvm.Cond.code x code maxLocals ret).before args0 about1 = true := code_word (m := ⟨1, 2⟩) (meth := k1m2) (c := k1c2) (by decide +kernel) rfl rfl rfl (by decide +kernel)
set_option maxRecDepth 65536 in
theorem w_c1 : (Jvm.Cond.code ({ cls := "com/example/umform/umform/model/tree/NameIsNameStartCharPinLaw", name := "inGap", desc := "(I)Z" } : Jvm.MethodName) method_2_code (1 : Nat) (Option.some Jvm.ClassFile.FieldType.boolean)).before args0 about1 = true := code_word (m := ⟨1, 1⟩) (meth := k1m1) (c := k1c1) (by decide +kernel) rfl rfl rfl (by decide +kernel)
set_option maxRecDepth 65536 in
theorem w_c2 : (Jvm.Cond.code ({ cls := "com/example/umform/umform/model/tree/Name", name := "isNameStartChar", desc := "(I)Z" } : Jvm.MethodName) prog_102_method_12_code (1 : Nat) (Option.some Jvm.ClassFile.FieldType.boolean)).before args0 about1 = true := code_word (m := ⟨3, 0⟩) (meth := k3m0) (c := k3c0) (by decide +kernel) rfl rfl rfl (by decide +kernel)
def codes1 : List Jvm.Cond := [Jvm.Cond.code x code maxLocals ret, Jvm.Cond.code ({ cls := "com/example/umform/umform/model/tree/NameIsNameStartCharPinLaw", name := "inGap", desc := "(I)Z" } : Jvm.MethodName) method_2_code (1 : Nat) (Option.some Jvm.ClassFile.FieldType.boolean), Jvm.Cond.code ({ cls := "com/example/umform/umform/model/tree/Name", name := "isNameStartChar", desc := "(I)Z" } : Jvm.MethodName) prog_102_method_12_code (1 : Nat) (Option.some Jvm.ClassFile.FieldType.boolean)]
set_option maxRecDepth 65536 in
theorem codes_eq : words1.filter isCode = codes1 := rfl
theorem w_codes : ∀ c ∈ words1.filter isCode, c.before args0 about1 = true := by
  rw [codes_eq]
  intro c hc
  simp only [codes1, List.mem_cons, List.not_mem_nil, or_false] at hc
  rcases hc with rfl | rfl | rfl
  · exact w_c0
  · exact w_c1
  · exact w_c2
set_option maxRecDepth 65536 in
theorem w_t1 : (words1.take 24).all (fun c => isCode c || c.before args0 about1) = true := by decide +kernel
set_option maxRecDepth 65536 in
theorem w_t2 : (words1.drop 24).all (fun c => isCode c || c.before args0 about1) = true := by decide +kernel
theorem w_tables : (allAtoms (Jvm.Cond.code x code maxLocals ret :: tables_1)).before args0 about1 = true := by
  rw [allAtoms_all]
  show words1.all (fun c => c.before args0 about1) = true
  refine all_split ?_ w_codes
  rw [← List.take_append_drop 24 words1, List.all_append, w_t1, w_t2]
  rfl
set_option maxRecDepth 65536 in
theorem w_case : (Jvm.Cond.and given_1 narrow_1).before args0 about1 = true := by decide +kernel
theorem w_applies : (headSpec (Jvm.Cond.code x code maxLocals ret :: tables_1) room_1).applies x e0.platform about1 = true :=
  (Spec.applies_iff w_frames).mpr ⟨w_running, w_runnable, w_alone, w_named, w_hears, w_ripe, w_room, w_tables⟩
theorem atStart : AtStart classFile x code maxLocals ret World_1 tables_1 room_1 Calls_1 rest_1 Pre_1 launch0 p0 e0 about1 theMethod args0 below0 :=
  ⟨lists_1, trivial, launch0.admits_env _ _ _, launch0.least_env, fairChoices_fair.cas, fairChoices_fair.clock, w_frames, w_args, w_heap, w_applies, trivial, trivial, w_case⟩
end start1
theorem witness_1 : WitnessClaimed_1 := ⟨start1.p0, start1.e0, start1.about1, start1.theMethod, start1.args0, start1.below0, start1.atStart⟩
end Jvm.Pilot.@@N@@
