import JvmDerived
import JvmDerived.Pilot.@@N@@Statement
import JvmDerived.Pilot.@@N@@Code
set_option maxRecDepth 65536
set_option maxHeartbeats 40000000
set_option linter.unusedVariables false
set_option linter.unusedSimpArgs false
namespace Jvm.RoadKit
open Sem ClassFile Op Lib Jvm.Stand Jvm.Free Jvm.LawKit
section New
variable {p : Program} {l : Launch} {e : Env} {R : Room} {s : State} {m : MethodId} {args : Array Value} {below : List Frame} {meth : Method} {c : Code} {T : State} {locs : List Loc} {cells slots : Nat}
theorem retI (X : Stand p l e R s m args below meth c T locs cells slots) (hx : p.tables.exec = Jvm.exec) {pc : Nat} {Ls : Array Slot} {z : Int32} {rest : List Value} (hret : meth.sig.returnType = some .int) (hd : decode c.code pc = .ok (.ireturn, 1)) {fs : List Frame}
    (hl : ∀ (f : JFrame) (acts : List Action), f.method = m → f.locked = none → f.entered = [] → (doReturn e (T.setTop f) acts (some (.int z))).1 = T.setFrames fs) : Steps p.tables e below (T.setTop (mkF m pc Ls (.int z :: rest))) (T.setFrames fs) := by
  have hm' : T.vm.method? m = some meth := X.method'
  have hn : narrow .int (.int z) = .int z := rfl
  show Steps p.tables e below (T.setTop { method := m, pc := pc, locals := Ls, stack := _ :: rest, locked := none }) _
  jvm_step X.here [X.here.top, hx, hd, hm', hret, hn]
  first | (intro acts; rw [hl _ acts rfl rfl rfl]) | rw [hl _ _ rfl rfl rfl]
  exact Steps.refl _
end New
end Jvm.RoadKit
namespace Jvm.Pilot.@@N@@
open Jvm Jvm.ClassFile Sem Op Lib Jvm.Free Jvm.Stand Jvm.LawKit Jvm.RoadKit Bundle Jvm.Pilot.@@N@@.Jvm.D
section OwnGo
variable {p : Program} {l : Launch} {e : Env} {R : Room} {s : State} {m : MethodId} {args : Array Value} {below : List Frame} {meth : Method} {c : Code} {T : State} {locs : List Loc} {cells slots : Nat} {Q : Option Value → Heap → List Loc → Prop} {ck sk : Nat}
/-- from the state S the body comes to its end, and what it returns and leaves meets Q -/
def own_Go (p : Program) (e : Env) (below : List Frame) (s : State) (Q : Option Value → Heap → List Loc → Prop) (ck sk : Nat) (S : State) : Prop :=
  ∃ s₂ o, Steps p.tables e below S s₂ ∧ s₂.status = .running ∧ Ended s₂ below o ∧ ∃ v L, o = .returned v ∧ Q v s₂.heap L ∧ FrameEnd s o s₂ L ck sk
theorem own_go {S S' : State} (st : ∀ t, Steps p.tables e below S' t → Steps p.tables e below S t) (k : own_Go p e below s Q ck sk S') : own_Go p e below s Q ck sk S := by
  obtain ⟨a, b, h, r⟩ := k; exact ⟨a, b, st _ h, r⟩
theorem own_goT {S S' : State} (st : Steps p.tables e below S S') (k : own_Go p e below s Q ck sk S') : own_Go p e below s Q ck sk S := own_go (fun _ h => st.trans h) k
theorem own_retI (X : Stand p l e R s m args below meth c T locs cells slots) (hx : p.tables.exec = Jvm.exec) (hlk : meth.locks = false) {pc : Nat} {Ls : Array Slot} {z : Int32} {rest : List Value} (hret : meth.sig.returnType = some .int) (hd : decode c.code pc = .ok (.ireturn, 1)) (hc : cells ≤ ck) (hs : slots ≤ sk)
    (q : Q (some (.int z)) T.heap locs) : own_Go p e below s Q ck sk (T.setTop (mkF m pc Ls (.int z :: rest))) := by
  obtain ⟨fs, hr, hrun, hended, hW, hsame⟩ := X.leave (v := some (.int z)) (fun h => by rw [hret] at h; cases h) hlk
  exact ⟨_, _, retI X hx hret hd hr, hrun, hended, _, _, rfl, q, ⟨_, rfl⟩, hW, hsame.mono hc hs⟩
theorem own_retN (X : Stand p l e R s m args below meth c T locs cells slots) (hx : p.tables.exec = Jvm.exec) (hlk : meth.locks = false) {t : FieldType} {pc : Nat} {Ls : Array Slot} {z : Int32} {rest : List Value} (ht : t = .boolean ∨ t = .byte ∨ t = .char ∨ t = .short) (hret : meth.sig.returnType = some t) (hd : decode c.code pc = .ok (.ireturn, 1)) (hc : cells ≤ ck) (hs : slots ≤ sk)
    (q : Q (some (.int (nar t z))) T.heap locs) : own_Go p e below s Q ck sk (T.setTop (mkF m pc Ls (.int z :: rest))) := by
  obtain ⟨fs, hr, hrun, hended, hW, hsame⟩ := X.leave (v := some (.int (nar t z))) (fun h => by rw [hret] at h; cases h) hlk
  exact ⟨_, _, retN X hx hret ht hd hr, hrun, hended, _, _, rfl, q, ⟨_, rfl⟩, hW, hsame.mono hc hs⟩
theorem own_ret0 (X : Stand p l e R s m args below meth c T locs cells slots) (hx : p.tables.exec = Jvm.exec) (hlk : meth.locks = false) {pc : Nat} {Ls : Array Slot} (hret : meth.sig.returnType = none) (hd : decode c.code pc = .ok (.return_, 1)) (hc : cells ≤ ck) (hs : slots ≤ sk)
    (q : Q none T.heap locs) : own_Go p e below s Q ck sk (T.setTop (mkF m pc Ls [])) := by
  obtain ⟨fs, hr, hrun, hended, hW, hsame⟩ := X.leave (v := none) (fun _ => rfl) hlk
  exact ⟨_, _, X.returnOut hx hret hd hr, hrun, hended, _, _, rfl, q, ⟨_, rfl⟩, hW, hsame.mono hc hs⟩
theorem own_retA (X : Stand p l e R s m args below meth c T locs cells slots) (hx : p.tables.exec = Jvm.exec) (hlk : meth.locks = false) {t : FieldType} {pc : Nat} {Ls : Array Slot} {w : Value} (hw : w.isRef = true) (ht : t.isReference = true) (hret : meth.sig.returnType = some t) (hd : decode c.code pc = .ok (.areturn, 1)) (hc : cells ≤ ck) (hs : slots ≤ sk)
    (q : Q (some w) T.heap locs) : own_Go p e below s Q ck sk (T.setTop (mkF m pc Ls [w])) := by
  obtain ⟨fs, hr, hrun, hended, hW, hsame⟩ := X.leave (v := some w) (fun h => by rw [hret] at h; cases h) hlk
  exact ⟨_, _, X.areturnOut hx hw hret ht hd hr, hrun, hended, _, _, rfl, q, ⟨_, rfl⟩, hW, hsame.mono hc hs⟩
theorem own_retJ (X : Stand p l e R s m args below meth c T locs cells slots) (hx : p.tables.exec = Jvm.exec) (hlk : meth.locks = false) {pc : Nat} {Ls : Array Slot} {w : Int64} (hret : meth.sig.returnType = some .long) (hd : decode c.code pc = .ok (.lreturn, 1)) (hc : cells ≤ ck) (hs : slots ≤ sk)
    (q : Q (some (.long w)) T.heap locs) : own_Go p e below s Q ck sk (T.setTop (mkF m pc Ls [.long w])) := by
  obtain ⟨fs, hr, hrun, hended, hW, hsame⟩ := X.leave (v := some (.long w)) (fun h => by rw [hret] at h; cases h) hlk
  exact ⟨_, _, X.lreturnOut hx hret hd hr, hrun, hended, _, _, rfl, q, ⟨_, rfl⟩, hW, hsame.mono hc hs⟩
end OwnGo
theorem own_retD {p : Program} {l : Launch} {e : Env} {R : Room} {s : State} {m : MethodId} {args : Array Value} {below : List Frame} {meth : Method} {c : Code} {T : State} {locs : List Loc} {cells slots : Nat} {Q : Option Value → Heap → List Loc → Prop} {ck sk : Nat} (X : Stand p l e R s m args below meth c T locs cells slots) (hx : p.tables.exec = Jvm.exec) (hlk : meth.locks = false) {pc : Nat} {Ls : Array Slot} {w : UInt64} (hret : meth.sig.returnType = some .double) (hd : decode c.code pc = .ok (.dreturn, 1)) (hc : cells ≤ ck) (hs : slots ≤ sk)
    (q : Q (some (.double w)) T.heap locs) : own_Go p e below s Q ck sk (T.setTop (mkF m pc Ls [.double w])) := by
  obtain ⟨fs, hr, hrun, hended, hW, hsame⟩ := X.leave (v := some (.double w)) (fun h => by rw [hret] at h; cases h) hlk
  exact ⟨_, _, retOut X hx hret rfl (Or.inr (Or.inr (Or.inl ⟨rfl, rfl, _, rfl⟩))) hd hr, hrun, hended, _, _, rfl, q, ⟨_, rfl⟩, hW, hsame.mono hc hs⟩
theorem own_leq {x y : Int64} (h : x = y) : lcmpW x y = 0 := (lw_eq x y).mpr h
theorem own_lne {x y : Int64} (h : ¬ x = y) : ¬ lcmpW x y = 0 := fun q => h ((lw_eq x y).mp q)
theorem own_llt {x y : Int64} (h : x < y) : lcmpW x y < 0 := (lw_lt x y).mpr h
theorem own_lnlt {x y : Int64} (h : ¬ x < y) : ¬ lcmpW x y < 0 := fun q => h ((lw_lt x y).mp q)
theorem own_lgt {x y : Int64} (h : y < x) : 0 < lcmpW x y := (lw_gt x y).mpr h
theorem own_lngt {x y : Int64} (h : ¬ y < x) : ¬ 0 < lcmpW x y := fun q => h ((lw_gt x y).mp q)
theorem own_ltr {x y : Int32} {k : Int} (h : x < y) (e : y.toInt = k) : x.toInt < k := by rw [← e]; exact Int32.lt_iff_toInt_lt.mp h
theorem own_ltl {x y : Int32} {k : Int} (h : x < y) (e : x.toInt = k) : k < y.toInt := by rw [← e]; exact Int32.lt_iff_toInt_lt.mp h
theorem own_nltr {x y : Int32} {k : Int} (h : ¬ x < y) (e : y.toInt = k) : k ≤ x.toInt := by rw [← e]; exact Int.not_lt.mp fun q => h (Int32.lt_iff_toInt_lt.mpr q)
theorem own_nltl {x y : Int32} {k : Int} (h : ¬ x < y) (e : x.toInt = k) : y.toInt ≤ k := by rw [← e]; exact Int.not_lt.mp fun q => h (Int32.lt_iff_toInt_lt.mpr q)
theorem own_eqr {x y : Int32} {k : Int} (h : x = y) (e : y.toInt = k) : x.toInt = k := by rw [← e, h]
theorem own_neqr {x y : Int32} {k : Int} (h : ¬ x = y) (e : y.toInt = k) : ¬ x.toInt = k := by rw [← e]; exact fun q => h (Int32.toInt_inj.mp q)
theorem own_selP {s : State} {args : Array Value} {y : MethodName} {n : Nat} (wi : (Jvm.Cond.instantiable y.cls n).before args s = true) (wp : (Jvm.Cond.privateMethod y).before args s = true) (wn : (Jvm.Cond.instanceMethod y).before args s = true) (hy : y.cls ≠ "java/lang/invoke/MethodHandle" ∧ y.cls ≠ "java/lang/invoke/VarHandle") : (Jvm.Cond.selects y.cls y y).before args s = true := by
  obtain ⟨c, k, h1, h2, -, h4, -⟩ := Cond.instantiable_spec wi
  exact Jvm.Stand.selects_self_of_private h1 h2 (Bool.or_eq_false_iff.mp h4).1 (Cond.privateMethod_at wp) wn hy
theorem own_eqInt {t : Term} {k : Int32} {args : Array Value} {s : State} (h : (Jvm.Cond.eq t (Term.int k)).value args s none s [] = some true) : t.eval args s none [] s = some (.int k) := by
  have hk : (Term.int k).eval args s none [] s = some (.int k) := rfl
  cases ht : t.eval args s none [] s with
  | none => simp [Jvm.Cond.value, ht] at h
  | some v => cases v <;> simp [Jvm.Cond.value, ht, hk] at h; rw [h]
abbrev vI (x : Int32) : Slot := .val (.int x)
abbrev vR (x : Addr) : Slot := .val (.ref x)
abbrev oU : Slot := .unset
abbrev C1 : ByteArray := prog_60_method_9_code
abbrev C2 : ByteArray := prog_60_method_10_code
abbrev C3 : ByteArray := prog_60_method_2_code
abbrev C5 : ByteArray := prog_60_method_7_code
abbrev C6 : ByteArray := prog_60_method_4_code
abbrev C7 : ByteArray := prog_60_method_8_code
abbrev C8 : ByteArray := prog_60_method_6_code
abbrev C9 : ByteArray := prog_60_method_13_code
abbrev C10 : ByteArray := prog_60_method_17_code
abbrev C11 : ByteArray := jdk_42_method_10_code
abbrev C12 : ByteArray := jdk_31_method_10_code
abbrev C13 : ByteArray := jdk_42_method_157_code
abbrev C14 : ByteArray := jdk_41_method_13_code
abbrev C15 : ByteArray := jdk_123_method_3_code
abbrev C16 : ByteArray := jdk_65_method_132_code
abbrev C17 : ByteArray := jdk_65_method_133_code
abbrev C18 : ByteArray := jdk_65_method_131_code
abbrev C19 : ByteArray := jdk_29_method_69_code
abbrev C20 : ByteArray := jdk_42_method_54_code
abbrev C21 : ByteArray := jdk_42_method_152_code
abbrev C22 : ByteArray := jdk_42_method_56_code
abbrev C23 : ByteArray := jdk_42_method_154_code
abbrev C24 : ByteArray := jdk_43_method_2_code
abbrev C25 : ByteArray := jdk_42_method_155_code
abbrev C26 : ByteArray := jdk_41_method_11_code
abbrev C27 : ByteArray := jdk_52_method_2_code
abbrev C28 : ByteArray := jdk_52_method_3_code
abbrev C29 : ByteArray := jdk_43_method_50_code
abbrev C30 : ByteArray := jdk_52_method_86_code
abbrev C31 : ByteArray := jdk_52_method_94_code
abbrev C32 : ByteArray := jdk_52_method_6_code
abbrev C33 : ByteArray := jdk_42_method_38_code
abbrev C34 : ByteArray := jdk_42_method_37_code
abbrev C35 : ByteArray := jdk_42_method_32_code
abbrev C36 : ByteArray := jdk_89_method_13_code
abbrev C37 : ByteArray := jdk_89_method_28_code
abbrev C38 : ByteArray := jdk_52_method_4_code
abbrev C39 : ByteArray := jdk_89_method_29_code
abbrev C40 : ByteArray := jdk_65_method_121_code
abbrev C41 : ByteArray := jdk_52_method_83_code
abbrev C42 : ByteArray := jdk_52_method_91_code
abbrev C43 : ByteArray := jdk_52_method_5_code
abbrev C44 : ByteArray := jdk_42_method_35_code
abbrev C45 : ByteArray := jdk_42_method_30_code
abbrev C46 : ByteArray := jdk_42_method_36_code
abbrev C47 : ByteArray := jdk_89_method_16_code
abbrev C48 : ByteArray := jdk_42_method_29_code
abbrev C49 : ByteArray := jdk_42_method_11_code
theorem own_rc {v : Value} (h : v.isRef = true) : v = .null ∨ ∃ a, v = .ref a := by
  cases v <;> first | exact Or.inl rfl | exact Or.inr ⟨_, rfl⟩ | exact absurd h (by decide) | cases h
def oW (a0 : Array Value) (Z : State) : Prop := ∀ d ∈ tables_1, d.before a0 Z = true
theorem oH {a0 : Array Value} {Z : State} (hw : oW a0 Z) (i : Nat) {d : Jvm.Cond} (h : tables_1[i]? = some d) : d.before a0 Z = true := hw _ (List.mem_of_getElem? h)
abbrev own_K (l : Launch) (y : MethodName) (bytes : ByteArray) (maxL : Nat) (ret : Option FieldType) (ws : List Jvm.Cond) (rm : Room) (Z : State) (h0 : Heap) (as' : Array Value) (Q : Option Value → Heap → List Loc → Prop) : Prop :=
  MetFree l y (head1 (Jvm.Cond.code y bytes maxL ret :: ws) rm) (fun a U => a = as' ∧ Z.Warmed39 U.vm ∧ U.heap = h0) (fun _ _ _ _ _ => True) (fun _ U o U' => ∃ v L, o = .returned v ∧ Q v U'.heap L ∧ FrameEnd U o U' L rm.cells rm.slots)
theorem own_met {l : Launch} {y : MethodName} {bytes : ByteArray} {maxL : Nat} {ret : Option FieldType} {ws : List Jvm.Cond} {rm : Room} {Z : State} {h0 : Heap} {as' : Array Value} {Q : Option Value → Heap → List Loc → Prop} (pl : plainFor y = true)
    (H : ∀ (p : Program) (e : Env) (s : State) (m : MethodId) (below : List Frame) (meth : Method) (c : Code) (s₁ : State), p.tables.exec = Jvm.exec → c.code = bytes → meth.locks = false → c.maxLocals = maxL → s.vm.findClass y.cls = some m.cls → meth.name = y.name → meth.sig.returnType = ret → Z.Warmed39 s.vm → s.heap = h0 → Stand p l e rm s m as' below meth c s₁ [] 0 0 → s₁.heap = h0 → own_Go p e below s Q rm.cells rm.slots (s₁.setTop (entryFrame m as' maxL))) : own_K l y bytes maxL ret ws rm Z h0 as' Q := by
  refine MetFree.of_bodySF pl hisR ?_
  intro p e s m args below meth c s₁ Bd hml0 hP hK
  obtain ⟨rfl, hZ, hh⟩ := hP
  exact H p e s m below meth c s₁ Bd.exec Bd.bytes Bd.notSynchronized hml0 (findClass_of_methodNamed Bd.named) (name_of_methodNamed Bd.named Bd.method).1 Bd.returns hZ hh (Stand.of_body Bd) (by rw [← hh, Bd.state]; rfl)
theorem oG {p : Program} {e : Env} {s : State} {below : List Frame} {Q : Option Value → Heap → List Loc → Prop} {ck sk : Nat} {S : State} (m : MethodId) (T : State) (pc : Nat) (Ls : Array Slot) (vs : List Value) (st : ∀ t, Steps p.tables e below (T.setTop (mkF m pc Ls vs)) t → Steps p.tables e below S t) (k : own_Go p e below s Q ck sk (T.setTop (mkF m pc Ls vs))) : own_Go p e below s Q ck sk S := own_go st k
theorem own_cS {p : Program} {l : Launch} {e : Env} {R : Room} {s : State} {m : MethodId} {args : Array Value} {below : List Frame} {meth : Method} {c : Code} {T : State} {locs : List Loc} {cells slots : Nat} (X : Stand p l e R s m args below meth c T locs cells slots) (hx : p.tables.exec = Jvm.exec) {Z : State} {a0 : Array Value} {h : Heap} (hZ : Z.Warmed39 s.vm) {own : String} {index : Nat} {y : MethodName} {bytes : ByteArray} {maxL : Nat} {ret : Option FieldType} {rm : Room} {as' : Array Value} {Q : Option Value → Heap → List Loc → Prop} (hown : s.vm.findClass own = some m.cls)
    (w1 : (Jvm.Cond.methodLink own index y).before a0 Z = true) (w2 : (Jvm.Cond.static y).before a0 Z = true) (w3 : (Jvm.Cond.initialized y.cls).before a0 Z = true) (w4 : (Jvm.Cond.code y bytes maxL ret).before a0 Z = true) (hy : y.cls ≠ "java/lang/invoke/MethodHandle" ∧ y.cls ≠ "java/lang/invoke/VarHandle") (hM : own_K l y bytes maxL ret [] rm Z h as' Q) {W : Nat} (hf : rm.frames + 1 ≤ R.frames) (hl : W + (maxL + 11) + rm.locals ≤ R.locals)
    {g : JFrame} (hg : g.method = m) (hsize : g.locals.size = c.maxLocals) {argsL rest : List Value} (hlen : ∀ sig, parseMethodDescriptor y.desc = some sig → argsL.length = sig.parameters.length) (hstack : g.stack = argsL.reverse ++ rest) (hm0 : g.monitorRoom = 0) (hWs : (rest.map fun v => v.category).sum = W) (hdg : decode c.code g.pc = .ok (.invokestatic index, 3)) (eT : T.heap = h) (has : argsL.toArray = as') (hc : cells + rm.cells ≤ R.cells) (hs : slots + rm.slots ≤ R.slots) :
    ∃ v T' L, Stand p l e R s m args below meth c T' (locs ++ L) (cells + rm.cells) (slots + rm.slots) ∧ Q v T'.heap L ∧ ∀ t, Steps p.tables e below (T'.setTop { g with pc := g.pc + 3, stack := v.toList ++ rest }) t → Steps p.tables e below (T.setTop g) t := by
  obtain ⟨v, _, ⟨T', L', k, n⟩, -, X', ⟨L, hQ, e1, e2, e3⟩, st⟩ := Jvm.LawKit.callS X hx (y := y) hown (mvT hZ w1) (mvT hZ w2) (mvT hZ w3) (mvT hZ w4) hy (backOf (W := W) hM hZ w4 w3 hf hl) hg hsize (argsL := argsL) (rest := rest) hlen hstack (by omega) hdg (fun _ _ => ⟨has, eT, hc, hs⟩)
  dsimp only [Pt.U, Pt.locs, Pt.cells, Pt.slots] at X' e1 e2 e3 st hQ
  subst e1 e2 e3
  exact ⟨v, T', L, X', hQ, st⟩
def own_QP (h0 : Heap) (x v : Option Value) (h : Heap) (L : List Loc) : Prop := v = x ∧ h = h0 ∧ L = []
theorem own_cP {p : Program} {l : Launch} {e : Env} {R : Room} {s : State} {m : MethodId} {args : Array Value} {below : List Frame} {meth : Method} {c : Code} {T : State} {locs : List Loc} {cells slots : Nat} (X : Stand p l e R s m args below meth c T locs cells slots) (hx : p.tables.exec = Jvm.exec) {Z : State} {a0 : Array Value} {h : Heap} (hZ : Z.Warmed39 s.vm) {own : String} {index : Nat} {y : MethodName} {bytes : ByteArray} {maxL : Nat} {ret : Option FieldType} {rm : Room} {as' : Array Value} {x : Option Value} (hown : s.vm.findClass own = some m.cls)
    (w1 : (Jvm.Cond.methodLink own index y).before a0 Z = true) (w2 : (Jvm.Cond.static y).before a0 Z = true) (w3 : (Jvm.Cond.initialized y.cls).before a0 Z = true) (w4 : (Jvm.Cond.code y bytes maxL ret).before a0 Z = true) (hy : y.cls ≠ "java/lang/invoke/MethodHandle" ∧ y.cls ≠ "java/lang/invoke/VarHandle") (hM : own_K l y bytes maxL ret [] rm Z h as' (own_QP h x)) {W : Nat} (hf : rm.frames + 1 ≤ R.frames) (hl : W + (maxL + 11) + rm.locals ≤ R.locals)
    {g : JFrame} (hg : g.method = m) (hsize : g.locals.size = c.maxLocals) {argsL rest : List Value} (hlen : ∀ sig, parseMethodDescriptor y.desc = some sig → argsL.length = sig.parameters.length) (hstack : g.stack = argsL.reverse ++ rest) (hm0 : g.monitorRoom = 0) (hWs : (rest.map fun v => v.category).sum = W) (hdg : decode c.code g.pc = .ok (.invokestatic index, 3)) (eT : T.heap = h) (has : argsL.toArray = as') (hc : rm.cells = 0) (hs : rm.slots = 0) (hc2 : cells ≤ R.cells) (hs2 : slots ≤ R.slots) :
    ∃ T', Stand p l e R s m args below meth c T' locs cells slots ∧ T'.heap = h ∧ ∀ t, Steps p.tables e below (T'.setTop { g with pc := g.pc + 3, stack := x.toList ++ rest }) t → Steps p.tables e below (T.setTop g) t := by
  obtain ⟨v, T', L, X', ⟨e1, e2, e3⟩, st⟩ := own_cS X hx hZ hown w1 w2 w3 w4 hy hM hf hl hg hsize hlen hstack hm0 hWs hdg eT has (by rw [hc]; exact hc2) (by rw [hs]; exact hs2)
  subst e1 e3
  rw [hc, hs, List.append_nil] at X'
  exact ⟨T', X', e2, st⟩
def own_hi (x : Int32) : Int32 := (nar .byte ((x >>> ((0 : Int32) &&& 31)).toInt8.toInt32))
def own_lo (x : Int32) : Int32 := (nar .byte ((x >>> ((8 : Int32) &&& 31)).toInt8.toInt32))
def own_Sx (Z : State) (h : Heap) (u8 : Addr) (zc : Int32) (fv : Value) : Prop := (Sta Z h "java/nio/charset/StandardCharsets" "UTF_8" "Ljava/nio/charset/Charset;" (.ref u8) ∧ Sta Z h "sun/nio/cs/UTF_8" "INSTANCE" "Lsun/nio/cs/UTF_8;" (.ref u8) ∧ Sta Z h "java/lang/String" "COMPACT_STRINGS" "Z" (.int zc) ∧ Sta Z h "jdk/internal/util/Preconditions" "SIOOBE_FORMATTER" "Ljava/util/function/BiFunction;" fv ∧ Sta Z h "java/lang/StringUTF16" "$assertionsDisabled" "Z" (.int 1) ∧ Sta Z h "java/lang/StringUTF16" "HI_BYTE_SHIFT" "I" (.int 0) ∧ Sta Z h "java/lang/StringUTF16" "LO_BYTE_SHIFT" "I" (.int 8)) ∧ Exa Z h u8 "sun/nio/cs/UTF_8" ∧ ¬ zc = 0 ∧ fv.isRef = true ∧ fv.category = 1
theorem own_Sx.sU {Z : State} {h : Heap} {u8 : Addr} {zc : Int32} {fv : Value} (S : own_Sx Z h u8 zc fv) : Sta Z h "java/nio/charset/StandardCharsets" "UTF_8" "Ljava/nio/charset/Charset;" (.ref u8) := S.1.1
theorem own_Sx.sI {Z : State} {h : Heap} {u8 : Addr} {zc : Int32} {fv : Value} (S : own_Sx Z h u8 zc fv) : Sta Z h "sun/nio/cs/UTF_8" "INSTANCE" "Lsun/nio/cs/UTF_8;" (.ref u8) := S.1.2.1
theorem own_Sx.sC {Z : State} {h : Heap} {u8 : Addr} {zc : Int32} {fv : Value} (S : own_Sx Z h u8 zc fv) : Sta Z h "java/lang/String" "COMPACT_STRINGS" "Z" (.int zc) := S.1.2.2.1
theorem own_Sx.sF {Z : State} {h : Heap} {u8 : Addr} {zc : Int32} {fv : Value} (S : own_Sx Z h u8 zc fv) : Sta Z h "jdk/internal/util/Preconditions" "SIOOBE_FORMATTER" "Ljava/util/function/BiFunction;" fv := S.1.2.2.2.1
theorem own_Sx.sA {Z : State} {h : Heap} {u8 : Addr} {zc : Int32} {fv : Value} (S : own_Sx Z h u8 zc fv) : Sta Z h "java/lang/StringUTF16" "$assertionsDisabled" "Z" (.int 1) := S.1.2.2.2.2.1
theorem own_Sx.sH {Z : State} {h : Heap} {u8 : Addr} {zc : Int32} {fv : Value} (S : own_Sx Z h u8 zc fv) : Sta Z h "java/lang/StringUTF16" "HI_BYTE_SHIFT" "I" (.int 0) := S.1.2.2.2.2.2.1
theorem own_Sx.sL {Z : State} {h : Heap} {u8 : Addr} {zc : Int32} {fv : Value} (S : own_Sx Z h u8 zc fv) : Sta Z h "java/lang/StringUTF16" "LO_BYTE_SHIFT" "I" (.int 8) := S.1.2.2.2.2.2.2
theorem own_Sx.eu {Z : State} {h : Heap} {u8 : Addr} {zc : Int32} {fv : Value} (S : own_Sx Z h u8 zc fv) : Exa Z h u8 "sun/nio/cs/UTF_8" := S.2.1
theorem own_Sx.nz {Z : State} {h : Heap} {u8 : Addr} {zc : Int32} {fv : Value} (S : own_Sx Z h u8 zc fv) : ¬ zc = 0 := S.2.2.1
theorem own_Sx.fr {Z : State} {h : Heap} {u8 : Addr} {zc : Int32} {fv : Value} (S : own_Sx Z h u8 zc fv) : fv.isRef = true := S.2.2.2.1
theorem own_Sx.fc {Z : State} {h : Heap} {u8 : Addr} {zc : Int32} {fv : Value} (S : own_Sx Z h u8 zc fv) : fv.category = 1 := S.2.2.2.2
theorem own_Sx.ext {Z : State} {h h' : Heap} {u8 : Addr} {zc : Int32} {fv : Value} (S : own_Sx Z h u8 zc fv) (E : Ext h h') : own_Sx Z h' u8 zc fv := ⟨⟨S.sU.ext E, S.sI.ext E, S.sC.ext E, S.sF.ext E, S.sA.ext E, S.sH.ext E, S.sL.ext E⟩, S.eu.ext E, S.nz, S.fr, S.fc⟩
theorem own_Sx.wr {Z : State} {h h' : Heap} {u8 : Addr} {zc : Int32} {fv : Value} {a : Addr} {sl : Nat} {x : Value} (S : own_Sx Z h u8 zc fv) (W : Wr h h' a sl x) : own_Sx Z h' u8 zc fv := ⟨⟨S.sU.wr W, S.sI.wr W, S.sC.wr W, S.sF.wr W, S.sA.wr W, S.sH.wr W, S.sL.wr W⟩, S.eu.wr W, S.nz, S.fr, S.fc⟩
def own_ns (h : Heap) (a : Addr) : Prop := ∃ c : Cell, h[a]? = some c ∧ c.vm.isStatics = false
theorem own_ns0 {h : Heap} : ∀ x ∈ ([] : List Addr), own_ns h x := fun _ q => nomatch q
theorem own_nsS {h : Heap} {a : Addr} {ws : List Addr} (q : own_ns h a) (r : ∀ x ∈ ws, own_ns h x) : ∀ x ∈ a :: ws, own_ns h x := fun x hx => (List.mem_cons.mp hx).elim (fun e => by rw [e]; exact q) (r x)
theorem own_nsA {Z : State} {h : Heap} {a : Addr} {k : ClassId} {ty : FieldType} {z : Int32} {vs : List Value} {dv : Value} (V : Arv Z h a k ty z vs dv) : own_ns h a := by obtain ⟨c, A, -⟩ := V; exact ⟨c, A.1, A.plain⟩
theorem own_nsE {Z : State} {h : Heap} {a : Addr} {C : String} (E : Exa Z h a C) : own_ns h a := by obtain ⟨c, k, h1, -, -, h2, -⟩ := E; exact ⟨c, h1, h2⟩
theorem own_Stk {Z : State} {h h' : Heap} {C n d : String} {v : Value} {ws : List Addr} (F : Sta Z h C n d v) (K : Keep h h' ws) (q : ∀ x ∈ ws, own_ns h x) : Sta Z h' C n d v := by
  obtain ⟨cf, i, k, f, st, cell, h1, h2, h3, h4, h5, h6, r⟩ := F
  refine ⟨cf, i, k, f, st, cell, h1, h2, h3, h4, K.2.1 st cell h5 fun hm => ?_, h6, r⟩
  obtain ⟨c2, g1, g2⟩ := q st hm
  cases h5.symm.trans g1
  rw [h6] at g2; cases g2
theorem own_Sx.keep {Z : State} {h h' : Heap} {u8 : Addr} {zc : Int32} {fv : Value} {ws : List Addr} (S : own_Sx Z h u8 zc fv) (K : Keep h h' ws) (q : ∀ x ∈ ws, own_ns h x) : own_Sx Z h' u8 zc fv := ⟨⟨own_Stk S.sU K q, own_Stk S.sI K q, own_Stk S.sC K q, own_Stk S.sF K q, own_Stk S.sA K q, own_Stk S.sH K q, own_Stk S.sL K q⟩, S.eu.keep K, S.nz, S.fr, S.fc⟩
theorem own_neInt {t : Term} {k z : Int32} {args : Array Value} {s : State} (ev : t.eval args s none [] s = some (.int z)) (h : (Jvm.Cond.not (Jvm.Cond.eq t (Term.int k))).value args s none s [] = some true) : ¬ z = k := by
  intro q; subst q
  have hk : (Term.int z).eval args s none [] s = some (.int z) := rfl
  simp [Jvm.Cond.value, ev, hk] at h
theorem own_eqRef {t u : Term} {a : Addr} {args : Array Value} {s : State} (ev : t.eval args s none [] s = some (.ref a)) (h : (Jvm.Cond.eq t u).value args s none s [] = some true) : u.eval args s none [] s = some (.ref a) := by
  cases hu : u.eval args s none [] s with
  | none => simp [Jvm.Cond.value, ev, hu] at h
  | some v => cases v <;> simp [Jvm.Cond.value, ev, hu] at h; rw [h]
theorem own_isRef {t : Term} {args : Array Value} {s : State} (h : (Jvm.Cond.isRef t).value args s none s [] = some true) : ∃ v, t.eval args s none [] s = some v ∧ v.isRef = true ∧ v.category = 1 := by
  cases hu : t.eval args s none [] s with
  | none => simp [Jvm.Cond.value, hu] at h
  | some v => cases v <;> simp [Jvm.Cond.value, hu] at h <;> exact ⟨_, rfl, rfl, rfl⟩
theorem own_by (a : Int32) : ((nar .byte (a.toInt8.toInt32)) &&& (255 : Int32)).toInt = a.toInt % 256 := by
  have h1 := c_mask (nar .byte (a.toInt8.toInt32)) 255 8 (by decide) (by decide)
  have h2 := (c_i2b a).1
  have h3 : ((nar .byte (a.toInt8.toInt32)).toInt - a.toInt8.toInt32.toInt) % 256 = 0 := (c_i2b a.toInt8.toInt32).1
  omega
theorem own_byv (a : Int32) : ((nar .byte (a.toInt8.toInt32)).toInt - a.toInt) % 256 = 0 ∧ -128 ≤ (nar .byte (a.toInt8.toInt32)).toInt ∧ (nar .byte (a.toInt8.toInt32)).toInt < 128 := by
  have h2 := (c_i2b a).1
  have h3 : ((nar .byte (a.toInt8.toInt32)).toInt - a.toInt8.toInt32.toInt) % 256 = 0 ∧ -128 ≤ (nar .byte (a.toInt8.toInt32)).toInt ∧ (nar .byte (a.toInt8.toInt32)).toInt < 128 := c_i2b a.toInt8.toInt32
  omega
theorem own_or (a b : Int32) (k : Nat) (hk : k ≤ 31) (P : Int) (hP : P = (2 ^ k : Nat)) (ha : a.toInt % P = 0) (h0 : 0 ≤ b.toInt) (h1 : b.toInt < P) (hs0 : -2147483648 ≤ a.toInt + b.toInt) (hs : a.toInt + b.toInt < 2147483648) : (a ||| b).toInt = a.toInt + b.toInt := by
  have q := c_or a b k hk P hP ha h0 h1
  have r := rng32 (a ||| b)
  omega
theorem own_sh (x : Int32) : (x >>> ((6 : Int32) &&& 31)).toInt = x.toInt / 64 := by have := c_ishr x 6 6 (by decide); simpa using this
theorem own_sh12 (x : Int32) : (x >>> ((12 : Int32) &&& 31)).toInt = x.toInt / 4096 := by have := c_ishr x 12 12 (by decide); simpa using this
theorem own_sh18 (x : Int32) : (x >>> ((18 : Int32) &&& 31)).toInt = x.toInt / 262144 := by have := c_ishr x 18 18 (by decide); simpa using this
theorem own_m63 (x : Int32) : (x &&& (63 : Int32)).toInt = x.toInt % 64 := by have := c_mask x 63 6 (by decide) (by decide); simpa using this
theorem own_sl (x q : Int32) (k : Nat) (hk : q.toBitVec.toNat % 32 = k) (P : Int) (hP : P = (2 ^ k : Nat)) (h0 : -2147483648 ≤ x.toInt * P) (h1 : x.toInt * P < 2147483648) : (x <<< (q &&& 31)).toInt = x.toInt * P := by
  have a := c_ishl x q k hk
  rw [← hP] at a
  have r := rng32 (x <<< (q &&& 31))
  omega
/-- a byte that goes on -/
theorem own_cont (R : Int32) : (nar .byte (((128 : Int32) ||| (R &&& (63 : Int32))).toInt8.toInt32)).toInt = R.toInt % 64 - 128 := by
  have h := own_m63 R
  have k : (128 : Int32).toInt = 128 := by decide
  have o := own_or 128 (R &&& (63 : Int32)) 6 (by decide) 64 (by decide) (by decide) (by omega) (by omega) (by omega) (by omega)
  have b := own_byv ((128 : Int32) ||| (R &&& (63 : Int32)))
  omega
/-- the first byte: f its mark (a multiple of P), t what it is behind the cut to a byte -/
theorem own_lead (f R : Int32) (k : Nat) (hk : k ≤ 31) (P : Int) (hP : P = (2 ^ k : Nat)) (fi : Int) (hf : f.toInt = fi) (h1 : fi % P = 0) (h2 : 0 ≤ R.toInt) (h3 : R.toInt < P) (h4 : 0 ≤ fi ∧ fi < 65536) (h5 : P < 65536) (t : Int) (ht : (fi + R.toInt - t) % 256 = 0) (ht1 : -128 ≤ t) (ht2 : t < 128) : (nar .byte ((f ||| R).toInt8.toInt32)).toInt = t := by
  have o := own_or f R k hk P hP (by rw [hf]; exact h1) h2 h3 (by omega) (by omega)
  have b := own_byv (f ||| R)
  omega
theorem own_nch (x : Int32) (h0 : 0 ≤ x.toInt) (h1 : x.toInt < 65536) : nar .char x = x := by
  have q : ((nar .char x).toInt - x.toInt) % 65536 = 0 ∧ 0 ≤ (nar .char x).toInt ∧ (nar .char x).toInt < 65536 := c_i2c x
  rw [← Int32.toInt_inj]; omega
theorem own_i2c (x : Int32) (h0 : 0 ≤ x.toInt) (h1 : x.toInt < 65536) : x.toUInt32.toUInt16.toUInt32.toInt32 = x := own_nch x h0 h1
theorem own_hiv (x : Int32) : ((own_hi x) &&& (255 : Int32)).toInt = x.toInt % 256 := by
  have a := c_ishr x 0 0 (by decide)
  have b := own_by (x >>> ((0 : Int32) &&& 31))
  have d : (own_hi x) = nar .byte ((x >>> ((0 : Int32) &&& 31)).toInt8.toInt32) := rfl
  rw [d, b, a]; simp
theorem own_lov (x : Int32) : ((own_lo x) &&& (255 : Int32)).toInt = (x.toInt / 256) % 256 := by
  have a := c_ishr x 8 8 (by decide)
  have b := own_by (x >>> ((8 : Int32) &&& 31))
  have d : (own_lo x) = nar .byte ((x >>> ((8 : Int32) &&& 31)).toInt8.toInt32) := rfl
  rw [d, b, a]; simp
/-- what was put comes out -/
theorem own_gp (x : Int32) (h0 : 0 ≤ x.toInt) (h1 : x.toInt < 65536) : ((((own_hi x) &&& (255 : Int32)) <<< ((0 : Int32) &&& 31)) ||| (((own_lo x) &&& (255 : Int32)) <<< ((8 : Int32) &&& 31))).toUInt32.toUInt16.toUInt32.toInt32 = x := by
  have a := own_hiv x
  have b := own_lov x
  have s0 := own_sl ((own_hi x) &&& (255 : Int32)) 0 0 (by decide) 1 (by decide) (by omega) (by omega)
  have s8 := own_sl ((own_lo x) &&& (255 : Int32)) 8 8 (by decide) 256 (by decide) (by omega) (by omega)
  have o := own_or (((own_lo x) &&& (255 : Int32)) <<< ((8 : Int32) &&& 31)) (((own_hi x) &&& (255 : Int32)) <<< ((0 : Int32) &&& 31)) 8 (by decide) 256 (by decide) (by omega) (by omega) (by omega) (by omega) (by omega)
  have e : ((((own_hi x) &&& (255 : Int32)) <<< ((0 : Int32) &&& 31)) ||| (((own_lo x) &&& (255 : Int32)) <<< ((8 : Int32) &&& 31))) = x := by rw [← Int32.toInt_inj, Int32.or_comm]; omega
  rw [e]; exact own_i2c x h0 h1
theorem own_fin {P : Int32 → Prop} (lo : Int) (n : Nat) (h : ∀ i : Fin n, P (Int32.ofInt (lo + (i.val : Int)))) (x : Int32) (h0 : lo ≤ x.toInt) (h1 : x.toInt < lo + n) : P x := by
  have q : P (Int32.ofInt (lo + (((x.toInt - lo).toNat : Nat) : Int))) := h ⟨(x.toInt - lo).toNat, by omega⟩
  have e : lo + (((x.toInt - lo).toNat : Nat) : Int) = x.toInt := by omega
  rw [e, Int32.ofInt_toInt] at q
  exact q
theorem own_xo (x y : BitVec 32) (h : x &&& y = 0#32) : x ^^^ y = x ||| y := by
  apply BitVec.eq_of_getLsbD_eq
  intro i hi
  have q : (x &&& y).getLsbD i = (0#32).getLsbD i := by rw [h]
  rw [BitVec.getLsbD_and, BitVec.getLsbD_zero] at q
  rw [BitVec.getLsbD_xor, BitVec.getLsbD_or]
  revert q
  cases x.getLsbD i <;> cases y.getLsbD i <;> simp
theorem own_xv (a b m : Int32) (k : Nat) (hk : k ≤ 31) (hm : m.toBitVec.toNat = 2 ^ k - 1) (P : Int) (hP : P = (2 ^ k : Nat)) (ha : a.toInt % P = 0) (h0 : 0 ≤ b.toInt) (h1 : b.toInt < P) (hs0 : -2147483648 ≤ a.toInt + b.toInt) (hs : a.toInt + b.toInt < 2147483648) : (a ^^^ b).toInt = a.toInt + b.toInt := by
  have z : (0 : Int32).toInt = 0 := by decide
  have e1 : a &&& m = 0 := by rw [← Int32.toInt_inj, c_mask a m k hk hm, ← hP, z]; exact ha
  have e2 : b &&& m = b := by rw [← Int32.toInt_inj, c_mask b m k hk hm, ← hP]; exact Int.emod_eq_of_lt h0 h1
  have e3 : a &&& b = 0 := by
    have t : a &&& (b &&& m) = (a &&& m) &&& b := by rw [Int32.and_comm b m, Int32.and_assoc]
    rw [e2, e1] at t
    rw [t]; simp
  have e4 : a ^^^ b = a ||| b := by
    apply Int32.toBitVec_inj.mp
    rw [Int32.toBitVec_xor, Int32.toBitVec_or]
    exact own_xo _ _ (by rw [← Int32.toBitVec_and, e3]; rfl)
  rw [e4]; exact own_or a b k hk P hP ha h0 h1 hs0 hs
theorem own_ac2 (a b k x z : Int32) : ((a ^^^ x) ^^^ (b ^^^ z)) ^^^ k = ((a ^^^ b) ^^^ k) ^^^ (x ^^^ z) := by
  apply Int32.toBitVec_inj.mp
  simp only [Int32.toBitVec_xor]
  ac_rfl
theorem own_ac3 (a b d k x y z : Int32) : ((a ^^^ x) ^^^ (b ^^^ y)) ^^^ ((d ^^^ z) ^^^ k) = (((a ^^^ b) ^^^ d) ^^^ k) ^^^ ((x ^^^ y) ^^^ z) := by
  apply Int32.toBitVec_inj.mp
  simp only [Int32.toBitVec_xor]
  ac_rfl
theorem own_ac4 (a b d f k x y z t : Int32) : (((a ^^^ x) ^^^ (b ^^^ y)) ^^^ (d ^^^ z)) ^^^ ((f ^^^ t) ^^^ k) = ((((a ^^^ b) ^^^ d) ^^^ f) ^^^ k) ^^^ (((x ^^^ y) ^^^ z) ^^^ t) := by
  apply Int32.toBitVec_inj.mp
  simp only [Int32.toBitVec_xor]
  ac_rfl
theorem own_zx (x : Int32) : (0 : Int32) ^^^ x = x := by simp
def own_im3_39 (p0 : Int32) (p1 : Int32) (p2 : Int32) : Int32 := (1 : Int32)
def own_im3_17 (p0 : Int32) (p1 : Int32) (p2 : Int32) : Int32 := (if (p1 &&& (192 : Int32)) = (128 : Int32) then (if (p2 &&& (192 : Int32)) = (128 : Int32) then (0 : Int32) else own_im3_39 p0 p1 p2) else own_im3_39 p0 p1 p2)
def own_im3_0 (p0 : Int32) (p1 : Int32) (p2 : Int32) : Int32 := (if p0 = (-32 : Int32) then (if (p1 &&& (224 : Int32)) = (128 : Int32) then own_im3_39 p0 p1 p2 else own_im3_17 p0 p1 p2) else own_im3_17 p0 p1 p2)
theorem d45_39 : decode C45 39 = .ok (.iconst 1, 1) := by decide +kernel
theorem d45_40 : decode C45 40 = .ok (.goto 4, 3) := by decide +kernel
theorem d45_44 : decode C45 44 = .ok (.ireturn, 1) := by decide +kernel
theorem d45_17 : decode C45 17 = .ok (.iload_n 1, 1) := by decide +kernel
theorem d45_18 : decode C45 18 = .ok (.sipush 192, 3) := by decide +kernel
theorem d45_21 : decode C45 21 = .ok (.iand, 1) := by decide +kernel
theorem d45_22 : decode C45 22 = .ok (.sipush 128, 3) := by decide +kernel
theorem d45_25 : decode C45 25 = .ok (.if_icmp .ne 14, 3) := by decide +kernel
theorem d45_28 : decode C45 28 = .ok (.iload_n 2, 1) := by decide +kernel
theorem d45_29 : decode C45 29 = .ok (.sipush 192, 3) := by decide +kernel
theorem d45_32 : decode C45 32 = .ok (.iand, 1) := by decide +kernel
theorem d45_33 : decode C45 33 = .ok (.sipush 128, 3) := by decide +kernel
theorem d45_36 : decode C45 36 = .ok (.if_icmp .eq 7, 3) := by decide +kernel
theorem d45_43 : decode C45 43 = .ok (.iconst 0, 1) := by decide +kernel
theorem d45_0 : decode C45 0 = .ok (.iload_n 0, 1) := by decide +kernel
theorem d45_1 : decode C45 1 = .ok (.bipush (-32), 2) := by decide +kernel
theorem d45_3 : decode C45 3 = .ok (.if_icmp .ne 14, 3) := by decide +kernel
theorem d45_6 : decode C45 6 = .ok (.iload_n 1, 1) := by decide +kernel
theorem d45_7 : decode C45 7 = .ok (.sipush 224, 3) := by decide +kernel
theorem d45_10 : decode C45 10 = .ok (.iand, 1) := by decide +kernel
theorem d45_11 : decode C45 11 = .ok (.sipush 128, 3) := by decide +kernel
theorem d45_14 : decode C45 14 = .ok (.if_icmp .eq 25, 3) := by decide +kernel
theorem pn_22 : plainName "java/lang/String" = true := by first | (simp [plainName, overriddenIn]; done) | decide +kernel
theorem ef_rm45 (m : MethodId) (x0 : Int32) (x1 : Int32) (x2 : Int32) : entryFrame m #[(.int x0), (.int x1), (.int x2)] 3 = mkF m 0 #[vI x0, vI x1, vI x2] [] := by first | (simp [entryFrame, mkF, argsToLocals, Value.category]; done) | rfl
def Q_rm45 (Z : State) (p0 : Int32) (p1 : Int32) (p2 : Int32) (h0 : Heap) (n0 : Nat) (v : Option Value) (h : Heap) (L : List Loc) : Prop := v = some (.int (own_im3_0 p0 p1 p2)) ∧ h = h0 ∧ L = []
theorem rm45 (l : Launch) (Z : State) (a0 : Array Value) (hw : ∀ d ∈ tables_1, d.before a0 Z = true) (ws : List Jvm.Cond) (p0 : Int32) (p1 : Int32) (p2 : Int32) (h0 : Heap) (n0 : Nat) (Z0 : n0 ≤ h0.size)  :
    MetFree l (⟨"java/lang/String", "isMalformed3", "(III)Z"⟩ : MethodName) (head1 (Jvm.Cond.code (⟨"java/lang/String", "isMalformed3", "(III)Z"⟩ : MethodName) jdk_42_method_30_code 3 (some .boolean) :: ws) ({ frames := 0, cells := 0, slots := 0, locals := 0 } : Room)) (fun a U => a = #[(.int p0), (.int p1), (.int p2)] ∧ Z.Warmed39 U.vm ∧ U.heap = h0) (fun _ _ _ _ _ => True) (fun _ U o U' => ∃ v L, o = .returned v ∧ Q_rm45 Z p0 p1 p2 h0 n0 v U'.heap L ∧ FrameEnd U o U' L ({ frames := 0, cells := 0, slots := 0, locals := 0 } : Room).cells ({ frames := 0, cells := 0, slots := 0, locals := 0 } : Room).slots) := by
  refine MetFree.of_bodySF (plainFor_of_name pn_22) hisR ?_
  intro p e s m args below meth c s₁ Bd hml0 hP hK
  obtain ⟨rfl, hZ, hh⟩ := hP
  have hx := Bd.exec
  have hby := Bd.bytes
  have hlk := Bd.notSynchronized
  have hml : c.maxLocals = 3 := hml0
  have hown : s.vm.findClass "java/lang/String" = some m.cls := findClass_of_methodNamed Bd.named
  have hnm := (name_of_methodNamed Bd.named Bd.method).1
  have X0 : Stand p l e ({ frames := 0, cells := 0, slots := 0, locals := 0 } : Room) s m #[(.int p0), (.int p1), (.int p2)] below meth c s₁ [] 0 0 := Stand.of_body Bd
  have e0 : s₁.heap = h0 := by rw [← hh, Bd.state]; rfl
  have N0 := Fr.nil n0
  change own_Go p e below s (Q_rm45 Z p0 p1 p2 h0 n0) ({ frames := 0, cells := 0, slots := 0, locals := 0 } : Room).cells ({ frames := 0, cells := 0, slots := 0, locals := 0 } : Room).slots _
  refine own_go (S' := (s₁.setTop (mkF m 0 #[vI p0, vI p1, vI p2] []))) (fun _ kont => castTop (ef_rm45 m p0 p1 p2) kont) ?_
  have K39 : own_Go p e below s (fun (v : Option Value) (h : Heap) (L : List Loc) => v = some (.int (own_im3_39 p0 p1 p2)) ∧ h = h0 ∧ L = []) ({ frames := 0, cells := 0, slots := 0, locals := 0 } : Room).cells ({ frames := 0, cells := 0, slots := 0, locals := 0 } : Room).slots (s₁.setTop (mkF m 39 #[vI p0, vI p1, vI p2] [])) := by
    refine oG m s₁ 44 #[vI p0,vI p1,vI p2] [(.int 1)] (fun _ k => XS.iconst X0.here hx rfl (hb hby d45_39) (XS.goto X0.here hx rfl (pc0 := 40) (pc' := 44) rfl (hb hby d45_40) (by decide) (by decide) k)) ?_
    refine own_retN (t := .boolean) X0 hx hlk (by simp) Bd.returns (hb hby d45_44) (by decide) (by decide) ?_
    exact ⟨rfl, e0, rfl⟩
  have K17 : own_Go p e below s (fun (v : Option Value) (h : Heap) (L : List Loc) => v = some (.int (own_im3_17 p0 p1 p2)) ∧ h = h0 ∧ L = []) ({ frames := 0, cells := 0, slots := 0, locals := 0 } : Room).cells ({ frames := 0, cells := 0, slots := 0, locals := 0 } : Room).slots (s₁.setTop (mkF m 17 #[vI p0, vI p1, vI p2] [])) := by
    refine oG m s₁ 25 #[vI p0,vI p1,vI p2] [(.int 128),(.int (p1 &&& (192 : Int32)))] (fun _ k => XS.iloadN X0.here hx rfl (hb hby d45_17) rfl (XS.sipush X0.here hx rfl (hb hby d45_18) (XS.iand X0.here hx rfl (hb hby d45_21) rfl (XS.sipush X0.here hx rfl (hb hby d45_22) k)))) ?_
    by_cases b25_1 : (p1 &&& (192 : Int32)) = (128 : Int32)
    · refine oG m s₁ 36 #[vI p0,vI p1,vI p2] [(.int 128),(.int (p2 &&& (192 : Int32)))] (fun _ k => XS.icmpNo X0.here hx rfl (hb hby d45_25) rfl (teq b25_1).2 (XS.iloadN X0.here hx rfl (hb hby d45_28) rfl (XS.sipush X0.here hx rfl (hb hby d45_29) (XS.iand X0.here hx rfl (hb hby d45_32) rfl (XS.sipush X0.here hx rfl (hb hby d45_33) k))))) ?_
      by_cases b36_2 : (p2 &&& (192 : Int32)) = (128 : Int32)
      · refine oG m s₁ 44 #[vI p0,vI p1,vI p2] [(.int 0)] (fun _ k => XS.icmpYes X0.here hx rfl (pc0 := 36) (pc' := 43) rfl (hb hby d45_36) rfl (teq b36_2).1 (by decide) (by decide) (XS.iconst X0.here hx rfl (hb hby d45_43) k)) ?_
        refine own_retN (t := .boolean) X0 hx hlk (by simp) Bd.returns (hb hby d45_44) (by decide) (by decide) ?_
        exact ⟨by unfold own_im3_17; rw [if_pos b25_1, if_pos b36_2] <;> rfl, e0, rfl⟩
      · refine oG m s₁ 39 #[vI p0,vI p1,vI p2] [] (fun _ k => XS.icmpNo X0.here hx rfl (hb hby d45_36) rfl (feq b36_2).1 k) ?_
        rw [show own_im3_17 p0 p1 p2 = own_im3_39 p0 p1 p2 from by unfold own_im3_17; rw [if_pos b25_1, if_neg b36_2]]
        exact K39
    · refine oG m s₁ 39 #[vI p0,vI p1,vI p2] [] (fun _ k => XS.icmpYes X0.here hx rfl (pc0 := 25) (pc' := 39) rfl (hb hby d45_25) rfl (feq b25_1).2 (by decide) (by decide) k) ?_
      rw [show own_im3_17 p0 p1 p2 = own_im3_39 p0 p1 p2 from by unfold own_im3_17; rw [if_neg b25_1]]
      exact K39
  show own_Go p e below s (fun (v : Option Value) (h : Heap) (L : List Loc) => v = some (.int (own_im3_0 p0 p1 p2)) ∧ h = h0 ∧ L = []) ({ frames := 0, cells := 0, slots := 0, locals := 0 } : Room).cells ({ frames := 0, cells := 0, slots := 0, locals := 0 } : Room).slots _
  refine oG m s₁ 3 #[vI p0,vI p1,vI p2] [(.int (-32 : Int32)),(.int p0)] (fun _ k => XS.iloadN X0.here hx rfl (hb hby d45_0) rfl (XS.bipush X0.here hx rfl (hb hby d45_1) k)) ?_
  by_cases b3_3 : p0 = (-32 : Int32)
  · refine oG m s₁ 14 #[vI p0,vI p1,vI p2] [(.int 128),(.int (p1 &&& (224 : Int32)))] (fun _ k => XS.icmpNo X0.here hx rfl (hb hby d45_3) rfl (teq b3_3).2 (XS.iloadN X0.here hx rfl (hb hby d45_6) rfl (XS.sipush X0.here hx rfl (hb hby d45_7) (XS.iand X0.here hx rfl (hb hby d45_10) rfl (XS.sipush X0.here hx rfl (hb hby d45_11) k))))) ?_
    by_cases b14_4 : (p1 &&& (224 : Int32)) = (128 : Int32)
    · refine oG m s₁ 39 #[vI p0,vI p1,vI p2] [] (fun _ k => XS.icmpYes X0.here hx rfl (pc0 := 14) (pc' := 39) rfl (hb hby d45_14) rfl (teq b14_4).1 (by decide) (by decide) k) ?_
      rw [show own_im3_0 p0 p1 p2 = own_im3_39 p0 p1 p2 from by unfold own_im3_0; rw [if_pos b3_3, if_pos b14_4]]
      exact K39
    · refine oG m s₁ 17 #[vI p0,vI p1,vI p2] [] (fun _ k => XS.icmpNo X0.here hx rfl (hb hby d45_14) rfl (feq b14_4).1 k) ?_
      rw [show own_im3_0 p0 p1 p2 = own_im3_17 p0 p1 p2 from by unfold own_im3_0; rw [if_pos b3_3, if_neg b14_4]]
      exact K17
  · refine oG m s₁ 17 #[vI p0,vI p1,vI p2] [] (fun _ k => XS.icmpYes X0.here hx rfl (pc0 := 3) (pc' := 17) rfl (hb hby d45_3) rfl (feq b3_3).2 (by decide) (by decide) k) ?_
    rw [show own_im3_0 p0 p1 p2 = own_im3_17 p0 p1 p2 from by unfold own_im3_0; rw [if_neg b3_3]]
    exact K17
def own_im4_33 (p0 : Int32) (p1 : Int32) (p2 : Int32) : Int32 := (1 : Int32)
def own_im4_0 (p0 : Int32) (p1 : Int32) (p2 : Int32) : Int32 := (if (p0 &&& (192 : Int32)) = (128 : Int32) then (if (p1 &&& (192 : Int32)) = (128 : Int32) then (if (p2 &&& (192 : Int32)) = (128 : Int32) then (0 : Int32) else own_im4_33 p0 p1 p2) else own_im4_33 p0 p1 p2) else own_im4_33 p0 p1 p2)
theorem d35_33 : decode C35 33 = .ok (.iconst 1, 1) := by decide +kernel
theorem d35_34 : decode C35 34 = .ok (.goto 4, 3) := by decide +kernel
theorem d35_38 : decode C35 38 = .ok (.ireturn, 1) := by decide +kernel
theorem d35_0 : decode C35 0 = .ok (.iload_n 0, 1) := by decide +kernel
theorem d35_1 : decode C35 1 = .ok (.sipush 192, 3) := by decide +kernel
theorem d35_4 : decode C35 4 = .ok (.iand, 1) := by decide +kernel
theorem d35_5 : decode C35 5 = .ok (.sipush 128, 3) := by decide +kernel
theorem d35_8 : decode C35 8 = .ok (.if_icmp .ne 25, 3) := by decide +kernel
theorem d35_11 : decode C35 11 = .ok (.iload_n 1, 1) := by decide +kernel
theorem d35_12 : decode C35 12 = .ok (.sipush 192, 3) := by decide +kernel
theorem d35_15 : decode C35 15 = .ok (.iand, 1) := by decide +kernel
theorem d35_16 : decode C35 16 = .ok (.sipush 128, 3) := by decide +kernel
theorem d35_19 : decode C35 19 = .ok (.if_icmp .ne 14, 3) := by decide +kernel
theorem d35_22 : decode C35 22 = .ok (.iload_n 2, 1) := by decide +kernel
theorem d35_23 : decode C35 23 = .ok (.sipush 192, 3) := by decide +kernel
theorem d35_26 : decode C35 26 = .ok (.iand, 1) := by decide +kernel
theorem d35_27 : decode C35 27 = .ok (.sipush 128, 3) := by decide +kernel
theorem d35_30 : decode C35 30 = .ok (.if_icmp .eq 7, 3) := by decide +kernel
theorem d35_37 : decode C35 37 = .ok (.iconst 0, 1) := by decide +kernel
theorem ef_rm35 (m : MethodId) (x0 : Int32) (x1 : Int32) (x2 : Int32) : entryFrame m #[(.int x0), (.int x1), (.int x2)] 3 = mkF m 0 #[vI x0, vI x1, vI x2] [] := by first | (simp [entryFrame, mkF, argsToLocals, Value.category]; done) | rfl
def Q_rm35 (Z : State) (p0 : Int32) (p1 : Int32) (p2 : Int32) (h0 : Heap) (n0 : Nat) (v : Option Value) (h : Heap) (L : List Loc) : Prop := v = some (.int (own_im4_0 p0 p1 p2)) ∧ h = h0 ∧ L = []
theorem rm35 (l : Launch) (Z : State) (a0 : Array Value) (hw : ∀ d ∈ tables_1, d.before a0 Z = true) (ws : List Jvm.Cond) (p0 : Int32) (p1 : Int32) (p2 : Int32) (h0 : Heap) (n0 : Nat) (Z0 : n0 ≤ h0.size)  :
    MetFree l (⟨"java/lang/String", "isMalformed4", "(III)Z"⟩ : MethodName) (head1 (Jvm.Cond.code (⟨"java/lang/String", "isMalformed4", "(III)Z"⟩ : MethodName) jdk_42_method_32_code 3 (some .boolean) :: ws) ({ frames := 0, cells := 0, slots := 0, locals := 0 } : Room)) (fun a U => a = #[(.int p0), (.int p1), (.int p2)] ∧ Z.Warmed39 U.vm ∧ U.heap = h0) (fun _ _ _ _ _ => True) (fun _ U o U' => ∃ v L, o = .returned v ∧ Q_rm35 Z p0 p1 p2 h0 n0 v U'.heap L ∧ FrameEnd U o U' L ({ frames := 0, cells := 0, slots := 0, locals := 0 } : Room).cells ({ frames := 0, cells := 0, slots := 0, locals := 0 } : Room).slots) := by
  refine MetFree.of_bodySF (plainFor_of_name pn_22) hisR ?_
  intro p e s m args below meth c s₁ Bd hml0 hP hK
  obtain ⟨rfl, hZ, hh⟩ := hP
  have hx := Bd.exec
  have hby := Bd.bytes
  have hlk := Bd.notSynchronized
  have hml : c.maxLocals = 3 := hml0
  have hown : s.vm.findClass "java/lang/String" = some m.cls := findClass_of_methodNamed Bd.named
  have hnm := (name_of_methodNamed Bd.named Bd.method).1
  have X0 : Stand p l e ({ frames := 0, cells := 0, slots := 0, locals := 0 } : Room) s m #[(.int p0), (.int p1), (.int p2)] below meth c s₁ [] 0 0 := Stand.of_body Bd
  have e0 : s₁.heap = h0 := by rw [← hh, Bd.state]; rfl
  have N0 := Fr.nil n0
  change own_Go p e below s (Q_rm35 Z p0 p1 p2 h0 n0) ({ frames := 0, cells := 0, slots := 0, locals := 0 } : Room).cells ({ frames := 0, cells := 0, slots := 0, locals := 0 } : Room).slots _
  refine own_go (S' := (s₁.setTop (mkF m 0 #[vI p0, vI p1, vI p2] []))) (fun _ kont => castTop (ef_rm35 m p0 p1 p2) kont) ?_
  have K33 : own_Go p e below s (fun (v : Option Value) (h : Heap) (L : List Loc) => v = some (.int (own_im4_33 p0 p1 p2)) ∧ h = h0 ∧ L = []) ({ frames := 0, cells := 0, slots := 0, locals := 0 } : Room).cells ({ frames := 0, cells := 0, slots := 0, locals := 0 } : Room).slots (s₁.setTop (mkF m 33 #[vI p0, vI p1, vI p2] [])) := by
    refine oG m s₁ 38 #[vI p0,vI p1,vI p2] [(.int 1)] (fun _ k => XS.iconst X0.here hx rfl (hb hby d35_33) (XS.goto X0.here hx rfl (pc0 := 34) (pc' := 38) rfl (hb hby d35_34) (by decide) (by decide) k)) ?_
    refine own_retN (t := .boolean) X0 hx hlk (by simp) Bd.returns (hb hby d35_38) (by decide) (by decide) ?_
    exact ⟨rfl, e0, rfl⟩
  show own_Go p e below s (fun (v : Option Value) (h : Heap) (L : List Loc) => v = some (.int (own_im4_0 p0 p1 p2)) ∧ h = h0 ∧ L = []) ({ frames := 0, cells := 0, slots := 0, locals := 0 } : Room).cells ({ frames := 0, cells := 0, slots := 0, locals := 0 } : Room).slots _
  refine oG m s₁ 8 #[vI p0,vI p1,vI p2] [(.int 128),(.int (p0 &&& (192 : Int32)))] (fun _ k => XS.iloadN X0.here hx rfl (hb hby d35_0) rfl (XS.sipush X0.here hx rfl (hb hby d35_1) (XS.iand X0.here hx rfl (hb hby d35_4) rfl (XS.sipush X0.here hx rfl (hb hby d35_5) k)))) ?_
  by_cases b8_1 : (p0 &&& (192 : Int32)) = (128 : Int32)
  · refine oG m s₁ 19 #[vI p0,vI p1,vI p2] [(.int 128),(.int (p1 &&& (192 : Int32)))] (fun _ k => XS.icmpNo X0.here hx rfl (hb hby d35_8) rfl (teq b8_1).2 (XS.iloadN X0.here hx rfl (hb hby d35_11) rfl (XS.sipush X0.here hx rfl (hb hby d35_12) (XS.iand X0.here hx rfl (hb hby d35_15) rfl (XS.sipush X0.here hx rfl (hb hby d35_16) k))))) ?_
    by_cases b19_2 : (p1 &&& (192 : Int32)) = (128 : Int32)
    · refine oG m s₁ 30 #[vI p0,vI p1,vI p2] [(.int 128),(.int (p2 &&& (192 : Int32)))] (fun _ k => XS.icmpNo X0.here hx rfl (hb hby d35_19) rfl (teq b19_2).2 (XS.iloadN X0.here hx rfl (hb hby d35_22) rfl (XS.sipush X0.here hx rfl (hb hby d35_23) (XS.iand X0.here hx rfl (hb hby d35_26) rfl (XS.sipush X0.here hx rfl (hb hby d35_27) k))))) ?_
      by_cases b30_3 : (p2 &&& (192 : Int32)) = (128 : Int32)
      · refine oG m s₁ 38 #[vI p0,vI p1,vI p2] [(.int 0)] (fun _ k => XS.icmpYes X0.here hx rfl (pc0 := 30) (pc' := 37) rfl (hb hby d35_30) rfl (teq b30_3).1 (by decide) (by decide) (XS.iconst X0.here hx rfl (hb hby d35_37) k)) ?_
        refine own_retN (t := .boolean) X0 hx hlk (by simp) Bd.returns (hb hby d35_38) (by decide) (by decide) ?_
        exact ⟨by unfold own_im4_0; rw [if_pos b8_1, if_pos b19_2, if_pos b30_3] <;> rfl, e0, rfl⟩
      · refine oG m s₁ 33 #[vI p0,vI p1,vI p2] [] (fun _ k => XS.icmpNo X0.here hx rfl (hb hby d35_30) rfl (feq b30_3).1 k) ?_
        rw [show own_im4_0 p0 p1 p2 = own_im4_33 p0 p1 p2 from by unfold own_im4_0; rw [if_pos b8_1, if_pos b19_2, if_neg b30_3]]
        exact K33
    · refine oG m s₁ 33 #[vI p0,vI p1,vI p2] [] (fun _ k => XS.icmpYes X0.here hx rfl (pc0 := 19) (pc' := 33) rfl (hb hby d35_19) rfl (feq b19_2).2 (by decide) (by decide) k) ?_
      rw [show own_im4_0 p0 p1 p2 = own_im4_33 p0 p1 p2 from by unfold own_im4_0; rw [if_pos b8_1, if_neg b19_2]]
      exact K33
  · refine oG m s₁ 33 #[vI p0,vI p1,vI p2] [] (fun _ k => XS.icmpYes X0.here hx rfl (pc0 := 8) (pc' := 33) rfl (hb hby d35_8) rfl (feq b8_1).2 (by decide) (by decide) k) ?_
    rw [show own_im4_0 p0 p1 p2 = own_im4_33 p0 p1 p2 from by unfold own_im4_0; rw [if_neg b8_1]]
    exact K33
def own_sur_16 (p0 : Int32) : Int32 := (0 : Int32)
def own_sur_0 (p0 : Int32) : Int32 := (if p0 < (55296 : Int32) then own_sur_16 p0 else (if p0 < (57344 : Int32) then (1 : Int32) else own_sur_16 p0))
theorem d47_16 : decode C47 16 = .ok (.iconst 0, 1) := by decide +kernel
theorem d47_17 : decode C47 17 = .ok (.ireturn, 1) := by decide +kernel
theorem d47_0 : decode C47 0 = .ok (.iload_n 0, 1) := by decide +kernel
theorem d47_1 : decode C47 1 = .ok (.ldc 75, 2) := by decide +kernel
theorem d47_3 : decode C47 3 = .ok (.if_icmp .lt 13, 3) := by decide +kernel
theorem d47_6 : decode C47 6 = .ok (.iload_n 0, 1) := by decide +kernel
theorem d47_7 : decode C47 7 = .ok (.ldc 77, 2) := by decide +kernel
theorem d47_9 : decode C47 9 = .ok (.if_icmp .ge 7, 3) := by decide +kernel
theorem d47_12 : decode C47 12 = .ok (.iconst 1, 1) := by decide +kernel
theorem d47_13 : decode C47 13 = .ok (.goto 4, 3) := by decide +kernel
theorem pn_52 : plainName "java/lang/Character" = true := by first | (simp [plainName, overriddenIn]; done) | decide +kernel
theorem ef_rm47 (m : MethodId) (x0 : Int32) : entryFrame m #[(.int x0)] 1 = mkF m 0 #[vI x0] [] := by first | (simp [entryFrame, mkF, argsToLocals, Value.category]; done) | rfl
def Q_rm47 (Z : State) (p0 : Int32) (h0 : Heap) (n0 : Nat) (v : Option Value) (h : Heap) (L : List Loc) : Prop := v = some (.int (own_sur_0 p0)) ∧ h = h0 ∧ L = []
theorem rm47 (l : Launch) (Z : State) (a0 : Array Value) (hw : ∀ d ∈ tables_1, d.before a0 Z = true) (ws : List Jvm.Cond) (p0 : Int32) (h0 : Heap) (n0 : Nat) (Z0 : n0 ≤ h0.size)  :
    MetFree l (⟨"java/lang/Character", "isSurrogate", "(C)Z"⟩ : MethodName) (head1 (Jvm.Cond.code (⟨"java/lang/Character", "isSurrogate", "(C)Z"⟩ : MethodName) jdk_89_method_16_code 1 (some .boolean) :: ws) ({ frames := 0, cells := 0, slots := 0, locals := 0 } : Room)) (fun a U => a = #[(.int p0)] ∧ Z.Warmed39 U.vm ∧ U.heap = h0) (fun _ _ _ _ _ => True) (fun _ U o U' => ∃ v L, o = .returned v ∧ Q_rm47 Z p0 h0 n0 v U'.heap L ∧ FrameEnd U o U' L ({ frames := 0, cells := 0, slots := 0, locals := 0 } : Room).cells ({ frames := 0, cells := 0, slots := 0, locals := 0 } : Room).slots) := by
  refine MetFree.of_bodySF (plainFor_of_name pn_52) hisR ?_
  intro p e s m args below meth c s₁ Bd hml0 hP hK
  obtain ⟨rfl, hZ, hh⟩ := hP
  have hx := Bd.exec
  have hby := Bd.bytes
  have hlk := Bd.notSynchronized
  have hml : c.maxLocals = 1 := hml0
  have hown : s.vm.findClass "java/lang/Character" = some m.cls := findClass_of_methodNamed Bd.named
  have hnm := (name_of_methodNamed Bd.named Bd.method).1
  have X0 : Stand p l e ({ frames := 0, cells := 0, slots := 0, locals := 0 } : Room) s m #[(.int p0)] below meth c s₁ [] 0 0 := Stand.of_body Bd
  have e0 : s₁.heap = h0 := by rw [← hh, Bd.state]; rfl
  have N0 := Fr.nil n0
  change own_Go p e below s (Q_rm47 Z p0 h0 n0) ({ frames := 0, cells := 0, slots := 0, locals := 0 } : Room).cells ({ frames := 0, cells := 0, slots := 0, locals := 0 } : Room).slots _
  refine own_go (S' := (s₁.setTop (mkF m 0 #[vI p0] []))) (fun _ kont => castTop (ef_rm47 m p0) kont) ?_
  have K16 : own_Go p e below s (fun (v : Option Value) (h : Heap) (L : List Loc) => v = some (.int (own_sur_16 p0)) ∧ h = h0 ∧ L = []) ({ frames := 0, cells := 0, slots := 0, locals := 0 } : Room).cells ({ frames := 0, cells := 0, slots := 0, locals := 0 } : Room).slots (s₁.setTop (mkF m 16 #[vI p0] [])) := by
    refine oG m s₁ 17 #[vI p0] [(.int 0)] (fun _ k => XS.iconst X0.here hx rfl (hb hby d47_16) k) ?_
    refine own_retN (t := .boolean) X0 hx hlk (by simp) Bd.returns (hb hby d47_17) (by decide) (by decide) ?_
    exact ⟨rfl, e0, rfl⟩
  show own_Go p e below s (fun (v : Option Value) (h : Heap) (L : List Loc) => v = some (.int (own_sur_0 p0)) ∧ h = h0 ∧ L = []) ({ frames := 0, cells := 0, slots := 0, locals := 0 } : Room).cells ({ frames := 0, cells := 0, slots := 0, locals := 0 } : Room).slots _
  refine oG m s₁ 1 #[vI p0] [(.int p0)] (fun _ k => XS.iloadN X0.here hx rfl (hb hby d47_0) rfl k) ?_
  refine oG m s₁ 3 #[vI p0] [(.int 55296),(.int p0)] (fun _ k => (X0.ldcInt hx hown (mvT hZ (oH hw 228 rfl)) (g := (mkF m 1 #[vI p0] [(.int p0)])) rfl (hb hby d47_1)) _ k) ?_
  by_cases b3_1 : p0 < (55296 : Int32)
  · refine oG m s₁ 16 #[vI p0] [] (fun _ k => XS.icmpYes X0.here hx rfl (pc0 := 3) (pc' := 16) rfl (hb hby d47_3) rfl (tlt b3_1).1 (by decide) (by decide) k) ?_
    rw [show own_sur_0 p0 = own_sur_16 p0 from by unfold own_sur_0; rw [if_pos b3_1]]
    exact K16
  · refine oG m s₁ 7 #[vI p0] [(.int p0)] (fun _ k => XS.icmpNo X0.here hx rfl (hb hby d47_3) rfl (flt b3_1).1 (XS.iloadN X0.here hx rfl (hb hby d47_6) rfl k)) ?_
    refine oG m s₁ 9 #[vI p0] [(.int 57344),(.int p0)] (fun _ k => (X0.ldcInt hx hown (mvT hZ (oH hw 229 rfl)) (g := (mkF m 7 #[vI p0] [(.int p0)])) rfl (hb hby d47_7)) _ k) ?_
    by_cases b9_2 : p0 < (57344 : Int32)
    · refine oG m s₁ 17 #[vI p0] [(.int 1)] (fun _ k => XS.icmpNo X0.here hx rfl (hb hby d47_9) rfl (tlt b9_2).2.1 (XS.iconst X0.here hx rfl (hb hby d47_12) (XS.goto X0.here hx rfl (pc0 := 13) (pc' := 17) rfl (hb hby d47_13) (by decide) (by decide) k))) ?_
      refine own_retN (t := .boolean) X0 hx hlk (by simp) Bd.returns (hb hby d47_17) (by decide) (by decide) ?_
      exact ⟨by unfold own_sur_0; rw [if_neg b3_1, if_pos b9_2] <;> rfl, e0, rfl⟩
    · refine oG m s₁ 16 #[vI p0] [] (fun _ k => XS.icmpYes X0.here hx rfl (pc0 := 9) (pc' := 16) rfl (hb hby d47_9) rfl (flt b9_2).2.1 (by decide) (by decide) k) ?_
      rw [show own_sur_0 p0 = own_sur_16 p0 from by unfold own_sur_0; rw [if_neg b3_1, if_neg b9_2]]
      exact K16
def own_sup_16 (p0 : Int32) : Int32 := (0 : Int32)
def own_sup_0 (p0 : Int32) : Int32 := (if p0 < (65536 : Int32) then own_sup_16 p0 else (if p0 < (1114112 : Int32) then (1 : Int32) else own_sup_16 p0))
theorem d36_16 : decode C36 16 = .ok (.iconst 0, 1) := by decide +kernel
theorem d36_17 : decode C36 17 = .ok (.ireturn, 1) := by decide +kernel
theorem d36_0 : decode C36 0 = .ok (.iload_n 0, 1) := by decide +kernel
theorem d36_1 : decode C36 1 = .ok (.ldc 73, 2) := by decide +kernel
theorem d36_3 : decode C36 3 = .ok (.if_icmp .lt 13, 3) := by decide +kernel
theorem d36_6 : decode C36 6 = .ok (.iload_n 0, 1) := by decide +kernel
theorem d36_7 : decode C36 7 = .ok (.ldc 74, 2) := by decide +kernel
theorem d36_9 : decode C36 9 = .ok (.if_icmp .ge 7, 3) := by decide +kernel
theorem d36_12 : decode C36 12 = .ok (.iconst 1, 1) := by decide +kernel
theorem d36_13 : decode C36 13 = .ok (.goto 4, 3) := by decide +kernel
theorem ef_rm36 (m : MethodId) (x0 : Int32) : entryFrame m #[(.int x0)] 1 = mkF m 0 #[vI x0] [] := by first | (simp [entryFrame, mkF, argsToLocals, Value.category]; done) | rfl
def Q_rm36 (Z : State) (p0 : Int32) (h0 : Heap) (n0 : Nat) (v : Option Value) (h : Heap) (L : List Loc) : Prop := v = some (.int (own_sup_0 p0)) ∧ h = h0 ∧ L = []
theorem rm36 (l : Launch) (Z : State) (a0 : Array Value) (hw : ∀ d ∈ tables_1, d.before a0 Z = true) (ws : List Jvm.Cond) (p0 : Int32) (h0 : Heap) (n0 : Nat) (Z0 : n0 ≤ h0.size)  :
    MetFree l (⟨"java/lang/Character", "isSupplementaryCodePoint", "(I)Z"⟩ : MethodName) (head1 (Jvm.Cond.code (⟨"java/lang/Character", "isSupplementaryCodePoint", "(I)Z"⟩ : MethodName) jdk_89_method_13_code 1 (some .boolean) :: ws) ({ frames := 0, cells := 0, slots := 0, locals := 0 } : Room)) (fun a U => a = #[(.int p0)] ∧ Z.Warmed39 U.vm ∧ U.heap = h0) (fun _ _ _ _ _ => True) (fun _ U o U' => ∃ v L, o = .returned v ∧ Q_rm36 Z p0 h0 n0 v U'.heap L ∧ FrameEnd U o U' L ({ frames := 0, cells := 0, slots := 0, locals := 0 } : Room).cells ({ frames := 0, cells := 0, slots := 0, locals := 0 } : Room).slots) := by
  refine MetFree.of_bodySF (plainFor_of_name pn_52) hisR ?_
  intro p e s m args below meth c s₁ Bd hml0 hP hK
  obtain ⟨rfl, hZ, hh⟩ := hP
  have hx := Bd.exec
  have hby := Bd.bytes
  have hlk := Bd.notSynchronized
  have hml : c.maxLocals = 1 := hml0
  have hown : s.vm.findClass "java/lang/Character" = some m.cls := findClass_of_methodNamed Bd.named
  have hnm := (name_of_methodNamed Bd.named Bd.method).1
  have X0 : Stand p l e ({ frames := 0, cells := 0, slots := 0, locals := 0 } : Room) s m #[(.int p0)] below meth c s₁ [] 0 0 := Stand.of_body Bd
  have e0 : s₁.heap = h0 := by rw [← hh, Bd.state]; rfl
  have N0 := Fr.nil n0
  change own_Go p e below s (Q_rm36 Z p0 h0 n0) ({ frames := 0, cells := 0, slots := 0, locals := 0 } : Room).cells ({ frames := 0, cells := 0, slots := 0, locals := 0 } : Room).slots _
  refine own_go (S' := (s₁.setTop (mkF m 0 #[vI p0] []))) (fun _ kont => castTop (ef_rm36 m p0) kont) ?_
  have K16 : own_Go p e below s (fun (v : Option Value) (h : Heap) (L : List Loc) => v = some (.int (own_sup_16 p0)) ∧ h = h0 ∧ L = []) ({ frames := 0, cells := 0, slots := 0, locals := 0 } : Room).cells ({ frames := 0, cells := 0, slots := 0, locals := 0 } : Room).slots (s₁.setTop (mkF m 16 #[vI p0] [])) := by
    refine oG m s₁ 17 #[vI p0] [(.int 0)] (fun _ k => XS.iconst X0.here hx rfl (hb hby d36_16) k) ?_
    refine own_retN (t := .boolean) X0 hx hlk (by simp) Bd.returns (hb hby d36_17) (by decide) (by decide) ?_
    exact ⟨rfl, e0, rfl⟩
  show own_Go p e below s (fun (v : Option Value) (h : Heap) (L : List Loc) => v = some (.int (own_sup_0 p0)) ∧ h = h0 ∧ L = []) ({ frames := 0, cells := 0, slots := 0, locals := 0 } : Room).cells ({ frames := 0, cells := 0, slots := 0, locals := 0 } : Room).slots _
  refine oG m s₁ 1 #[vI p0] [(.int p0)] (fun _ k => XS.iloadN X0.here hx rfl (hb hby d36_0) rfl k) ?_
  refine oG m s₁ 3 #[vI p0] [(.int 65536),(.int p0)] (fun _ k => (X0.ldcInt hx hown (mvT hZ (oH hw 185 rfl)) (g := (mkF m 1 #[vI p0] [(.int p0)])) rfl (hb hby d36_1)) _ k) ?_
  by_cases b3_1 : p0 < (65536 : Int32)
  · refine oG m s₁ 16 #[vI p0] [] (fun _ k => XS.icmpYes X0.here hx rfl (pc0 := 3) (pc' := 16) rfl (hb hby d36_3) rfl (tlt b3_1).1 (by decide) (by decide) k) ?_
    rw [show own_sup_0 p0 = own_sup_16 p0 from by unfold own_sup_0; rw [if_pos b3_1]]
    exact K16
  · refine oG m s₁ 7 #[vI p0] [(.int p0)] (fun _ k => XS.icmpNo X0.here hx rfl (hb hby d36_3) rfl (flt b3_1).1 (XS.iloadN X0.here hx rfl (hb hby d36_6) rfl k)) ?_
    refine oG m s₁ 9 #[vI p0] [(.int 1114112),(.int p0)] (fun _ k => (X0.ldcInt hx hown (mvT hZ (oH hw 186 rfl)) (g := (mkF m 7 #[vI p0] [(.int p0)])) rfl (hb hby d36_7)) _ k) ?_
    by_cases b9_2 : p0 < (1114112 : Int32)
    · refine oG m s₁ 17 #[vI p0] [(.int 1)] (fun _ k => XS.icmpNo X0.here hx rfl (hb hby d36_9) rfl (tlt b9_2).2.1 (XS.iconst X0.here hx rfl (hb hby d36_12) (XS.goto X0.here hx rfl (pc0 := 13) (pc' := 17) rfl (hb hby d36_13) (by decide) (by decide) k))) ?_
      refine own_retN (t := .boolean) X0 hx hlk (by simp) Bd.returns (hb hby d36_17) (by decide) (by decide) ?_
      exact ⟨by unfold own_sup_0; rw [if_neg b3_1, if_pos b9_2] <;> rfl, e0, rfl⟩
    · refine oG m s₁ 16 #[vI p0] [] (fun _ k => XS.icmpYes X0.here hx rfl (pc0 := 9) (pc' := 16) rfl (hb hby d36_9) rfl (flt b9_2).2.1 (by decide) (by decide) k) ?_
      rw [show own_sup_0 p0 = own_sup_16 p0 from by unfold own_sup_0; rw [if_neg b3_1, if_neg b9_2]]
      exact K16
def own_nc_0 (p0 : Int32) : Int32 := (if (p0 &&& (192 : Int32)) = (128 : Int32) then (0 : Int32) else (1 : Int32))
theorem d48_0 : decode C48 0 = .ok (.iload_n 0, 1) := by decide +kernel
theorem d48_1 : decode C48 1 = .ok (.sipush 192, 3) := by decide +kernel
theorem d48_4 : decode C48 4 = .ok (.iand, 1) := by decide +kernel
theorem d48_5 : decode C48 5 = .ok (.sipush 128, 3) := by decide +kernel
theorem d48_8 : decode C48 8 = .ok (.if_icmp .eq 7, 3) := by decide +kernel
theorem d48_15 : decode C48 15 = .ok (.iconst 0, 1) := by decide +kernel
theorem d48_16 : decode C48 16 = .ok (.ireturn, 1) := by decide +kernel
theorem d48_11 : decode C48 11 = .ok (.iconst 1, 1) := by decide +kernel
theorem d48_12 : decode C48 12 = .ok (.goto 4, 3) := by decide +kernel
theorem ef_rm48 (m : MethodId) (x0 : Int32) : entryFrame m #[(.int x0)] 1 = mkF m 0 #[vI x0] [] := by first | (simp [entryFrame, mkF, argsToLocals, Value.category]; done) | rfl
def Q_rm48 (Z : State) (p0 : Int32) (h0 : Heap) (n0 : Nat) (v : Option Value) (h : Heap) (L : List Loc) : Prop := v = some (.int (own_nc_0 p0)) ∧ h = h0 ∧ L = []
theorem rm48 (l : Launch) (Z : State) (a0 : Array Value) (hw : ∀ d ∈ tables_1, d.before a0 Z = true) (ws : List Jvm.Cond) (p0 : Int32) (h0 : Heap) (n0 : Nat) (Z0 : n0 ≤ h0.size)  :
    MetFree l (⟨"java/lang/String", "isNotContinuation", "(I)Z"⟩ : MethodName) (head1 (Jvm.Cond.code (⟨"java/lang/String", "isNotContinuation", "(I)Z"⟩ : MethodName) jdk_42_method_29_code 1 (some .boolean) :: ws) ({ frames := 0, cells := 0, slots := 0, locals := 0 } : Room)) (fun a U => a = #[(.int p0)] ∧ Z.Warmed39 U.vm ∧ U.heap = h0) (fun _ _ _ _ _ => True) (fun _ U o U' => ∃ v L, o = .returned v ∧ Q_rm48 Z p0 h0 n0 v U'.heap L ∧ FrameEnd U o U' L ({ frames := 0, cells := 0, slots := 0, locals := 0 } : Room).cells ({ frames := 0, cells := 0, slots := 0, locals := 0 } : Room).slots) := by
  refine MetFree.of_bodySF (plainFor_of_name pn_22) hisR ?_
  intro p e s m args below meth c s₁ Bd hml0 hP hK
  obtain ⟨rfl, hZ, hh⟩ := hP
  have hx := Bd.exec
  have hby := Bd.bytes
  have hlk := Bd.notSynchronized
  have hml : c.maxLocals = 1 := hml0
  have hown : s.vm.findClass "java/lang/String" = some m.cls := findClass_of_methodNamed Bd.named
  have hnm := (name_of_methodNamed Bd.named Bd.method).1
  have X0 : Stand p l e ({ frames := 0, cells := 0, slots := 0, locals := 0 } : Room) s m #[(.int p0)] below meth c s₁ [] 0 0 := Stand.of_body Bd
  have e0 : s₁.heap = h0 := by rw [← hh, Bd.state]; rfl
  have N0 := Fr.nil n0
  change own_Go p e below s (Q_rm48 Z p0 h0 n0) ({ frames := 0, cells := 0, slots := 0, locals := 0 } : Room).cells ({ frames := 0, cells := 0, slots := 0, locals := 0 } : Room).slots _
  refine own_go (S' := (s₁.setTop (mkF m 0 #[vI p0] []))) (fun _ kont => castTop (ef_rm48 m p0) kont) ?_
  show own_Go p e below s (fun (v : Option Value) (h : Heap) (L : List Loc) => v = some (.int (own_nc_0 p0)) ∧ h = h0 ∧ L = []) ({ frames := 0, cells := 0, slots := 0, locals := 0 } : Room).cells ({ frames := 0, cells := 0, slots := 0, locals := 0 } : Room).slots _
  refine oG m s₁ 8 #[vI p0] [(.int 128),(.int (p0 &&& (192 : Int32)))] (fun _ k => XS.iloadN X0.here hx rfl (hb hby d48_0) rfl (XS.sipush X0.here hx rfl (hb hby d48_1) (XS.iand X0.here hx rfl (hb hby d48_4) rfl (XS.sipush X0.here hx rfl (hb hby d48_5) k)))) ?_
  by_cases b8_1 : (p0 &&& (192 : Int32)) = (128 : Int32)
  · refine oG m s₁ 16 #[vI p0] [(.int 0)] (fun _ k => XS.icmpYes X0.here hx rfl (pc0 := 8) (pc' := 15) rfl (hb hby d48_8) rfl (teq b8_1).1 (by decide) (by decide) (XS.iconst X0.here hx rfl (hb hby d48_15) k)) ?_
    refine own_retN (t := .boolean) X0 hx hlk (by simp) Bd.returns (hb hby d48_16) (by decide) (by decide) ?_
    exact ⟨by unfold own_nc_0; rw [if_pos b8_1] <;> rfl, e0, rfl⟩
  · refine oG m s₁ 16 #[vI p0] [(.int 1)] (fun _ k => XS.icmpNo X0.here hx rfl (hb hby d48_8) rfl (feq b8_1).1 (XS.iconst X0.here hx rfl (hb hby d48_11) (XS.goto X0.here hx rfl (pc0 := 12) (pc' := 16) rfl (hb hby d48_12) (by decide) (by decide) k))) ?_
    refine own_retN (t := .boolean) X0 hx hlk (by simp) Bd.returns (hb hby d48_16) (by decide) (by decide) ?_
    exact ⟨by unfold own_nc_0; rw [if_neg b8_1] <;> rfl, e0, rfl⟩
theorem d1_0 : decode C1 0 = .ok (.iload_n 0, 1) := by decide +kernel
theorem d1_1 : decode C1 1 = .ok (.sipush 128, 3) := by decide +kernel
theorem d1_4 : decode C1 4 = .ok (.if_icmp .ge 7, 3) := by decide +kernel
theorem d1_7 : decode C1 7 = .ok (.iconst 1, 1) := by decide +kernel
theorem d1_8 : decode C1 8 = .ok (.goto 25, 3) := by decide +kernel
theorem d1_33 : decode C1 33 = .ok (.ireturn, 1) := by decide +kernel
theorem pn_78 : plainName "clearcut/Text" = true := by first | (simp [plainName, overriddenIn]; done) | decide +kernel
theorem rmz1 (l : Launch) (Z : State) (a0 : Array Value) (hw : oW a0 Z) (ws : List Jvm.Cond) (x0 : Int32) (u8 : Addr) (zc : Int32) (fv : Value) (h0 : Heap) (n0 : Nat) (Z0 : n0 ≤ h0.size)   (SS : own_Sx Z h0 u8 zc fv) (hq0 : x0 < (128 : Int32)) : own_K l (⟨"clearcut/Text", "encodedSize", "(I)I"⟩ : MethodName) prog_60_method_9_code 1 (some .int) ws ({ frames := 0, cells := 0, slots := 0, locals := 0 } : Room) Z h0 #[(.int x0)] (own_QP h0 (some (.int 1))) := by
  refine own_met (plainFor_of_name pn_78) ?_
  intro p e s m below meth c s₁ hx hby hlk hml hown hnm hrt hZ hh X0 e0
  have N0 := Fr.nil n0
  refine oG m s₁ 0 #[vI x0] [] (fun _ k => castTop (by first | (simp [entryFrame,mkF,argsToLocals,Value.category]; done) | rfl) k) ?_
  have K0 := Keep.refl h0 []
  refine oG m s₁ 33 #[vI x0] [(.int 1)] (fun _ k => XS.iloadN X0.here hx rfl (hb hby d1_0) rfl (XS.sipush X0.here hx rfl (hb hby d1_1) (XS.icmpNo X0.here hx rfl (hb hby d1_4) rfl (tlt hq0).2.1 (XS.iconst X0.here hx rfl (hb hby d1_7) (XS.goto X0.here hx rfl (pc0 := 8) (pc' := 33) rfl (hb hby d1_8) (by decide) (by decide) k))))) ?_
  refine own_retI X0 hx hlk hrt (hb hby d1_33) (by decide) (by decide) ?_
  exact ⟨by first | rfl | decide, e0, rfl⟩
theorem pd_79 : parseMethodDescriptor "(I)I" = some ⟨[.int], some .int⟩ := by decide +kernel
theorem d2_0 : decode C2 0 = .ok (.iload_n 0, 1) := by decide +kernel
theorem d2_1 : decode C2 1 = .ok (.invokestatic 37, 3) := by decide +kernel
theorem d2_4 : decode C2 4 = .ok (.istore_n 3, 1) := by decide +kernel
theorem d2_5 : decode C2 5 = .ok (.iload_n 0, 1) := by decide +kernel
theorem d2_6 : decode C2 6 = .ok (.istore 4, 2) := by decide +kernel
theorem d2_8 : decode C2 8 = .ok (.iload_n 3, 1) := by decide +kernel
theorem d2_9 : decode C2 9 = .ok (.iconst 1, 1) := by decide +kernel
theorem d2_10 : decode C2 10 = .ok (.isub, 1) := by decide +kernel
theorem d2_11 : decode C2 11 = .ok (.istore 5, 2) := by decide +kernel
theorem d2_13 : decode C2 13 = .ok (.iload 5, 2) := by decide +kernel
theorem d2_15 : decode C2 15 = .ok (.ifCond .le 32, 3) := by decide +kernel
theorem d2_47 : decode C2 47 = .ok (.aload_n 1, 1) := by decide +kernel
theorem d2_48 : decode C2 48 = .ok (.iload_n 2, 1) := by decide +kernel
theorem d2_49 : decode C2 49 = .ok (.iload_n 3, 1) := by decide +kernel
theorem d2_50 : decode C2 50 = .ok (.iconst 1, 1) := by decide +kernel
theorem d2_51 : decode C2 51 = .ok (.if_icmp .ne 8, 3) := by decide +kernel
theorem d2_54 : decode C2 54 = .ok (.iload 4, 2) := by decide +kernel
theorem d2_56 : decode C2 56 = .ok (.goto 10, 3) := by decide +kernel
theorem d2_66 : decode C2 66 = .ok (.i2b, 1) := by decide +kernel
theorem d2_67 : decode C2 67 = .ok (.bastore, 1) := by decide +kernel
theorem d2_68 : decode C2 68 = .ok (.iload_n 2, 1) := by decide +kernel
theorem d2_69 : decode C2 69 = .ok (.iload_n 3, 1) := by decide +kernel
theorem d2_70 : decode C2 70 = .ok (.iadd, 1) := by decide +kernel
theorem d2_71 : decode C2 71 = .ok (.ireturn, 1) := by decide +kernel
def Q_rmz2 (Z : State) (x0 : Int32) (ar1 : Addr) (kr1 : ClassId) (z1_0 : Int32) (z1_1 : Int32) (z1_2 : Int32) (z1_3 : Int32) (u8 : Addr) (zc : Int32) (fv : Value) (h0 : Heap) (n0 : Nat) (v : Option Value) (h : Heap) (L : List Loc) : Prop := v = some (.int 1) ∧ Fr n0 L ∧ Keep h0 h [ar1] ∧ Arv Z h ar1 kr1 .byte (4 : Int32) [(.int (nar .byte (x0.toInt8.toInt32))), (.int z1_1), (.int z1_2), (.int z1_3)] (.int 0)
theorem rmz2 (l : Launch) (Z : State) (a0 : Array Value) (hw : oW a0 Z) (ws : List Jvm.Cond) (x0 : Int32) (ar1 : Addr) (kr1 : ClassId) (z1_0 : Int32) (z1_1 : Int32) (z1_2 : Int32) (z1_3 : Int32) (u8 : Addr) (zc : Int32) (fv : Value) (h0 : Heap) (n0 : Nat) (Z0 : n0 ≤ h0.size) (V_ar1 : Arv Z h0 ar1 kr1 .byte (4 : Int32) [(.int z1_0), (.int z1_1), (.int z1_2), (.int z1_3)] (.int 0)) (g_ar1 : n0 ≤ ar1) (E_ar1 : Exa Z h0 ar1 "[B")  (SS : own_Sx Z h0 u8 zc fv) (hq0 : x0 < (128 : Int32)) : own_K l (⟨"clearcut/Text", "encode", "(I[BI)I"⟩ : MethodName) prog_60_method_10_code 6 (some .int) ws ({ frames := 1, cells := 0, slots := 0, locals := 12 } : Room) Z h0 #[(.int x0), (.ref ar1), (.int 0)] (Q_rmz2 Z x0 ar1 kr1 z1_0 z1_1 z1_2 z1_3 u8 zc fv h0 n0) := by
  refine own_met (plainFor_of_name pn_78) ?_
  intro p e s m below meth c s₁ hx hby hlk hml hown hnm hrt hZ hh X0 e0
  have N0 := Fr.nil n0
  refine oG m s₁ 0 #[vI x0,vR ar1,vI 0,oU,oU,oU] [] (fun _ k => castTop (by first | (simp [entryFrame,mkF,argsToLocals,Value.category]; done) | rfl) k) ?_
  have K0 := Keep.refl h0 [ar1]
  refine oG m s₁ 1 #[vI x0,vR ar1,vI 0,oU,oU,oU] [(.int x0)] (fun _ k => XS.iloadN X0.here hx rfl (hb hby d2_0) rfl k) ?_
  obtain ⟨T1, X1, e1, st1⟩ := own_cP X0 hx hZ hown (oH hw 11 rfl) (oH hw 4 rfl) (oH hw 5 rfl) (oH hw 6 rfl) (by decide) (rmz1 l Z a0 hw [] x0 u8 zc fv h0 n0 Z0  SS hq0) (W := 0) (by decide) (by decide) (g := (mkF m 1 #[vI x0, vR ar1, vI 0, oU, oU, oU] [(.int x0)])) rfl (by rw [hml]; rfl) (argsL := [(.int x0)]) (rest := []) (lenOf pd_79 rfl) rfl rfl rfl (hb hby d2_1) e0 rfl (by decide) (by decide) (by decide : 0 ≤ _) (by decide : 0 ≤ _)
  refine oG m T1 11 #[vI x0,vR ar1,vI 0,vI 1,vI x0,oU] [(.int ((1 : Int32) - (1 : Int32)))] (fun _ k => st1 _ (XS.istoreN X1.here hx rfl (hb hby d2_4) rfl (l' := #[vI x0,vR ar1,vI 0,vI 1,oU,oU]) rfl (XS.iloadN X1.here hx rfl (hb hby d2_5) rfl (XS.istore X1.here hx rfl (hb hby d2_6) rfl (l' := #[vI x0,vR ar1,vI 0,vI 1,vI x0,oU]) rfl (XS.iloadN X1.here hx rfl (hb hby d2_8) rfl (XS.iconst X1.here hx rfl (hb hby d2_9) (XS.isub X1.here hx rfl (hb hby d2_10) rfl k))))))) ?_
  rw [show ((1 : Int32) - (1 : Int32)) = (0 : Int32) from by decide]
  refine oG m T1 67 #[vI x0,vR ar1,vI 0,vI 1,vI x0,vI 0] [(.int (x0.toInt8.toInt32)),(.int 0),(.ref ar1)] (fun _ k => XS.istore X1.here hx rfl (hb hby d2_11) rfl (l' := #[vI x0,vR ar1,vI 0,vI 1,vI x0,vI 0]) rfl (XS.iload X1.here hx rfl (hb hby d2_13) rfl (XS.ifYes X1.here hx rfl (pc0 := 15) (pc' := 47) rfl (hb hby d2_15) rfl ((if0 _ _).trans (flt (by decide)).2.2.2) (by decide) (by decide) (XS.aloadN X1.here hx rfl (hb hby d2_47) rfl rfl (XS.iloadN X1.here hx rfl (hb hby d2_48) rfl (XS.iloadN X1.here hx rfl (hb hby d2_49) rfl (XS.iconst X1.here hx rfl (hb hby d2_50) (XS.icmpNo X1.here hx rfl (hb hby d2_51) rfl (teq (by decide)).2 (XS.iload X1.here hx rfl (hb hby d2_54) rfl (XS.goto X1.here hx rfl (pc0 := 56) (pc' := 66) rfl (hb hby d2_56) (by decide) (by decide) (XS.i2b X1.here hx rfl (hb hby d2_66) rfl k))))))))))) ?_
  obtain ⟨cl2, Ar2, qc2, S2, M2, Ha2, Ga2⟩ := id V_ar1
  obtain ⟨T2, h2, X2, e2, W2, st2⟩ := stB X1 hx hZ e1 Ar2 (j := (0 : Int32)) (inb_of S2 ⟨by decide, by decide⟩) (g := (mkF m 67 #[vI x0, vR ar1, vI 0, vI 1, vI x0, vI 0] [(.int (x0.toInt8.toInt32)), (.int 0), (.ref ar1)])) rfl rfl (hb hby d2_67)
  have c2_Ear1 := E_ar1.wr W2
  have c2_USS := SS.wr W2
  have V2 : Arv Z h2 ar1 kr1 .byte (4 : Int32) [(.int (nar .byte (x0.toInt8.toInt32))), (.int z1_1), (.int z1_2), (.int z1_3)] (.int 0) := Arv.set Ar2 qc2 S2 M2 Ha2 Ga2 (fits_nar_byte _) W2 0 (by decide) (Nat.le_of_ble_eq_true rfl)
  have K2 := K0.wr W2 (Or.inl (List.mem_of_getElem? (i := 0) rfl))
  have N2 := Fr.snoc X2 N0 g_ar1
  have Z2 : n0 ≤ h2.size := Nat.le_trans Z0 (Nat.le_of_eq W2.size.symm)
  refine oG m T2 71 #[vI x0,vR ar1,vI 0,vI 1,vI x0,vI 0] [(.int ((0 : Int32) + (1 : Int32)))] (fun _ k => st2 _ (XS.iloadN X2.here hx rfl (hb hby d2_68) rfl (XS.iloadN X2.here hx rfl (hb hby d2_69) rfl (XS.iadd X2.here hx rfl (hb hby d2_70) rfl k)))) ?_
  rw [show ((0 : Int32) + (1 : Int32)) = (1 : Int32) from by decide]
  refine own_retI X2 hx hlk hrt (hb hby d2_71) (by decide) (by decide) ?_
  rw [e2]
  exact ⟨(by first | rfl | decide), N2, K2, V2⟩
theorem pd_104 : parseMethodDescriptor "(I[BI)I" = some ⟨[.int, (.array .byte), .int], some .int⟩ := by decide +kernel
theorem d3_0 : decode C3 0 = .ok (.aload_n 0, 1) := by decide +kernel
theorem d3_1 : decode C3 1 = .ok (.invokespecial 7, 3) := by decide +kernel
theorem d3_4 : decode C3 4 = .ok (.aload_n 0, 1) := by decide +kernel
theorem d3_5 : decode C3 5 = .ok (.aload_n 1, 1) := by decide +kernel
theorem d3_6 : decode C3 6 = .ok (.putfield 12, 3) := by decide +kernel
theorem d3_9 : decode C3 9 = .ok (.aload_n 0, 1) := by decide +kernel
theorem d3_10 : decode C3 10 = .ok (.iload_n 2, 1) := by decide +kernel
theorem d3_11 : decode C3 11 = .ok (.putfield 16, 3) := by decide +kernel
theorem d3_14 : decode C3 14 = .ok (.return_, 1) := by decide +kernel
def Q_rmz3 (Z : State) (ob0 : Addr) (ar1 : Addr) (kr1 : ClassId) (z1_0 : Int32) (z1_1 : Int32) (z1_2 : Int32) (z1_3 : Int32) (x2 : Int32) (u8 : Addr) (zc : Int32) (fv : Value) (h0 : Heap) (n0 : Nat) (v : Option Value) (h : Heap) (L : List Loc) : Prop := v = none ∧ Fr n0 L ∧ Keep h0 h [ob0] ∧ Fld Z h ob0 "clearcut/Text" "bytes" "[B" (.ref ar1) ∧ Fld Z h ob0 "clearcut/Text" "length" "I" (.int x2)
theorem rmz3 (l : Launch) (Z : State) (a0 : Array Value) (hw : oW a0 Z) (ws : List Jvm.Cond) (ob0 : Addr) (ar1 : Addr) (kr1 : ClassId) (z1_0 : Int32) (z1_1 : Int32) (z1_2 : Int32) (z1_3 : Int32) (x2 : Int32) (u8 : Addr) (zc : Int32) (fv : Value) (h0 : Heap) (n0 : Nat) (Z0 : n0 ≤ h0.size) (E_ob0 : Exa Z h0 ob0 "clearcut/Text") (g_ob0 : n0 ≤ ob0) (F_ob0_bytes : Fld Z h0 ob0 "clearcut/Text" "bytes" "[B" .null) (F_ob0_length : Fld Z h0 ob0 "clearcut/Text" "length" "I" (.int 0)) (V_ar1 : Arv Z h0 ar1 kr1 .byte (4 : Int32) [(.int z1_0), (.int z1_1), (.int z1_2), (.int z1_3)] (.int 0)) (g_ar1 : n0 ≤ ar1) (E_ar1 : Exa Z h0 ar1 "[B") (ne_ob0_ar1 : ob0 ≠ ar1) (SS : own_Sx Z h0 u8 zc fv)  : own_K l (⟨"clearcut/Text", "<init>", "([BI)V"⟩ : MethodName) prog_60_method_2_code 3 none ws ({ frames := 1, cells := 0, slots := 0, locals := 12 } : Room) Z h0 #[(.ref ob0), (.ref ar1), (.int x2)] (Q_rmz3 Z ob0 ar1 kr1 z1_0 z1_1 z1_2 z1_3 x2 u8 zc fv h0 n0) := by
  refine own_met (plainFor_of_name pn_78) ?_
  intro p e s m below meth c s₁ hx hby hlk hml hown hnm hrt hZ hh X0 e0
  have N0 := Fr.nil n0
  refine oG m s₁ 0 #[vR ob0,vR ar1,vI x2] [] (fun _ k => castTop (by first | (simp [entryFrame,mkF,argsToLocals,Value.category]; done) | rfl) k) ?_
  have K0 := Keep.refl h0 [ob0]
  refine oG m s₁ 1 #[vR ob0,vR ar1,vI x2] [(.ref ob0)] (fun _ k => XS.aloadN X0.here hx rfl (hb hby d3_0) rfl rfl k) ?_
  obtain ⟨T1, X1, e1, st1⟩ := initO X0 hx hZ hown (oH hw 17 rfl) (oH hw 18 rfl) (oH hw 19 rfl) e0 (g := (mkF m 1 #[vR ob0, vR ar1, vI x2] [(.ref ob0)])) rfl (by rw [hml]; rfl) rfl (hb hby d3_1) (by decide) (W := 0) (by show 2 * 0 + _ ≤ _; exact Nat.le_of_eq rfl) (by decide)
  refine oG m T1 6 #[vR ob0,vR ar1,vI x2] [(.ref ar1),(.ref ob0)] (fun _ k => st1 _ (XS.aloadN X1.here hx rfl (hb hby d3_4) rfl rfl (XS.aloadN X1.here hx rfl (hb hby d3_5) rfl rfl k))) ?_
  obtain ⟨T2, h2, X2, e2, W2, st2⟩ := putF X1 hx hZ hown (host := "") (Or.inl (oH hw 20 rfl)) Via.refl e1 F_ob0_bytes E_ob0 (Or.inr ⟨(oH hw 21 rfl), rfl, hnm⟩) (oH hw 13 rfl) (ty := (.array .byte)) (by decide) rfl rfl (g := (mkF m 6 #[vR ob0, vR ar1, vI x2] [(.ref ar1), (.ref ob0)])) rfl rfl (hb hby d3_6)
  have c2_Eob0 := E_ob0.wr W2
  have c2_Fob0_bytes := F_ob0_bytes.same W2
  have c2_Fob0_length := F_ob0_length.other W2 (Or.inr (slot_ne (Or.inr (oH hw 23 rfl)) (Or.inr (oH hw 21 rfl)) (by decide) (by decide : parseFieldDescriptor "I" = some .int) (by decide : parseFieldDescriptor "[B" = some (.array .byte))))
  have c2_Var1 := V_ar1.other W2 (Ne.symm ne_ob0_ar1)
  have c2_Ear1 := E_ar1.wr W2
  have c2_USS := SS.wr W2
  have K2 := K0.wr W2 (Or.inl (List.mem_of_getElem? (i := 0) rfl))
  have N2 := Fr.snoc X2 N0 g_ob0
  have Z2 : n0 ≤ h2.size := Nat.le_trans Z0 (Nat.le_of_eq W2.size.symm)
  refine oG m T2 11 #[vR ob0,vR ar1,vI x2] [(.int x2),(.ref ob0)] (fun _ k => st2 _ (XS.aloadN X2.here hx rfl (hb hby d3_9) rfl rfl (XS.iloadN X2.here hx rfl (hb hby d3_10) rfl k))) ?_
  obtain ⟨T3, h3, X3, e3, W3, st3⟩ := putF X2 hx hZ hown (host := "") (Or.inl (oH hw 22 rfl)) Via.refl e2 c2_Fob0_length c2_Eob0 (Or.inr ⟨(oH hw 23 rfl), rfl, hnm⟩) (oH hw 13 rfl) (ty := .int) (by decide) rfl rfl (g := (mkF m 11 #[vR ob0, vR ar1, vI x2] [(.int x2), (.ref ob0)])) rfl rfl (hb hby d3_11)
  have c3_Eob0 := c2_Eob0.wr W3
  have c3_Fob0_bytes := c2_Fob0_bytes.other W3 (Or.inr (slot_ne (Or.inr (oH hw 21 rfl)) (Or.inr (oH hw 23 rfl)) (by decide) (by decide : parseFieldDescriptor "[B" = some (.array .byte)) (by decide : parseFieldDescriptor "I" = some .int)))
  have c3_Fob0_length := c2_Fob0_length.same W3
  have c3_Var1 := c2_Var1.other W3 (Ne.symm ne_ob0_ar1)
  have c3_Ear1 := c2_Ear1.wr W3
  have c3_USS := c2_USS.wr W3
  have K3 := K2.wr W3 (Or.inl (List.mem_of_getElem? (i := 0) rfl))
  have N3 := Fr.snoc X3 N2 g_ob0
  have Z3 : n0 ≤ h3.size := Nat.le_trans Z2 (Nat.le_of_eq W3.size.symm)
  refine oG m T3 14 #[vR ob0,vR ar1,vI x2] [] (fun _ k => st3 _ k) ?_
  refine own_ret0 X3 hx hlk hrt (hb hby d3_14) (by decide) (by decide) ?_
  rw [e3]
  exact ⟨(by first | rfl | decide), N3, K3, c3_Fob0_bytes, c3_Fob0_length⟩
theorem pd_114 : parseMethodDescriptor "([BI)V" = some ⟨[(.array .byte), .int], none⟩ := by decide +kernel
theorem d5_0 : decode C5 0 = .ok (.iload_n 1, 1) := by decide +kernel
theorem d5_1 : decode C5 1 = .ok (.aload_n 0, 1) := by decide +kernel
theorem d5_2 : decode C5 2 = .ok (.iload_n 1, 1) := by decide +kernel
theorem d6_0 : decode C6 0 = .ok (.aload_n 0, 1) := by decide +kernel
theorem d6_1 : decode C6 1 = .ok (.getfield 12, 3) := by decide +kernel
theorem d6_4 : decode C6 4 = .ok (.iload_n 1, 1) := by decide +kernel
theorem d6_5 : decode C6 5 = .ok (.baload, 1) := by decide +kernel
theorem d6_6 : decode C6 6 = .ok (.sipush 255, 3) := by decide +kernel
theorem d6_9 : decode C6 9 = .ok (.iand, 1) := by decide +kernel
theorem d6_10 : decode C6 10 = .ok (.ireturn, 1) := by decide +kernel
theorem rmz4 (l : Launch) (Z : State) (a0 : Array Value) (hw : oW a0 Z) (ws : List Jvm.Cond) (ob0 : Addr) (ar0b : Addr) (kr0b : ClassId) (z0b_0 : Int32) (z0b_1 : Int32) (z0b_2 : Int32) (z0b_3 : Int32) (u8 : Addr) (zc : Int32) (fv : Value) (h0 : Heap) (n0 : Nat) (Z0 : n0 ≤ h0.size) (E_ob0 : Exa Z h0 ob0 "clearcut/Text") (g_ob0 : n0 ≤ ob0) (V_ar0b : Arv Z h0 ar0b kr0b .byte (4 : Int32) [(.int z0b_0), (.int z0b_1), (.int z0b_2), (.int z0b_3)] (.int 0)) (g_ar0b : n0 ≤ ar0b) (E_ar0b : Exa Z h0 ar0b "[B") (F_ob0_bytes : Fld Z h0 ob0 "clearcut/Text" "bytes" "[B" (.ref ar0b)) (ne_ob0_ar0b : ob0 ≠ ar0b) (SS : own_Sx Z h0 u8 zc fv)  : own_K l (⟨"clearcut/Text", "at", "(I)I"⟩ : MethodName) prog_60_method_4_code 2 (some .int) ws ({ frames := 0, cells := 0, slots := 0, locals := 0 } : Room) Z h0 #[(.ref ob0), (.int 0)] (own_QP h0 (some (.int (z0b_0 &&& (255 : Int32))))) := by
  refine own_met (plainFor_of_name pn_78) ?_
  intro p e s m below meth c s₁ hx hby hlk hml hown hnm hrt hZ hh X0 e0
  have N0 := Fr.nil n0
  refine oG m s₁ 0 #[vR ob0,vI 0] [] (fun _ k => castTop (by first | (simp [entryFrame,mkF,argsToLocals,Value.category]; done) | rfl) k) ?_
  have K0 := Keep.refl h0 []
  refine oG m s₁ 1 #[vR ob0,vI 0] [(.ref ob0)] (fun _ k => XS.aloadN X0.here hx rfl (hb hby d6_0) rfl rfl k) ?_
  obtain ⟨T1, X1, e1, st1⟩ := getF X0 hx hZ hown (host := "") (Or.inl (oH hw 20 rfl)) Via.refl e0 F_ob0_bytes (g := (mkF m 1 #[vR ob0, vI 0] [(.ref ob0)])) rfl rfl (hb hby d6_1)
  refine oG m T1 5 #[vR ob0,vI 0] [(.int 0),(.ref ar0b)] (fun _ k => st1 _ (XS.iloadN X1.here hx rfl (hb hby d6_4) rfl k)) ?_
  obtain ⟨cl2, Ar2, -, S2, -, H2, -⟩ := id V_ar0b
  have hin2 := inb_of (j := (0 : Int32)) S2 ⟨by decide, by decide⟩
  have hat2 := Has.at (v := (.int z0b_0)) H2 hin2 (by first | rfl | decide)
  refine own_go (S' := (T1.setTop (mkF m 6 #[vR ob0, vI 0] [(.int z0b_0)]))) (fun _ kont => X1.baloadBytes hx (j := (0 : Int32)) (v := (.int z0b_0)) (by rw [e1]; exact Ar2.1) (State.isArrayOf_alike hZ.alike Ar2.2.1) Ar2.2.2 hin2 hat2 (g := (mkF m 5 #[vR ob0, vI 0] [(.int 0), (.ref ar0b)])) rfl rfl (hb hby d6_5) _ kont) ?_
  refine oG m T1 10 #[vR ob0,vI 0] [(.int (z0b_0 &&& (255 : Int32)))] (fun _ k => XS.sipush X1.here hx rfl (hb hby d6_6) (XS.iand X1.here hx rfl (hb hby d6_9) rfl k)) ?_
  refine own_retI X1 hx hlk hrt (hb hby d6_10) (by decide) (by decide) ?_
  exact ⟨by first | rfl | decide, e1, rfl⟩
theorem d5_3 : decode C5 3 = .ok (.invokevirtual 29, 3) := by decide +kernel
theorem d7_0 : decode C7 0 = .ok (.iload_n 0, 1) := by decide +kernel
theorem d7_1 : decode C7 1 = .ok (.sipush 128, 3) := by decide +kernel
theorem d7_4 : decode C7 4 = .ok (.if_icmp .ge 7, 3) := by decide +kernel
theorem d7_7 : decode C7 7 = .ok (.iconst 1, 1) := by decide +kernel
theorem d7_8 : decode C7 8 = .ok (.goto 26, 3) := by decide +kernel
theorem d7_34 : decode C7 34 = .ok (.ireturn, 1) := by decide +kernel
theorem rmz5 (l : Launch) (Z : State) (a0 : Array Value) (hw : oW a0 Z) (ws : List Jvm.Cond) (x0 : Int32) (u8 : Addr) (zc : Int32) (fv : Value) (h0 : Heap) (n0 : Nat) (Z0 : n0 ≤ h0.size)   (SS : own_Sx Z h0 u8 zc fv) (hq0 : x0 < (128 : Int32)) : own_K l (⟨"clearcut/Text", "size", "(I)I"⟩ : MethodName) prog_60_method_8_code 1 (some .int) ws ({ frames := 0, cells := 0, slots := 0, locals := 0 } : Room) Z h0 #[(.int x0)] (own_QP h0 (some (.int 1))) := by
  refine own_met (plainFor_of_name pn_78) ?_
  intro p e s m below meth c s₁ hx hby hlk hml hown hnm hrt hZ hh X0 e0
  have N0 := Fr.nil n0
  refine oG m s₁ 0 #[vI x0] [] (fun _ k => castTop (by first | (simp [entryFrame,mkF,argsToLocals,Value.category]; done) | rfl) k) ?_
  have K0 := Keep.refl h0 []
  refine oG m s₁ 34 #[vI x0] [(.int 1)] (fun _ k => XS.iloadN X0.here hx rfl (hb hby d7_0) rfl (XS.sipush X0.here hx rfl (hb hby d7_1) (XS.icmpNo X0.here hx rfl (hb hby d7_4) rfl (tlt hq0).2.1 (XS.iconst X0.here hx rfl (hb hby d7_7) (XS.goto X0.here hx rfl (pc0 := 8) (pc' := 34) rfl (hb hby d7_8) (by decide) (by decide) k))))) ?_
  refine own_retI X0 hx hlk hrt (hb hby d7_34) (by decide) (by decide) ?_
  exact ⟨by first | rfl | decide, e0, rfl⟩
theorem d5_6 : decode C5 6 = .ok (.invokestatic 33, 3) := by decide +kernel
theorem d5_9 : decode C5 9 = .ok (.iadd, 1) := by decide +kernel
theorem d5_10 : decode C5 10 = .ok (.ireturn, 1) := by decide +kernel
theorem rmz6 (l : Launch) (Z : State) (a0 : Array Value) (hw : oW a0 Z) (ws : List Jvm.Cond) (ob0 : Addr) (ar0b : Addr) (kr0b : ClassId) (z0b_0 : Int32) (z0b_1 : Int32) (z0b_2 : Int32) (z0b_3 : Int32) (u8 : Addr) (zc : Int32) (fv : Value) (h0 : Heap) (n0 : Nat) (Z0 : n0 ≤ h0.size) (E_ob0 : Exa Z h0 ob0 "clearcut/Text") (g_ob0 : n0 ≤ ob0) (V_ar0b : Arv Z h0 ar0b kr0b .byte (4 : Int32) [(.int z0b_0), (.int z0b_1), (.int z0b_2), (.int z0b_3)] (.int 0)) (g_ar0b : n0 ≤ ar0b) (E_ar0b : Exa Z h0 ar0b "[B") (F_ob0_bytes : Fld Z h0 ob0 "clearcut/Text" "bytes" "[B" (.ref ar0b)) (ne_ob0_ar0b : ob0 ≠ ar0b) (SS : own_Sx Z h0 u8 zc fv) (hq0 : (z0b_0 &&& (255 : Int32)) < (128 : Int32)) : own_K l (⟨"clearcut/Text", "next", "(I)I"⟩ : MethodName) prog_60_method_7_code 2 (some .int) ws ({ frames := 1, cells := 0, slots := 0, locals := 14 } : Room) Z h0 #[(.ref ob0), (.int 0)] (own_QP h0 (some (.int 1))) := by
  refine own_met (plainFor_of_name pn_78) ?_
  intro p e s m below meth c s₁ hx hby hlk hml hown hnm hrt hZ hh X0 e0
  have N0 := Fr.nil n0
  refine oG m s₁ 0 #[vR ob0,vI 0] [] (fun _ k => castTop (by first | (simp [entryFrame,mkF,argsToLocals,Value.category]; done) | rfl) k) ?_
  have K0 := Keep.refl h0 []
  refine oG m s₁ 3 #[vR ob0,vI 0] [(.int 0),(.ref ob0),(.int 0)] (fun _ k => XS.iloadN X0.here hx rfl (hb hby d5_0) rfl (XS.aloadN X0.here hx rfl (hb hby d5_1) rfl rfl (XS.iloadN X0.here hx rfl (hb hby d5_2) rfl k))) ?_
  obtain ⟨cq1, kq1, q1a, q1b, q1c⟩ := isOf hZ e0 E_ob0
  obtain ⟨v1, _, ⟨T1, L1, k1, n1⟩, -, X1, ⟨Lc1, hQ1, l1, y1, z1⟩, st1⟩ := X0.virtualBack hx (y := (⟨"clearcut/Text", "at", "(I)I"⟩ : MethodName)) (z := (⟨"clearcut/Text", "at", "(I)I"⟩ : MethodName)) hown (mvT hZ (oH hw 29 rfl)) (mvT hZ (oH hw 30 rfl)) (notFace_of_selects (args := #[]) (mvT hZ (oH hw 32 rfl))) (mvT hZ (oH hw 32 rfl)) (mvT hZ (oH hw 31 rfl)) (by decide) (backOf (W := 1) (rmz4 l Z a0 hw [] ob0 ar0b kr0b z0b_0 z0b_1 z0b_2 z0b_3 u8 zc fv h0 n0 Z0 E_ob0 g_ob0 V_ar0b g_ar0b E_ar0b F_ob0_bytes ne_ob0_ar0b SS) hZ (oH hw 33 rfl) (oH hw 5 rfl) (by decide) (by decide)) q1a q1c (g := (mkF m 3 #[vR ob0, vI 0] [(.int 0), (.ref ob0), (.int 0)])) rfl (by rw [hml]; rfl) (Steps.refl _) (argsL := [(.int 0)]) (rest := [(.int 0)]) (lenOf pd_79 rfl) rfl (by show 2 * 0 + _ ≤ _; exact Nat.le_of_eq rfl) (hb hby d5_3) (fun _ _ => ⟨rfl, e0, (by decide : 0 + 0 ≤ _), (by decide : 0 + 0 ≤ _)⟩)
  dsimp only [Pt.U, Pt.locs, Pt.cells, Pt.slots] at X1 l1 y1 z1 st1 hQ1
  subst l1 y1 z1
  obtain ⟨rfl, eh1, rfl⟩ := hQ1
  have N1 := Fr.app N0 (Fr.nil n0)
  refine oG m T1 6 #[vR ob0,vI 0] [(.int (z0b_0 &&& (255 : Int32))),(.int 0)] (fun _ k => st1.trans k) ?_
  obtain ⟨T2, X2, e2, st2⟩ := own_cP X1 hx hZ hown (oH hw 34 rfl) (oH hw 35 rfl) (oH hw 5 rfl) (oH hw 36 rfl) (by decide) (rmz5 l Z a0 hw [] (z0b_0 &&& (255 : Int32)) u8 zc fv h0 n0 Z0  SS hq0) (W := 1) (by decide) (by decide) (g := (mkF m 6 #[vR ob0, vI 0] [(.int (z0b_0 &&& (255 : Int32))), (.int 0)])) rfl (by rw [hml]; rfl) (argsL := [(.int (z0b_0 &&& (255 : Int32)))]) (rest := [(.int 0)]) (lenOf pd_79 rfl) rfl rfl rfl (hb hby d5_6) eh1 rfl (by decide) (by decide) (by decide : 0 ≤ _) (by decide : 0 ≤ _)
  refine oG m T2 10 #[vR ob0,vI 0] [(.int ((0 : Int32) + (1 : Int32)))] (fun _ k => st2 _ (XS.iadd X2.here hx rfl (hb hby d5_9) rfl k)) ?_
  rw [show ((0 : Int32) + (1 : Int32)) = (1 : Int32) from by decide]
  refine own_retI X2 hx hlk hrt (hb hby d5_10) (by decide) (by decide) ?_
  exact ⟨by first | rfl | decide, e2, rfl⟩
theorem d8_0 : decode C8 0 = .ok (.aload_n 0, 1) := by decide +kernel
theorem d8_1 : decode C8 1 = .ok (.iload_n 1, 1) := by decide +kernel
theorem d8_2 : decode C8 2 = .ok (.invokevirtual 29, 3) := by decide +kernel
theorem d8_5 : decode C8 5 = .ok (.istore_n 2, 1) := by decide +kernel
theorem d8_6 : decode C8 6 = .ok (.iload_n 2, 1) := by decide +kernel
theorem d8_7 : decode C8 7 = .ok (.invokestatic 33, 3) := by decide +kernel
theorem d8_10 : decode C8 10 = .ok (.istore_n 3, 1) := by decide +kernel
theorem d8_11 : decode C8 11 = .ok (.iload_n 3, 1) := by decide +kernel
theorem d8_12 : decode C8 12 = .ok (.iconst 1, 1) := by decide +kernel
theorem d8_13 : decode C8 13 = .ok (.if_icmp .ne 7, 3) := by decide +kernel
theorem d8_16 : decode C8 16 = .ok (.iload_n 2, 1) := by decide +kernel
theorem d8_17 : decode C8 17 = .ok (.goto 12, 3) := by decide +kernel
theorem d8_29 : decode C8 29 = .ok (.istore 4, 2) := by decide +kernel
theorem d8_31 : decode C8 31 = .ok (.iconst 1, 1) := by decide +kernel
theorem d8_32 : decode C8 32 = .ok (.istore 5, 2) := by decide +kernel
theorem d8_34 : decode C8 34 = .ok (.iload 5, 2) := by decide +kernel
theorem d8_36 : decode C8 36 = .ok (.iload_n 3, 1) := by decide +kernel
theorem d8_37 : decode C8 37 = .ok (.if_icmp .ge 29, 3) := by decide +kernel
theorem d8_66 : decode C8 66 = .ok (.iload 4, 2) := by decide +kernel
theorem d8_68 : decode C8 68 = .ok (.ireturn, 1) := by decide +kernel
theorem rmz7 (l : Launch) (Z : State) (a0 : Array Value) (hw : oW a0 Z) (ws : List Jvm.Cond) (ob0 : Addr) (ar0b : Addr) (kr0b : ClassId) (z0b_0 : Int32) (z0b_1 : Int32) (z0b_2 : Int32) (z0b_3 : Int32) (u8 : Addr) (zc : Int32) (fv : Value) (h0 : Heap) (n0 : Nat) (Z0 : n0 ≤ h0.size) (E_ob0 : Exa Z h0 ob0 "clearcut/Text") (g_ob0 : n0 ≤ ob0) (V_ar0b : Arv Z h0 ar0b kr0b .byte (4 : Int32) [(.int z0b_0), (.int z0b_1), (.int z0b_2), (.int z0b_3)] (.int 0)) (g_ar0b : n0 ≤ ar0b) (E_ar0b : Exa Z h0 ar0b "[B") (F_ob0_bytes : Fld Z h0 ob0 "clearcut/Text" "bytes" "[B" (.ref ar0b)) (ne_ob0_ar0b : ob0 ≠ ar0b) (SS : own_Sx Z h0 u8 zc fv) (hq0 : (z0b_0 &&& (255 : Int32)) < (128 : Int32)) : own_K l (⟨"clearcut/Text", "codePointAt", "(I)I"⟩ : MethodName) prog_60_method_6_code 6 (some .int) ws ({ frames := 1, cells := 0, slots := 0, locals := 13 } : Room) Z h0 #[(.ref ob0), (.int 0)] (own_QP h0 (some (.int (z0b_0 &&& (255 : Int32))))) := by
  refine own_met (plainFor_of_name pn_78) ?_
  intro p e s m below meth c s₁ hx hby hlk hml hown hnm hrt hZ hh X0 e0
  have N0 := Fr.nil n0
  refine oG m s₁ 0 #[vR ob0,vI 0,oU,oU,oU,oU] [] (fun _ k => castTop (by first | (simp [entryFrame,mkF,argsToLocals,Value.category]; done) | rfl) k) ?_
  have K0 := Keep.refl h0 []
  refine oG m s₁ 2 #[vR ob0,vI 0,oU,oU,oU,oU] [(.int 0),(.ref ob0)] (fun _ k => XS.aloadN X0.here hx rfl (hb hby d8_0) rfl rfl (XS.iloadN X0.here hx rfl (hb hby d8_1) rfl k)) ?_
  obtain ⟨cq1, kq1, q1a, q1b, q1c⟩ := isOf hZ e0 E_ob0
  obtain ⟨v1, _, ⟨T1, L1, k1, n1⟩, -, X1, ⟨Lc1, hQ1, l1, y1, z1⟩, st1⟩ := X0.virtualBack hx (y := (⟨"clearcut/Text", "at", "(I)I"⟩ : MethodName)) (z := (⟨"clearcut/Text", "at", "(I)I"⟩ : MethodName)) hown (mvT hZ (oH hw 29 rfl)) (mvT hZ (oH hw 30 rfl)) (notFace_of_selects (args := #[]) (mvT hZ (oH hw 32 rfl))) (mvT hZ (oH hw 32 rfl)) (mvT hZ (oH hw 31 rfl)) (by decide) (backOf (W := 0) (rmz4 l Z a0 hw [] ob0 ar0b kr0b z0b_0 z0b_1 z0b_2 z0b_3 u8 zc fv h0 n0 Z0 E_ob0 g_ob0 V_ar0b g_ar0b E_ar0b F_ob0_bytes ne_ob0_ar0b SS) hZ (oH hw 33 rfl) (oH hw 5 rfl) (by decide) (by decide)) q1a q1c (g := (mkF m 2 #[vR ob0, vI 0, oU, oU, oU, oU] [(.int 0), (.ref ob0)])) rfl (by rw [hml]; rfl) (Steps.refl _) (argsL := [(.int 0)]) (rest := []) (lenOf pd_79 rfl) rfl (by show 2 * 0 + _ ≤ _; exact Nat.le_of_eq rfl) (hb hby d8_2) (fun _ _ => ⟨rfl, e0, (by decide : 0 + 0 ≤ _), (by decide : 0 + 0 ≤ _)⟩)
  dsimp only [Pt.U, Pt.locs, Pt.cells, Pt.slots] at X1 l1 y1 z1 st1 hQ1
  subst l1 y1 z1
  obtain ⟨rfl, eh1, rfl⟩ := hQ1
  have N1 := Fr.app N0 (Fr.nil n0)
  refine oG m T1 7 #[vR ob0,vI 0,vI (z0b_0 &&& (255 : Int32)),oU,oU,oU] [(.int (z0b_0 &&& (255 : Int32)))] (fun _ k => st1.trans (XS.istoreN X1.here hx rfl (hb hby d8_5) rfl (l' := #[vR ob0,vI 0,vI (z0b_0 &&& (255 : Int32)),oU,oU,oU]) rfl (XS.iloadN X1.here hx rfl (hb hby d8_6) rfl k))) ?_
  obtain ⟨T2, X2, e2, st2⟩ := own_cP X1 hx hZ hown (oH hw 34 rfl) (oH hw 35 rfl) (oH hw 5 rfl) (oH hw 36 rfl) (by decide) (rmz5 l Z a0 hw [] (z0b_0 &&& (255 : Int32)) u8 zc fv h0 n0 Z0  SS hq0) (W := 0) (by decide) (by decide) (g := (mkF m 7 #[vR ob0, vI 0, vI (z0b_0 &&& (255 : Int32)), oU, oU, oU] [(.int (z0b_0 &&& (255 : Int32)))])) rfl (by rw [hml]; rfl) (argsL := [(.int (z0b_0 &&& (255 : Int32)))]) (rest := []) (lenOf pd_79 rfl) rfl rfl rfl (hb hby d8_7) eh1 rfl (by decide) (by decide) (by decide : 0 ≤ _) (by decide : 0 ≤ _)
  refine oG m T2 68 #[vR ob0,vI 0,vI (z0b_0 &&& (255 : Int32)),vI 1,vI (z0b_0 &&& (255 : Int32)),vI 1] [(.int (z0b_0 &&& (255 : Int32)))] (fun _ k => st2 _ (XS.istoreN X2.here hx rfl (hb hby d8_10) rfl (l' := #[vR ob0,vI 0,vI (z0b_0 &&& (255 : Int32)),vI 1,oU,oU]) rfl (XS.iloadN X2.here hx rfl (hb hby d8_11) rfl (XS.iconst X2.here hx rfl (hb hby d8_12) (XS.icmpNo X2.here hx rfl (hb hby d8_13) rfl (teq (by decide)).2 (XS.iloadN X2.here hx rfl (hb hby d8_16) rfl (XS.goto X2.here hx rfl (pc0 := 17) (pc' := 29) rfl (hb hby d8_17) (by decide) (by decide) (XS.istore X2.here hx rfl (hb hby d8_29) rfl (l' := #[vR ob0,vI 0,vI (z0b_0 &&& (255 : Int32)),vI 1,vI (z0b_0 &&& (255 : Int32)),oU]) rfl (XS.iconst X2.here hx rfl (hb hby d8_31) (XS.istore X2.here hx rfl (hb hby d8_32) rfl (l' := #[vR ob0,vI 0,vI (z0b_0 &&& (255 : Int32)),vI 1,vI (z0b_0 &&& (255 : Int32)),vI 1]) rfl (XS.iload X2.here hx rfl (hb hby d8_34) rfl (XS.iloadN X2.here hx rfl (hb hby d8_36) rfl (XS.icmpYes X2.here hx rfl (pc0 := 37) (pc' := 66) rfl (hb hby d8_37) rfl (flt (by decide)).2.1 (by decide) (by decide) (XS.iload X2.here hx rfl (hb hby d8_66) rfl k)))))))))))))) ?_
  refine own_retI X2 hx hlk hrt (hb hby d8_68) (by decide) (by decide) ?_
  exact ⟨by first | rfl | decide, e2, rfl⟩
theorem d9_0 : decode C9 0 = .ok (.iload_n 2, 1) := by decide +kernel
theorem d9_1 : decode C9 1 = .ok (.iload_n 1, 1) := by decide +kernel
theorem d9_2 : decode C9 2 = .ok (.isub, 1) := by decide +kernel
theorem d9_3 : decode C9 3 = .ok (.ldc 36, 2) := by decide +kernel
theorem d9_5 : decode C9 5 = .ok (.if_icmp .gt 10, 3) := by decide +kernel
theorem d9_8 : decode C9 8 = .ok (.aload_n 0, 1) := by decide +kernel
theorem d9_9 : decode C9 9 = .ok (.iload_n 1, 1) := by decide +kernel
theorem d9_10 : decode C9 10 = .ok (.iload_n 2, 1) := by decide +kernel
theorem d10_0 : decode C10 0 = .ok (.new 21, 3) := by decide +kernel
theorem d10_3 : decode C10 3 = .ok (.dup, 1) := by decide +kernel
theorem d10_4 : decode C10 4 = .ok (.aload_n 0, 1) := by decide +kernel
theorem d10_5 : decode C10 5 = .ok (.getfield 12, 3) := by decide +kernel
theorem d10_8 : decode C10 8 = .ok (.iload_n 1, 1) := by decide +kernel
theorem d10_9 : decode C10 9 = .ok (.iload_n 2, 1) := by decide +kernel
theorem d10_10 : decode C10 10 = .ok (.iload_n 1, 1) := by decide +kernel
theorem d10_11 : decode C10 11 = .ok (.isub, 1) := by decide +kernel
theorem d10_12 : decode C10 12 = .ok (.getstatic 89, 3) := by decide +kernel
theorem d11_0 : decode C11 0 = .ok (.aload_n 0, 1) := by decide +kernel
theorem d11_1 : decode C11 1 = .ok (.aload 4, 2) := by decide +kernel
theorem d12_0 : decode C12 0 = .ok (.aload_n 0, 1) := by decide +kernel
theorem d12_1 : decode C12 1 = .ok (.ifnonnull 11, 3) := by decide +kernel
theorem d12_12 : decode C12 12 = .ok (.aload_n 0, 1) := by decide +kernel
theorem d12_13 : decode C12 13 = .ok (.areturn, 1) := by decide +kernel
theorem pn_178 : plainName "java/util/Objects" = true := by first | (simp [plainName, overriddenIn]; done) | decide +kernel
theorem rmz8 (l : Launch) (Z : State) (a0 : Array Value) (hw : oW a0 Z) (ws : List Jvm.Cond)  (u8 : Addr) (zc : Int32) (fv : Value) (h0 : Heap) (n0 : Nat) (Z0 : n0 ≤ h0.size)   (SS : own_Sx Z h0 u8 zc fv)  : own_K l (⟨"java/util/Objects", "requireNonNull", "(Ljava/lang/Object;)Ljava/lang/Object;"⟩ : MethodName) jdk_31_method_10_code 1 (some (.object "java/lang/Object")) ws ({ frames := 0, cells := 0, slots := 0, locals := 0 } : Room) Z h0 #[(.ref u8)] (own_QP h0 (some (.ref u8))) := by
  refine own_met (plainFor_of_name pn_178) ?_
  intro p e s m below meth c s₁ hx hby hlk hml hown hnm hrt hZ hh X0 e0
  have N0 := Fr.nil n0
  refine oG m s₁ 0 #[vR u8] [] (fun _ k => castTop (by first | (simp [entryFrame,mkF,argsToLocals,Value.category]; done) | rfl) k) ?_
  have K0 := Keep.refl h0 []
  refine oG m s₁ 13 #[vR u8] [(.ref u8)] (fun _ k => XS.aloadN X0.here hx rfl (hb hby d12_0) rfl rfl (XS.ifnonnullYes X0.here hx rfl (pc0 := 1) (pc' := 12) rfl (hb hby d12_1) rfl (by decide) (by decide) (XS.aloadN X0.here hx rfl (hb hby d12_12) rfl rfl k))) ?_
  refine own_retA X0 hx hlk (rfl) rfl hrt (hb hby d12_13) (by decide) (by decide) ?_
  exact ⟨by first | rfl | decide, e0, rfl⟩
theorem d11_3 : decode C11 3 = .ok (.invokestatic 78, 3) := by decide +kernel
theorem pd_180 : parseMethodDescriptor "(Ljava/lang/Object;)Ljava/lang/Object;" = some ⟨[(.object "java/lang/Object")], some (.object "java/lang/Object")⟩ := by decide +kernel
theorem d11_6 : decode C11 6 = .ok (.checkcast 84, 3) := by decide +kernel
theorem d11_9 : decode C11 9 = .ok (.aload_n 1, 1) := by decide +kernel
theorem d11_10 : decode C11 10 = .ok (.iload_n 2, 1) := by decide +kernel
theorem d11_11 : decode C11 11 = .ok (.iload_n 3, 1) := by decide +kernel
theorem d11_12 : decode C11 12 = .ok (.aload_n 1, 1) := by decide +kernel
theorem d11_13 : decode C11 13 = .ok (.arraylength, 1) := by decide +kernel
theorem d13_0 : decode C13 0 = .ok (.iload_n 0, 1) := by decide +kernel
theorem d13_1 : decode C13 1 = .ok (.iload_n 1, 1) := by decide +kernel
theorem d13_2 : decode C13 2 = .ok (.iload_n 2, 1) := by decide +kernel
theorem d13_3 : decode C13 3 = .ok (.getstatic 1053, 3) := by decide +kernel
theorem d14_0 : decode C14 0 = .ok (.iload_n 2, 1) := by decide +kernel
theorem d14_1 : decode C14 1 = .ok (.iload_n 0, 1) := by decide +kernel
theorem d14_2 : decode C14 2 = .ok (.ior, 1) := by decide +kernel
theorem d14_3 : decode C14 3 = .ok (.iload_n 1, 1) := by decide +kernel
theorem d14_4 : decode C14 4 = .ok (.ior, 1) := by decide +kernel
theorem d14_5 : decode C14 5 = .ok (.ifCond .lt 10, 3) := by decide +kernel
theorem d14_8 : decode C14 8 = .ok (.iload_n 1, 1) := by decide +kernel
theorem d14_9 : decode C14 9 = .ok (.iload_n 2, 1) := by decide +kernel
theorem d14_10 : decode C14 10 = .ok (.iload_n 0, 1) := by decide +kernel
theorem d14_11 : decode C14 11 = .ok (.isub, 1) := by decide +kernel
theorem d14_12 : decode C14 12 = .ok (.if_icmp .le 11, 3) := by decide +kernel
theorem d14_23 : decode C14 23 = .ok (.iload_n 0, 1) := by decide +kernel
theorem d14_24 : decode C14 24 = .ok (.ireturn, 1) := by decide +kernel
theorem pn_204 : plainName "jdk/internal/util/Preconditions" = true := by first | (simp [plainName, overriddenIn]; done) | decide +kernel
theorem rmz9 (l : Launch) (Z : State) (a0 : Array Value) (hw : oW a0 Z) (ws : List Jvm.Cond) (x0 : Int32) (x1 : Int32) (x2 : Int32) (u8 : Addr) (zc : Int32) (fv : Value) (h0 : Heap) (n0 : Nat) (Z0 : n0 ≤ h0.size)   (SS : own_Sx Z h0 u8 zc fv) (hq0 : ¬ ((x2 ||| x0) ||| x1) < (0 : Int32)) (hq1 : ¬ (x2 - x0) < x1) : own_K l (⟨"jdk/internal/util/Preconditions", "checkFromIndexSize", "(IIILjava/util/function/BiFunction;)I"⟩ : MethodName) jdk_41_method_13_code 4 (some .int) ws ({ frames := 0, cells := 0, slots := 0, locals := 0 } : Room) Z h0 #[(.int x0), (.int x1), (.int x2), fv] (own_QP h0 (some (.int x0))) := by
  refine own_met (plainFor_of_name pn_204) ?_
  intro p e s m below meth c s₁ hx hby hlk hml hown hnm hrt hZ hh X0 e0
  have N0 := Fr.nil n0
  refine oG m s₁ 0 #[vI x0,vI x1,vI x2,.val fv] [] (fun _ k => castTop (by rcases own_rc SS.fr with rfl | ⟨aa,rfl⟩ <;> first | (simp [entryFrame,mkF,argsToLocals,Value.category]; done) | rfl) k) ?_
  have K0 := Keep.refl h0 []
  refine oG m s₁ 24 #[vI x0,vI x1,vI x2,.val fv] [(.int x0)] (fun _ k => XS.iloadN X0.here hx rfl (hb hby d14_0) rfl (XS.iloadN X0.here hx rfl (hb hby d14_1) rfl (XS.ior X0.here hx rfl (hb hby d14_2) rfl (XS.iloadN X0.here hx rfl (hb hby d14_3) rfl (XS.ior X0.here hx rfl (hb hby d14_4) rfl (XS.ifNo X0.here hx rfl (hb hby d14_5) rfl ((if0 _ _).trans (flt hq0).1) (XS.iloadN X0.here hx rfl (hb hby d14_8) rfl (XS.iloadN X0.here hx rfl (hb hby d14_9) rfl (XS.iloadN X0.here hx rfl (hb hby d14_10) rfl (XS.isub X0.here hx rfl (hb hby d14_11) rfl (XS.icmpYes X0.here hx rfl (pc0 := 12) (pc' := 23) rfl (hb hby d14_12) rfl (flt hq1).2.2.2 (by decide) (by decide) (XS.iloadN X0.here hx rfl (hb hby d14_23) rfl k)))))))))))) ?_
  refine own_retI X0 hx hlk hrt (hb hby d14_24) (by decide) (by decide) ?_
  exact ⟨by first | rfl | decide, e0, rfl⟩
theorem d13_6 : decode C13 6 = .ok (.invokestatic 1065, 3) := by decide +kernel
theorem pd_206 : parseMethodDescriptor "(IIILjava/util/function/BiFunction;)I" = some ⟨[.int, .int, .int, (.object "java/util/function/BiFunction")], some .int⟩ := by decide +kernel
theorem d13_9 : decode C13 9 = .ok (.ireturn, 1) := by decide +kernel
theorem rmz10 (l : Launch) (Z : State) (a0 : Array Value) (hw : oW a0 Z) (ws : List Jvm.Cond) (x0 : Int32) (x1 : Int32) (x2 : Int32) (u8 : Addr) (zc : Int32) (fv : Value) (h0 : Heap) (n0 : Nat) (Z0 : n0 ≤ h0.size)   (SS : own_Sx Z h0 u8 zc fv) (hq0 : ¬ ((x2 ||| x0) ||| x1) < (0 : Int32)) (hq1 : ¬ (x2 - x0) < x1) : own_K l (⟨"java/lang/String", "checkBoundsOffCount", "(III)I"⟩ : MethodName) jdk_42_method_157_code 3 (some .int) ws ({ frames := 1, cells := 0, slots := 0, locals := 15 } : Room) Z h0 #[(.int x0), (.int x1), (.int x2)] (own_QP h0 (some (.int x0))) := by
  refine own_met (plainFor_of_name pn_22) ?_
  intro p e s m below meth c s₁ hx hby hlk hml hown hnm hrt hZ hh X0 e0
  have N0 := Fr.nil n0
  refine oG m s₁ 0 #[vI x0,vI x1,vI x2] [] (fun _ k => castTop (by first | (simp [entryFrame,mkF,argsToLocals,Value.category]; done) | rfl) k) ?_
  have K0 := Keep.refl h0 []
  refine oG m s₁ 3 #[vI x0,vI x1,vI x2] [(.int x2),(.int x1),(.int x0)] (fun _ k => XS.iloadN X0.here hx rfl (hb hby d13_0) rfl (XS.iloadN X0.here hx rfl (hb hby d13_1) rfl (XS.iloadN X0.here hx rfl (hb hby d13_2) rfl k))) ?_
  have Sg1 := SS.sF
  obtain ⟨T2, X2, e2, st2⟩ := getS2 X0 hx hZ hown (host := "") (Or.inl (oH hw 69 rfl)) Via.refl e0 Sg1 (g := (mkF m 3 #[vI x0, vI x1, vI x2] [(.int x2), (.int x1), (.int x0)])) rfl (hb hby d13_3)
  refine oG m T2 6 #[vI x0,vI x1,vI x2] [fv,(.int x2),(.int x1),(.int x0)] (fun _ k => st2 _ k) ?_
  obtain ⟨T3, X3, e3, st3⟩ := own_cP X2 hx hZ hown (oH hw 71 rfl) (oH hw 72 rfl) (oH hw 70 rfl) (oH hw 73 rfl) (by decide) (rmz9 l Z a0 hw [] x0 x1 x2 u8 zc fv h0 n0 Z0  SS hq0 hq1) (W := 0) (by decide) (by decide) (g := (mkF m 6 #[vI x0, vI x1, vI x2] [fv, (.int x2), (.int x1), (.int x0)])) rfl (by rw [hml]; rfl) (argsL := [(.int x0), (.int x1), (.int x2), fv]) (rest := []) (lenOf pd_206 rfl) rfl rfl rfl (hb hby d13_6) e2 rfl (by decide) (by decide) (by decide : 0 ≤ _) (by decide : 0 ≤ _)
  refine oG m T3 9 #[vI x0,vI x1,vI x2] [(.int x0)] (fun _ k => st3 _ k) ?_
  refine own_retI X3 hx hlk hrt (hb hby d13_9) (by decide) (by decide) ?_
  exact ⟨by first | rfl | decide, e3, rfl⟩
theorem d11_14 : decode C11 14 = .ok (.invokestatic 34, 3) := by decide +kernel
theorem pd_209 : parseMethodDescriptor "(III)I" = some ⟨[.int, .int, .int], some .int⟩ := by decide +kernel
theorem d11_17 : decode C11 17 = .ok (.iload_n 3, 1) := by decide +kernel
theorem d49_0 : decode C49 0 = .ok (.aload_n 0, 1) := by decide +kernel
theorem d49_1 : decode C49 1 = .ok (.invokespecial 1, 3) := by decide +kernel
theorem d49_4 : decode C49 4 = .ok (.iload 4, 2) := by decide +kernel
theorem d49_6 : decode C49 6 = .ok (.ifCond .ne 24, 3) := by decide +kernel
theorem d49_30 : decode C49 30 = .ok (.aload_n 1, 1) := by decide +kernel
theorem d49_31 : decode C49 31 = .ok (.getstatic 86, 3) := by decide +kernel
theorem d49_34 : decode C49 34 = .ok (.if_acmp .ne 312, 3) := by decide +kernel
theorem d49_37 : decode C49 37 = .ok (.getstatic 38, 3) := by decide +kernel
theorem d49_40 : decode C49 40 = .ok (.ifCond .eq 252, 3) := by decide +kernel
theorem d49_43 : decode C49 43 = .ok (.aload_n 2, 1) := by decide +kernel
theorem d49_44 : decode C49 44 = .ok (.iload_n 3, 1) := by decide +kernel
theorem d49_45 : decode C49 45 = .ok (.iload 4, 2) := by decide +kernel
theorem d15_0 : decode C15 0 = .ok (.iload_n 1, 1) := by decide +kernel
theorem d15_1 : decode C15 1 = .ok (.iload_n 2, 1) := by decide +kernel
theorem d15_2 : decode C15 2 = .ok (.iadd, 1) := by decide +kernel
theorem d15_3 : decode C15 3 = .ok (.istore_n 3, 1) := by decide +kernel
theorem d15_4 : decode C15 4 = .ok (.iload_n 1, 1) := by decide +kernel
theorem d15_5 : decode C15 5 = .ok (.istore 4, 2) := by decide +kernel
theorem d15_7 : decode C15 7 = .ok (.iload 4, 2) := by decide +kernel
theorem d15_9 : decode C15 9 = .ok (.iload_n 3, 1) := by decide +kernel
theorem d15_10 : decode C15 10 = .ok (.if_icmp .ge 21, 3) := by decide +kernel
theorem d15_13 : decode C15 13 = .ok (.aload_n 0, 1) := by decide +kernel
theorem d15_14 : decode C15 14 = .ok (.iload 4, 2) := by decide +kernel
theorem d15_16 : decode C15 16 = .ok (.baload, 1) := by decide +kernel
theorem d15_17 : decode C15 17 = .ok (.ifCond .ge 8, 3) := by decide +kernel
theorem d15_25 : decode C15 25 = .ok (.iinc 4 1, 3) := by decide +kernel
theorem d15_28 : decode C15 28 = .ok (.goto (-21), 3) := by decide +kernel
theorem d15_31 : decode C15 31 = .ok (.iload_n 2, 1) := by decide +kernel
theorem d15_32 : decode C15 32 = .ok (.ireturn, 1) := by decide +kernel
theorem pn_240 : plainName "java/lang/StringCoding" = true := by first | (simp [plainName, overriddenIn]; done) | decide +kernel
theorem rmz11 (l : Launch) (Z : State) (a0 : Array Value) (hw : oW a0 Z) (ws : List Jvm.Cond) (ar0 : Addr) (kr0 : ClassId) (z0_0 : Int32) (z0_1 : Int32) (z0_2 : Int32) (z0_3 : Int32) (u8 : Addr) (zc : Int32) (fv : Value) (h0 : Heap) (n0 : Nat) (Z0 : n0 ≤ h0.size) (V_ar0 : Arv Z h0 ar0 kr0 .byte (4 : Int32) [(.int z0_0), (.int z0_1), (.int z0_2), (.int z0_3)] (.int 0)) (g_ar0 : n0 ≤ ar0) (E_ar0 : Exa Z h0 ar0 "[B")  (SS : own_Sx Z h0 u8 zc fv) (hq0 : ¬ z0_0 < (0 : Int32)) : own_K l (⟨"java/lang/StringCoding", "countPositives", "([BII)I"⟩ : MethodName) jdk_123_method_3_code 5 (some .int) ws ({ frames := 0, cells := 0, slots := 0, locals := 0 } : Room) Z h0 #[(.ref ar0), (.int 0), (.int 1)] (own_QP h0 (some (.int 1))) := by
  refine own_met (plainFor_of_name pn_240) ?_
  intro p e s m below meth c s₁ hx hby hlk hml hown hnm hrt hZ hh X0 e0
  have N0 := Fr.nil n0
  refine oG m s₁ 0 #[vR ar0,vI 0,vI 1,oU,oU] [] (fun _ k => castTop (by first | (simp [entryFrame,mkF,argsToLocals,Value.category]; done) | rfl) k) ?_
  have K0 := Keep.refl h0 []
  refine oG m s₁ 3 #[vR ar0,vI 0,vI 1,oU,oU] [(.int ((0 : Int32) + (1 : Int32)))] (fun _ k => XS.iloadN X0.here hx rfl (hb hby d15_0) rfl (XS.iloadN X0.here hx rfl (hb hby d15_1) rfl (XS.iadd X0.here hx rfl (hb hby d15_2) rfl k))) ?_
  rw [show ((0 : Int32) + (1 : Int32)) = (1 : Int32) from by decide]
  refine oG m s₁ 16 #[vR ar0,vI 0,vI 1,vI 1,vI 0] [(.int 0),(.ref ar0)] (fun _ k => XS.istoreN X0.here hx rfl (hb hby d15_3) rfl (l' := #[vR ar0,vI 0,vI 1,vI 1,oU]) rfl (XS.iloadN X0.here hx rfl (hb hby d15_4) rfl (XS.istore X0.here hx rfl (hb hby d15_5) rfl (l' := #[vR ar0,vI 0,vI 1,vI 1,vI 0]) rfl (XS.iload X0.here hx rfl (hb hby d15_7) rfl (XS.iloadN X0.here hx rfl (hb hby d15_9) rfl (XS.icmpNo X0.here hx rfl (hb hby d15_10) rfl (tlt (by decide)).2.1 (XS.aloadN X0.here hx rfl (hb hby d15_13) rfl rfl (XS.iload X0.here hx rfl (hb hby d15_14) rfl k)))))))) ?_
  obtain ⟨cl1, Ar1, -, S1, -, H1, -⟩ := id V_ar0
  have hin1 := inb_of (j := (0 : Int32)) S1 ⟨by decide, by decide⟩
  have hat1 := Has.at (v := (.int z0_0)) H1 hin1 (by first | rfl | decide)
  refine own_go (S' := (s₁.setTop (mkF m 17 #[vR ar0, vI 0, vI 1, vI 1, vI 0] [(.int z0_0)]))) (fun _ kont => X0.baloadBytes hx (j := (0 : Int32)) (v := (.int z0_0)) (by rw [e0]; exact Ar1.1) (State.isArrayOf_alike hZ.alike Ar1.2.1) Ar1.2.2 hin1 hat1 (g := (mkF m 16 #[vR ar0, vI 0, vI 1, vI 1, vI 0] [(.int 0), (.ref ar0)])) rfl rfl (hb hby d15_16) _ kont) ?_
  refine oG m s₁ 28 #[vR ar0,vI 0,vI 1,vI 1,vI ((0 : Int32) + (1 : Int32))] [] (fun _ k => XS.ifYes X0.here hx rfl (pc0 := 17) (pc' := 25) rfl (hb hby d15_17) rfl ((if0 _ _).trans (flt hq0).2.1) (by decide) (by decide) (XS.iinc X0.here hx rfl (hb hby d15_25) rfl (l' := #[vR ar0,vI 0,vI 1,vI 1,vI ((0 : Int32) + (1 : Int32))]) rfl k)) ?_
  rw [show ((0 : Int32) + (1 : Int32)) = (1 : Int32) from by decide]
  refine oG m s₁ 32 #[vR ar0,vI 0,vI 1,vI 1,vI 1] [(.int 1)] (fun _ k => XS.goto X0.here hx rfl (pc0 := 28) (pc' := 7) rfl (hb hby d15_28) (by decide) (by decide) (XS.iload X0.here hx rfl (hb hby d15_7) rfl (XS.iloadN X0.here hx rfl (hb hby d15_9) rfl (XS.icmpYes X0.here hx rfl (pc0 := 10) (pc' := 31) rfl (hb hby d15_10) rfl (flt (by decide)).2.1 (by decide) (by decide) (XS.iloadN X0.here hx rfl (hb hby d15_31) rfl k))))) ?_
  refine own_retI X0 hx hlk hrt (hb hby d15_32) (by decide) (by decide) ?_
  exact ⟨by first | rfl | decide, e0, rfl⟩
theorem d49_47 : decode C49 47 = .ok (.invokestatic 92, 3) := by decide +kernel
theorem pd_242 : parseMethodDescriptor "([BII)I" = some ⟨[(.array .byte), .int, .int], some .int⟩ := by decide +kernel
theorem d49_50 : decode C49 50 = .ok (.istore 5, 2) := by decide +kernel
theorem d49_52 : decode C49 52 = .ok (.iload 5, 2) := by decide +kernel
theorem d49_54 : decode C49 54 = .ok (.iload 4, 2) := by decide +kernel
theorem d49_56 : decode C49 56 = .ok (.if_icmp .ne 22, 3) := by decide +kernel
theorem d49_59 : decode C49 59 = .ok (.aload_n 0, 1) := by decide +kernel
theorem d49_60 : decode C49 60 = .ok (.aload_n 2, 1) := by decide +kernel
theorem d49_61 : decode C49 61 = .ok (.iload_n 3, 1) := by decide +kernel
theorem d49_62 : decode C49 62 = .ok (.iload_n 3, 1) := by decide +kernel
theorem d49_63 : decode C49 63 = .ok (.iload 4, 2) := by decide +kernel
theorem d49_65 : decode C49 65 = .ok (.iadd, 1) := by decide +kernel
theorem d16_0 : decode C16 0 = .ok (.iload_n 1, 1) := by decide +kernel
theorem d16_1 : decode C16 1 = .ok (.ifCond .ne 9, 3) := by decide +kernel
theorem d16_4 : decode C16 4 = .ok (.iload_n 2, 1) := by decide +kernel
theorem d16_5 : decode C16 5 = .ok (.aload_n 0, 1) := by decide +kernel
theorem d16_6 : decode C16 6 = .ok (.arraylength, 1) := by decide +kernel
theorem d16_7 : decode C16 7 = .ok (.if_icmp .eq 10, 3) := by decide +kernel
theorem d16_10 : decode C16 10 = .ok (.aload_n 0, 1) := by decide +kernel
theorem d16_11 : decode C16 11 = .ok (.iload_n 1, 1) := by decide +kernel
theorem d16_12 : decode C16 12 = .ok (.iload_n 2, 1) := by decide +kernel
theorem d17_0 : decode C17 0 = .ok (.iload_n 1, 1) := by decide +kernel
theorem d17_1 : decode C17 1 = .ok (.iload_n 2, 1) := by decide +kernel
theorem d18_0 : decode C18 0 = .ok (.iload_n 1, 1) := by decide +kernel
theorem d18_1 : decode C18 1 = .ok (.iload_n 0, 1) := by decide +kernel
theorem d18_2 : decode C18 2 = .ok (.if_icmp .ge 35, 3) := by decide +kernel
theorem d18_37 : decode C18 37 = .ok (.return_, 1) := by decide +kernel
theorem pn_268 : plainName "java/util/Arrays" = true := by first | (simp [plainName, overriddenIn]; done) | decide +kernel
theorem rmz12 (l : Launch) (Z : State) (a0 : Array Value) (hw : oW a0 Z) (ws : List Jvm.Cond) (x0 : Int32) (x1 : Int32) (u8 : Addr) (zc : Int32) (fv : Value) (h0 : Heap) (n0 : Nat) (Z0 : n0 ≤ h0.size)   (SS : own_Sx Z h0 u8 zc fv) (hq0 : ¬ x1 < x0) : own_K l (⟨"java/util/Arrays", "checkLength", "(II)V"⟩ : MethodName) jdk_65_method_131_code 2 none ws ({ frames := 0, cells := 0, slots := 0, locals := 0 } : Room) Z h0 #[(.int x0), (.int x1)] (own_QP h0 (none)) := by
  refine own_met (plainFor_of_name pn_268) ?_
  intro p e s m below meth c s₁ hx hby hlk hml hown hnm hrt hZ hh X0 e0
  have N0 := Fr.nil n0
  refine oG m s₁ 0 #[vI x0,vI x1] [] (fun _ k => castTop (by first | (simp [entryFrame,mkF,argsToLocals,Value.category]; done) | rfl) k) ?_
  have K0 := Keep.refl h0 []
  refine oG m s₁ 37 #[vI x0,vI x1] [] (fun _ k => XS.iloadN X0.here hx rfl (hb hby d18_0) rfl (XS.iloadN X0.here hx rfl (hb hby d18_1) rfl (XS.icmpYes X0.here hx rfl (pc0 := 2) (pc' := 37) rfl (hb hby d18_2) rfl (flt hq0).2.1 (by decide) (by decide) k))) ?_
  refine own_ret0 X0 hx hlk hrt (hb hby d18_37) (by decide) (by decide) ?_
  exact ⟨by first | rfl | decide, e0, rfl⟩
theorem d17_2 : decode C17 2 = .ok (.invokestatic 343, 3) := by decide +kernel
theorem pd_270 : parseMethodDescriptor "(II)V" = some ⟨[.int, .int], none⟩ := by decide +kernel
theorem d17_5 : decode C17 5 = .ok (.iload_n 2, 1) := by decide +kernel
theorem d17_6 : decode C17 6 = .ok (.iload_n 1, 1) := by decide +kernel
theorem d17_7 : decode C17 7 = .ok (.isub, 1) := by decide +kernel
theorem d17_8 : decode C17 8 = .ok (.istore_n 3, 1) := by decide +kernel
theorem d17_9 : decode C17 9 = .ok (.iload_n 3, 1) := by decide +kernel
theorem d17_10 : decode C17 10 = .ok (.newarray .byte, 2) := by decide +kernel
theorem d17_12 : decode C17 12 = .ok (.astore 4, 2) := by decide +kernel
theorem d17_14 : decode C17 14 = .ok (.aload_n 0, 1) := by decide +kernel
theorem d17_15 : decode C17 15 = .ok (.iload_n 1, 1) := by decide +kernel
theorem d17_16 : decode C17 16 = .ok (.aload 4, 2) := by decide +kernel
theorem d17_18 : decode C17 18 = .ok (.iconst 0, 1) := by decide +kernel
theorem d17_19 : decode C17 19 = .ok (.aload_n 0, 1) := by decide +kernel
theorem d17_20 : decode C17 20 = .ok (.arraylength, 1) := by decide +kernel
theorem d17_21 : decode C17 21 = .ok (.iload_n 1, 1) := by decide +kernel
theorem d17_22 : decode C17 22 = .ok (.isub, 1) := by decide +kernel
theorem d17_23 : decode C17 23 = .ok (.iload_n 3, 1) := by decide +kernel
theorem d19_0 : decode C19 0 = .ok (.iload_n 0, 1) := by decide +kernel
theorem d19_1 : decode C19 1 = .ok (.iload_n 1, 1) := by decide +kernel
theorem d19_2 : decode C19 2 = .ok (.if_icmp .gt 7, 3) := by decide +kernel
theorem d19_9 : decode C19 9 = .ok (.iload_n 1, 1) := by decide +kernel
theorem d19_10 : decode C19 10 = .ok (.ireturn, 1) := by decide +kernel
theorem rmz13 (l : Launch) (Z : State) (a0 : Array Value) (hw : oW a0 Z) (ws : List Jvm.Cond) (x0 : Int32) (x1 : Int32) (u8 : Addr) (zc : Int32) (fv : Value) (h0 : Heap) (n0 : Nat) (Z0 : n0 ≤ h0.size)   (SS : own_Sx Z h0 u8 zc fv) (hq0 : x1 < x0) : own_K l (⟨"java/lang/Math", "min", "(II)I"⟩ : MethodName) jdk_29_method_69_code 2 (some .int) ws ({ frames := 0, cells := 0, slots := 0, locals := 0 } : Room) Z h0 #[(.int x0), (.int x1)] (own_QP h0 (some (.int x1))) := by
  refine own_met (Jvm.Free.JP.mathPlain rfl (by decide +kernel)) ?_
  intro p e s m below meth c s₁ hx hby hlk hml hown hnm hrt hZ hh X0 e0
  have N0 := Fr.nil n0
  refine oG m s₁ 0 #[vI x0,vI x1] [] (fun _ k => castTop (by first | (simp [entryFrame,mkF,argsToLocals,Value.category]; done) | rfl) k) ?_
  have K0 := Keep.refl h0 []
  refine oG m s₁ 10 #[vI x0,vI x1] [(.int x1)] (fun _ k => XS.iloadN X0.here hx rfl (hb hby d19_0) rfl (XS.iloadN X0.here hx rfl (hb hby d19_1) rfl (XS.icmpYes X0.here hx rfl (pc0 := 2) (pc' := 9) rfl (hb hby d19_2) rfl (tlt hq0).2.2.1 (by decide) (by decide) (XS.iloadN X0.here hx rfl (hb hby d19_9) rfl k)))) ?_
  refine own_retI X0 hx hlk hrt (hb hby d19_10) (by decide) (by decide) ?_
  exact ⟨by first | rfl | decide, e0, rfl⟩
theorem d17_24 : decode C17 24 = .ok (.invokestatic 304, 3) := by decide +kernel
theorem pd_293 : parseMethodDescriptor "(II)I" = some ⟨[.int, .int], some .int⟩ := by decide +kernel
theorem d17_27 : decode C17 27 = .ok (.invokestatic 150, 3) := by decide +kernel
theorem d17_30 : decode C17 30 = .ok (.aload 4, 2) := by decide +kernel
theorem d17_32 : decode C17 32 = .ok (.areturn, 1) := by decide +kernel
def Q_rmz14 (Z : State) (ar0 : Addr) (kr0 : ClassId) (z0_0 : Int32) (z0_1 : Int32) (z0_2 : Int32) (z0_3 : Int32) (u8 : Addr) (zc : Int32) (fv : Value) (h0 : Heap) (n0 : Nat) (v : Option Value) (h : Heap) (L : List Loc) : Prop := ∃ (NA0 : Addr) (KA0 : ClassId), v = some (.ref NA0) ∧ Fr n0 L ∧ Keep h0 h [] ∧ h0.size ≤ NA0 ∧ Arv Z h NA0 KA0 .byte (1 : Int32) [(.int z0_0)] (.int 0)
theorem rmz14 (l : Launch) (Z : State) (a0 : Array Value) (hw : oW a0 Z) (ws : List Jvm.Cond) (ar0 : Addr) (kr0 : ClassId) (z0_0 : Int32) (z0_1 : Int32) (z0_2 : Int32) (z0_3 : Int32) (u8 : Addr) (zc : Int32) (fv : Value) (h0 : Heap) (n0 : Nat) (Z0 : n0 ≤ h0.size) (V_ar0 : Arv Z h0 ar0 kr0 .byte (4 : Int32) [(.int z0_0), (.int z0_1), (.int z0_2), (.int z0_3)] (.int 0)) (g_ar0 : n0 ≤ ar0) (E_ar0 : Exa Z h0 ar0 "[B")  (SS : own_Sx Z h0 u8 zc fv)  : own_K l (⟨"java/util/Arrays", "copyOfRangeByte", "([BII)[B"⟩ : MethodName) jdk_65_method_133_code 5 (some (.array .byte)) ws ({ frames := 1, cells := 1, slots := 1, locals := 18 } : Room) Z h0 #[(.ref ar0), (.int 0), (.int 1)] (Q_rmz14 Z ar0 kr0 z0_0 z0_1 z0_2 z0_3 u8 zc fv h0 n0) := by
  refine own_met (plainFor_of_name pn_268) ?_
  intro p e s m below meth c s₁ hx hby hlk hml hown hnm hrt hZ hh X0 e0
  have N0 := Fr.nil n0
  refine oG m s₁ 0 #[vR ar0,vI 0,vI 1,oU,oU] [] (fun _ k => castTop (by first | (simp [entryFrame,mkF,argsToLocals,Value.category]; done) | rfl) k) ?_
  have K0 := Keep.refl h0 []
  refine oG m s₁ 2 #[vR ar0,vI 0,vI 1,oU,oU] [(.int 1),(.int 0)] (fun _ k => XS.iloadN X0.here hx rfl (hb hby d17_0) rfl (XS.iloadN X0.here hx rfl (hb hby d17_1) rfl k)) ?_
  obtain ⟨T1, X1, e1, st1⟩ := own_cP X0 hx hZ hown (oH hw 93 rfl) (oH hw 94 rfl) (oH hw 88 rfl) (oH hw 95 rfl) (by decide) (rmz12 l Z a0 hw [] (0 : Int32) (1 : Int32) u8 zc fv h0 n0 Z0  SS (by decide)) (W := 0) (by decide) (by decide) (g := (mkF m 2 #[vR ar0, vI 0, vI 1, oU, oU] [(.int 1), (.int 0)])) rfl (by rw [hml]; rfl) (argsL := [(.int 0), (.int 1)]) (rest := []) (lenOf pd_270 rfl) rfl rfl rfl (hb hby d17_2) e0 rfl (by decide) (by decide) (by decide : 0 ≤ _) (by decide : 0 ≤ _)
  refine oG m T1 8 #[vR ar0,vI 0,vI 1,oU,oU] [(.int ((1 : Int32) - (0 : Int32)))] (fun _ k => st1 _ (XS.iloadN X1.here hx rfl (hb hby d17_5) rfl (XS.iloadN X1.here hx rfl (hb hby d17_6) rfl (XS.isub X1.here hx rfl (hb hby d17_7) rfl k)))) ?_
  rw [show ((1 : Int32) - (0 : Int32)) = (1 : Int32) from by decide]
  refine oG m T1 10 #[vR ar0,vI 0,vI 1,vI 1,oU] [(.int 1)] (fun _ k => XS.istoreN X1.here hx rfl (hb hby d17_8) rfl (l' := #[vR ar0,vI 0,vI 1,vI 1,oU]) rfl (XS.iloadN X1.here hx rfl (hb hby d17_9) rfl k)) ?_
  obtain ⟨T2, h2, k2, X2, e2, E2, A2, st2⟩ := newP X1 hx hZ (oH hw 7 rfl) e1 (g := (mkF m 10 #[vR ar0, vI 0, vI 1, vI 1, oU] [(.int 1)])) rfl (hb hby d17_10) rfl (by decide) (cap := 1) (by decide) (by decide) (by decide) (by decide)
  obtain ⟨b2, gz2⟩ : ∃ z, z = h0.size := ⟨_, rfl⟩
  rw [← gz2] at A2 st2
  have sz_b2 : h0.size ≤ b2 := Nat.le_trans K0.1 (Nat.le_of_eq gz2.symm)
  have ne_ar0_b2 : ar0 ≠ b2 := Nat.ne_of_lt (by rw [gz2]; exact V_ar0.lt)
  have c2_Var0 := V_ar0.ext E2
  have c2_Ear0 := E_ar0.ext E2
  have c2_USS := SS.ext E2
  have K2 := K0.ext E2
  have g_b2 : n0 ≤ b2 := Nat.le_trans Z0 (Nat.le_of_eq gz2.symm)
  have V2 := Arv.new A2 (by decide)
  have Z2 : n0 ≤ h2.size := Nat.le_trans Z0 E2.1
  refine oG m T2 12 #[vR ar0,vI 0,vI 1,vI 1,oU] [(.ref b2)] (fun _ k => st2 _ k) ?_
  have V3 : Arv Z h2 b2 k2 .byte (1 : Int32) [(.int 0)] (.int 0) := V2.pad (pad_rep [] (.int 0) 1)
  refine oG m T2 20 #[vR ar0,vI 0,vI 1,vI 1,vR b2] [(.ref ar0),(.int 0),(.ref b2),(.int 0),(.ref ar0)] (fun _ k => XS.astore X2.here hx rfl (hb hby d17_12) rfl rfl (l' := #[vR ar0,vI 0,vI 1,vI 1,vR b2]) rfl (XS.aloadN X2.here hx rfl (hb hby d17_14) rfl rfl (XS.iloadN X2.here hx rfl (hb hby d17_15) rfl (XS.aload X2.here hx rfl (hb hby d17_16) rfl rfl (XS.iconst X2.here hx rfl (hb hby d17_18) (XS.aloadN X2.here hx rfl (hb hby d17_19) rfl rfl k)))))) ?_
  obtain ⟨cl4, Ar4, -, S4, M4, -, -⟩ := id c2_Var0
  have ql4 := len_of S4 M4
  refine own_go (S' := (T2.setTop (mkF m 21 #[vR ar0, vI 0, vI 1, vI 1, vR b2] [(.int 4), (.int 0), (.ref b2), (.int 0), (.ref ar0)]))) (fun _ kont => X2.arraylength hx (by rw [e2]; exact Ar4.1) (State.isArrayOf_alike hZ.alike Ar4.2.1) (g := (mkF m 20 #[vR ar0, vI 0, vI 1, vI 1, vR b2] [(.ref ar0), (.int 0), (.ref b2), (.int 0), (.ref ar0)])) rfl rfl (hb hby d17_20) _ (by rw [ql4]; exact kont)) ?_
  refine oG m T2 23 #[vR ar0,vI 0,vI 1,vI 1,vR b2] [(.int ((4 : Int32) - (0 : Int32))),(.int 0),(.ref b2),(.int 0),(.ref ar0)] (fun _ k => XS.iloadN X2.here hx rfl (hb hby d17_21) rfl (XS.isub X2.here hx rfl (hb hby d17_22) rfl k)) ?_
  rw [show ((4 : Int32) - (0 : Int32)) = (4 : Int32) from by decide]
  refine oG m T2 24 #[vR ar0,vI 0,vI 1,vI 1,vR b2] [(.int 1),(.int 4),(.int 0),(.ref b2),(.int 0),(.ref ar0)] (fun _ k => XS.iloadN X2.here hx rfl (hb hby d17_23) rfl k) ?_
  obtain ⟨T5, X5, e5, st5⟩ := own_cP X2 hx hZ hown (oH hw 96 rfl) (oH hw 97 rfl) (oH hw 98 rfl) (oH hw 99 rfl) (by decide) (rmz13 l Z a0 hw [] (4 : Int32) (1 : Int32) u8 zc fv h2 n0 Z2  c2_USS (by decide)) (W := 4) (by decide) (by decide) (g := (mkF m 24 #[vR ar0, vI 0, vI 1, vI 1, vR b2] [(.int 1), (.int 4), (.int 0), (.ref b2), (.int 0), (.ref ar0)])) rfl (by rw [hml]; rfl) (argsL := [(.int 4), (.int 1)]) (rest := [(.int 0), (.ref b2), (.int 0), (.ref ar0)]) (lenOf pd_293 rfl) rfl rfl rfl (hb hby d17_24) e2 rfl (by decide) (by decide) (by decide : 1 ≤ _) (by decide : 1 ≤ _)
  refine oG m T5 27 #[vR ar0,vI 0,vI 1,vI 1,vR b2] [(.int 1),(.int 0),(.ref b2),(.int 0),(.ref ar0)] (fun _ k => st5 _ k) ?_
  obtain ⟨T6, h6, L6, X6, e6, N6, Kc6, Vd6, st6⟩ := cpA X5 hx hZ hown (oH hw 100 rfl) (oH hw 103 rfl) (oH hw 101 rfl) (oH hw 102 rfl) e5 (us := [(.int z0_0)]) c2_Var0 V3 (Or.inl ⟨rfl, rfl⟩) (sp := (0 : Int32)) (dp := (0 : Int32)) (nn := (1 : Int32)) (by decide) (by decide) (by decide) (by decide) (by decide) (by first | rfl | simp) (by first | decide | exact Nat.le_of_ble_eq_true rfl) N0 g_b2 (g := (mkF m 27 #[vR ar0, vI 0, vI 1, vI 1, vR b2] [(.int 1), (.int 0), (.ref b2), (.int 0), (.ref ar0)])) rfl (by rw [hml]; rfl) rfl (hb hby d17_27) (by decide) (W := 0) (by show 2 * 0 + _ ≤ _; exact Nat.le_of_eq rfl) (by decide)
  have Vn6 : Arv Z h6 b2 k2 .byte (1 : Int32) [(.int z0_0)] (.int 0) := Vd6
  have Z6 : n0 ≤ h6.size := Nat.le_trans Z2 Kc6.1
  have Kt6 := K2.trans Kc6 (fun x hx => by cases List.mem_singleton.mp hx; first | (left; simp; done) | (right; assumption))
  have c6_Var0 := c2_Var0.keep Kc6 (ninS ne_ar0_b2 nin0)
  have c6_Ear0 := c2_Ear0.keep Kc6
  have c6_USS := c2_USS.keep Kc6 (own_nsS (own_nsA V3) own_ns0)
  refine oG m T6 32 #[vR ar0,vI 0,vI 1,vI 1,vR b2] [(.ref b2)] (fun _ k => st6 _ (XS.aload X6.here hx rfl (hb hby d17_30) rfl rfl k)) ?_
  refine own_retA X6 hx hlk (rfl) rfl hrt (hb hby d17_32) (by decide) (by decide) ?_
  rw [e6]
  exact ⟨b2, k2, (by first | rfl | decide), N6, Kt6, sz_b2, Vn6⟩
theorem d16_13 : decode C16 13 = .ok (.invokestatic 339, 3) := by decide +kernel
theorem pd_298 : parseMethodDescriptor "([BII)[B" = some ⟨[(.array .byte), .int, .int], some (.array .byte)⟩ := by decide +kernel
theorem d16_16 : decode C16 16 = .ok (.areturn, 1) := by decide +kernel
def Q_rmz15 (Z : State) (ar0 : Addr) (kr0 : ClassId) (z0_0 : Int32) (z0_1 : Int32) (z0_2 : Int32) (z0_3 : Int32) (u8 : Addr) (zc : Int32) (fv : Value) (h0 : Heap) (n0 : Nat) (v : Option Value) (h : Heap) (L : List Loc) : Prop := ∃ (NA0 : Addr) (KA0 : ClassId), v = some (.ref NA0) ∧ Fr n0 L ∧ Keep h0 h [] ∧ h0.size ≤ NA0 ∧ Arv Z h NA0 KA0 .byte (1 : Int32) [(.int z0_0)] (.int 0)
theorem rmz15 (l : Launch) (Z : State) (a0 : Array Value) (hw : oW a0 Z) (ws : List Jvm.Cond) (ar0 : Addr) (kr0 : ClassId) (z0_0 : Int32) (z0_1 : Int32) (z0_2 : Int32) (z0_3 : Int32) (u8 : Addr) (zc : Int32) (fv : Value) (h0 : Heap) (n0 : Nat) (Z0 : n0 ≤ h0.size) (V_ar0 : Arv Z h0 ar0 kr0 .byte (4 : Int32) [(.int z0_0), (.int z0_1), (.int z0_2), (.int z0_3)] (.int 0)) (g_ar0 : n0 ≤ ar0) (E_ar0 : Exa Z h0 ar0 "[B")  (SS : own_Sx Z h0 u8 zc fv)  : own_K l (⟨"java/util/Arrays", "copyOfRange", "([BII)[B"⟩ : MethodName) jdk_65_method_132_code 3 (some (.array .byte)) ws ({ frames := 2, cells := 1, slots := 1, locals := 34 } : Room) Z h0 #[(.ref ar0), (.int 0), (.int 1)] (Q_rmz15 Z ar0 kr0 z0_0 z0_1 z0_2 z0_3 u8 zc fv h0 n0) := by
  refine own_met (plainFor_of_name pn_268) ?_
  intro p e s m below meth c s₁ hx hby hlk hml hown hnm hrt hZ hh X0 e0
  have N0 := Fr.nil n0
  refine oG m s₁ 0 #[vR ar0,vI 0,vI 1] [] (fun _ k => castTop (by first | (simp [entryFrame,mkF,argsToLocals,Value.category]; done) | rfl) k) ?_
  have K0 := Keep.refl h0 []
  refine oG m s₁ 6 #[vR ar0,vI 0,vI 1] [(.ref ar0),(.int 1)] (fun _ k => XS.iloadN X0.here hx rfl (hb hby d16_0) rfl (XS.ifNo X0.here hx rfl (hb hby d16_1) rfl ((if0 _ _).trans (teq (by decide)).2) (XS.iloadN X0.here hx rfl (hb hby d16_4) rfl (XS.aloadN X0.here hx rfl (hb hby d16_5) rfl rfl k)))) ?_
  obtain ⟨cl1, Ar1, -, S1, M1, -, -⟩ := id V_ar0
  have ql1 := len_of S1 M1
  refine own_go (S' := (s₁.setTop (mkF m 7 #[vR ar0, vI 0, vI 1] [(.int 4), (.int 1)]))) (fun _ kont => X0.arraylength hx (by rw [e0]; exact Ar1.1) (State.isArrayOf_alike hZ.alike Ar1.2.1) (g := (mkF m 6 #[vR ar0, vI 0, vI 1] [(.ref ar0), (.int 1)])) rfl rfl (hb hby d16_6) _ (by rw [ql1]; exact kont)) ?_
  refine oG m s₁ 13 #[vR ar0,vI 0,vI 1] [(.int 1),(.int 0),(.ref ar0)] (fun _ k => XS.icmpNo X0.here hx rfl (hb hby d16_7) rfl (feq (by decide)).1 (XS.aloadN X0.here hx rfl (hb hby d16_10) rfl rfl (XS.iloadN X0.here hx rfl (hb hby d16_11) rfl (XS.iloadN X0.here hx rfl (hb hby d16_12) rfl k)))) ?_
  obtain ⟨v2, T2, Lc2, X2, hQ2, st2⟩ := own_cS X0 hx hZ hown (oH hw 90 rfl) (oH hw 91 rfl) (oH hw 88 rfl) (oH hw 92 rfl) (by decide) (rmz14 l Z a0 hw [] ar0 kr0 z0_0 z0_1 z0_2 z0_3 u8 zc fv h0 n0 Z0 V_ar0 g_ar0 E_ar0 SS) (W := 0) (by decide) (by decide) (g := (mkF m 13 #[vR ar0, vI 0, vI 1] [(.int 1), (.int 0), (.ref ar0)])) rfl (by rw [hml]; rfl) (argsL := [(.ref ar0), (.int 0), (.int 1)]) (rest := []) (lenOf pd_298 rfl) rfl rfl rfl (hb hby d16_13) e0 rfl (by decide : 0 + 1 ≤ _) (by decide : 0 + 1 ≤ _)
  obtain ⟨na2_0, ka2_0, rfl, Nq2, Kc2, sa2_0, va2_0⟩ := hQ2
  have Kt2 := K0.trans Kc2 (fun x hx => nomatch hx)
  have N2 := Fr.app N0 Nq2
  have Z2 : n0 ≤ T2.heap.size := Nat.le_trans Z0 Kc2.1
  have c2_Var0 := V_ar0.keep Kc2 nin0
  have c2_Ear0 := E_ar0.keep Kc2
  have c2_USS := SS.keep Kc2 own_ns0
  refine oG m T2 16 #[vR ar0,vI 0,vI 1] [(.ref na2_0)] (fun _ k => st2 _ k) ?_
  have g_na2_0 : n0 ≤ na2_0 := Nat.le_trans Z0 sa2_0
  have sz_na2_0 : h0.size ≤ na2_0 := Nat.le_trans K0.1 sa2_0
  have ne_ar0_na2_0 : ar0 ≠ na2_0 := Nat.ne_of_lt (Nat.lt_of_lt_of_le E_ar0.lt sa2_0)
  refine own_retA X2 hx hlk (rfl) rfl hrt (hb hby d16_16) (by decide) (by decide) ?_
  exact ⟨na2_0, ka2_0, (by first | rfl | decide), N2, Kt2, sz_na2_0, va2_0⟩
theorem d49_66 : decode C49 66 = .ok (.invokestatic 54, 3) := by decide +kernel
theorem d49_69 : decode C49 69 = .ok (.putfield 9, 3) := by decide +kernel
theorem d49_72 : decode C49 72 = .ok (.aload_n 0, 1) := by decide +kernel
theorem d49_73 : decode C49 73 = .ok (.iconst 0, 1) := by decide +kernel
theorem d49_74 : decode C49 74 = .ok (.putfield 15, 3) := by decide +kernel
theorem d49_77 : decode C49 77 = .ok (.return_, 1) := by decide +kernel
theorem ef_rmz16 (m : MethodId) (x0 : Addr) (x1 : Addr) (x2 : Addr) (x3 : Int32) (x4 : Int32) : entryFrame m #[(.ref x0), (.ref x1), (.ref x2), (.int x3), (.int x4)] 11 = mkF m 0 #[vR x0, vR x1, vR x2, vI x3, vI x4, oU, oU, oU, oU, oU, oU] [] := by first | (simp [entryFrame, mkF, argsToLocals, Value.category]; done) | rfl
def Q_rmz16 (Z : State) (ob0 : Addr) (ar2 : Addr) (kr2 : ClassId) (z2_0 : Int32) (z2_1 : Int32) (z2_2 : Int32) (z2_3 : Int32) (u8 : Addr) (zc : Int32) (fv : Value) (h0 : Heap) (n0 : Nat) (v : Option Value) (h : Heap) (L : List Loc) : Prop := ∃ (NA0 : Addr) (KA0 : ClassId), v = none ∧ Fr n0 L ∧ Keep h0 h [ob0] ∧ h0.size ≤ NA0 ∧ Arv Z h NA0 KA0 .byte (1 : Int32) [(.int z2_0)] (.int 0) ∧ Fld Z h ob0 "java/lang/String" "value" "[B" (.ref NA0) ∧ Fld Z h ob0 "java/lang/String" "coder" "B" (.int 0)
theorem rmz16 (l : Launch) (Z : State) (a0 : Array Value) (hw : ∀ d ∈ tables_1, d.before a0 Z = true) (ws : List Jvm.Cond) (ob0 : Addr) (ar2 : Addr) (kr2 : ClassId) (z2_0 : Int32) (z2_1 : Int32) (z2_2 : Int32) (z2_3 : Int32) (u8 : Addr) (zc : Int32) (fv : Value) (h0 : Heap) (n0 : Nat) (Z0 : n0 ≤ h0.size) (E_ob0 : Exa Z h0 ob0 "java/lang/String") (g_ob0 : n0 ≤ ob0) (F_ob0_value : Fld Z h0 ob0 "java/lang/String" "value" "[B" .null) (F_ob0_coder : Fld Z h0 ob0 "java/lang/String" "coder" "B" (.int 0)) (V_ar2 : Arv Z h0 ar2 kr2 .byte (4 : Int32) [(.int z2_0), (.int z2_1), (.int z2_2), (.int z2_3)] (.int 0)) (g_ar2 : n0 ≤ ar2) (E_ar2 : Exa Z h0 ar2 "[B") (ne_ob0_ar2 : ob0 ≠ ar2) (SS : own_Sx Z h0 u8 zc fv) (hq0 : ¬ z2_0 < (0 : Int32)) :
    MetFree l (⟨"java/lang/String", "<init>", "(Ljava/nio/charset/Charset;[BII)V"⟩ : MethodName) (head1 (Jvm.Cond.codeWith (⟨"java/lang/String", "<init>", "(Ljava/nio/charset/Charset;[BII)V"⟩ : MethodName) jdk_42_method_11_code 11 none [(800, 813, 816, 202)] :: ws) ({ frames := 3, cells := 1, slots := 1, locals := 49 } : Room)) (fun a U => a = #[(.ref ob0), (.ref u8), (.ref ar2), (.int 0), (.int 1)] ∧ Z.Warmed39 U.vm ∧ U.heap = h0) (fun _ _ _ _ _ => True) (fun _ U o U' => ∃ v L, o = .returned v ∧ Q_rmz16 Z ob0 ar2 kr2 z2_0 z2_1 z2_2 z2_3 u8 zc fv h0 n0 v U'.heap L ∧ FrameEnd U o U' L ({ frames := 3, cells := 1, slots := 1, locals := 49 } : Room).cells ({ frames := 3, cells := 1, slots := 1, locals := 49 } : Room).slots) := by
  refine MetFree.of_bodySF (plainFor_of_name pn_22) hisWith ?_
  intro p e s m args below meth c s₁ Bd hml0 hP hK
  obtain ⟨rfl, hZ, hh⟩ := hP
  have hx := Bd.exec
  have hby := Bd.bytes
  have hlk := Bd.notSynchronized
  have hml : c.maxLocals = 11 := hml0
  have hown : s.vm.findClass "java/lang/String" = some m.cls := findClass_of_methodNamed Bd.named
  have hnm := (name_of_methodNamed Bd.named Bd.method).1
  have X0 : Stand p l e ({ frames := 3, cells := 1, slots := 1, locals := 49 } : Room) s m #[(.ref ob0), (.ref u8), (.ref ar2), (.int 0), (.int 1)] below meth c s₁ [] 0 0 := Stand.of_body Bd
  have e0 : s₁.heap = h0 := by rw [← hh, Bd.state]; rfl
  have N0 := Fr.nil n0
  change own_Go p e below s (Q_rmz16 Z ob0 ar2 kr2 z2_0 z2_1 z2_2 z2_3 u8 zc fv h0 n0) ({ frames := 3, cells := 1, slots := 1, locals := 49 } : Room).cells ({ frames := 3, cells := 1, slots := 1, locals := 49 } : Room).slots _
  refine own_go (S' := (s₁.setTop (mkF m 0 #[vR ob0, vR u8, vR ar2, vI 0, vI 1, oU, oU, oU, oU, oU, oU] []))) (fun _ kont => castTop (ef_rmz16 m ob0 u8 ar2 (0 : Int32) (1 : Int32)) kont) ?_
  have K0 := Keep.refl h0 [ob0]
  refine oG m s₁ 1 #[vR ob0,vR u8,vR ar2,vI 0,vI 1,oU,oU,oU,oU,oU,oU] [(.ref ob0)] (fun _ k => XS.aloadN X0.here hx rfl (hb hby d49_0) rfl rfl k) ?_
  obtain ⟨T1, X1, e1, st1⟩ := initO X0 hx hZ hown (oH hw 78 rfl) (oH hw 18 rfl) (oH hw 19 rfl) e0 (g := (mkF m 1 #[vR ob0, vR u8, vR ar2, vI 0, vI 1, oU, oU, oU, oU, oU, oU] [(.ref ob0)])) rfl (by rw [hml]; rfl) rfl (hb hby d49_1) (by decide) (W := 0) (by show 2 * 0 + _ ≤ _; exact Nat.le_of_eq rfl) (by decide)
  refine oG m T1 31 #[vR ob0,vR u8,vR ar2,vI 0,vI 1,oU,oU,oU,oU,oU,oU] [(.ref u8)] (fun _ k => st1 _ (XS.iload X1.here hx rfl (hb hby d49_4) rfl (XS.ifYes X1.here hx rfl (pc0 := 6) (pc' := 30) rfl (hb hby d49_6) rfl ((if0 _ _).trans (feq (by decide)).2) (by decide) (by decide) (XS.aloadN X1.here hx rfl (hb hby d49_30) rfl rfl k)))) ?_
  have Sg2 := SS.sI
  obtain ⟨T3, X3, e3, st3⟩ := getS2 X1 hx hZ hown (host := "") (Or.inl (oH hw 79 rfl)) Via.refl e1 Sg2 (g := (mkF m 31 #[vR ob0, vR u8, vR ar2, vI 0, vI 1, oU, oU, oU, oU, oU, oU] [(.ref u8)])) rfl (hb hby d49_31)
  refine oG m T3 37 #[vR ob0,vR u8,vR ar2,vI 0,vI 1,oU,oU,oU,oU,oU,oU] [] (fun _ k => st3 _ (Jvm.RoadKit.acmp (g := (mkF m 34 #[vR ob0,vR u8,vR ar2,vI 0,vI 1,oU,oU,oU,oU,oU,oU] [(.ref u8),(.ref u8)])) X3 hx rfl rfl rfl (pc0 := 34) (pc' := 37) (same := true) rfl (hb hby d49_34) rfl (decide_eq_true rfl) (by decide) (by decide) k)) ?_
  have Sg4 := SS.sC
  obtain ⟨T5, X5, e5, st5⟩ := getS2 X3 hx hZ hown (host := "") (Or.inl (oH hw 81 rfl)) Via.refl e3 Sg4 (g := (mkF m 37 #[vR ob0, vR u8, vR ar2, vI 0, vI 1, oU, oU, oU, oU, oU, oU] [])) rfl (hb hby d49_37)
  refine oG m T5 47 #[vR ob0,vR u8,vR ar2,vI 0,vI 1,oU,oU,oU,oU,oU,oU] [(.int 1),(.int 0),(.ref ar2)] (fun _ k => st5 _ (XS.ifNo X5.here hx rfl (hb hby d49_40) rfl ((if0 _ _).trans (feq SS.nz).1) (XS.aloadN X5.here hx rfl (hb hby d49_43) rfl rfl (XS.iloadN X5.here hx rfl (hb hby d49_44) rfl (XS.iload X5.here hx rfl (hb hby d49_45) rfl k))))) ?_
  obtain ⟨T6, X6, e6, st6⟩ := own_cP X5 hx hZ hown (oH hw 82 rfl) (oH hw 83 rfl) (oH hw 84 rfl) (oH hw 85 rfl) (by decide) (rmz11 l Z a0 hw [] ar2 kr2 z2_0 z2_1 z2_2 z2_3 u8 zc fv h0 n0 Z0 V_ar2 g_ar2 E_ar2 SS hq0) (W := 0) (by decide) (by decide) (g := (mkF m 47 #[vR ob0, vR u8, vR ar2, vI 0, vI 1, oU, oU, oU, oU, oU, oU] [(.int 1), (.int 0), (.ref ar2)])) rfl (by rw [hml]; rfl) (argsL := [(.ref ar2), (.int 0), (.int 1)]) (rest := []) (lenOf pd_242 rfl) rfl rfl rfl (hb hby d49_47) e5 rfl (by decide) (by decide) (by decide : 0 ≤ _) (by decide : 0 ≤ _)
  refine oG m T6 66 #[vR ob0,vR u8,vR ar2,vI 0,vI 1,vI 1,oU,oU,oU,oU,oU] [(.int ((0 : Int32) + (1 : Int32))),(.int 0),(.ref ar2),(.ref ob0)] (fun _ k => st6 _ (XS.istore X6.here hx rfl (hb hby d49_50) rfl (l' := #[vR ob0,vR u8,vR ar2,vI 0,vI 1,vI 1,oU,oU,oU,oU,oU]) rfl (XS.iload X6.here hx rfl (hb hby d49_52) rfl (XS.iload X6.here hx rfl (hb hby d49_54) rfl (XS.icmpNo X6.here hx rfl (hb hby d49_56) rfl (teq (by decide)).2 (XS.aloadN X6.here hx rfl (hb hby d49_59) rfl rfl (XS.aloadN X6.here hx rfl (hb hby d49_60) rfl rfl (XS.iloadN X6.here hx rfl (hb hby d49_61) rfl (XS.iloadN X6.here hx rfl (hb hby d49_62) rfl (XS.iload X6.here hx rfl (hb hby d49_63) rfl (XS.iadd X6.here hx rfl (hb hby d49_65) rfl k))))))))))) ?_
  rw [show ((0 : Int32) + (1 : Int32)) = (1 : Int32) from by decide]
  obtain ⟨v7, T7, Lc7, X7, hQ7, st7⟩ := own_cS X6 hx hZ hown (oH hw 86 rfl) (oH hw 87 rfl) (oH hw 88 rfl) (oH hw 89 rfl) (by decide) (rmz15 l Z a0 hw [] ar2 kr2 z2_0 z2_1 z2_2 z2_3 u8 zc fv h0 n0 Z0 V_ar2 g_ar2 E_ar2 SS) (W := 1) (by decide) (by decide) (g := (mkF m 66 #[vR ob0, vR u8, vR ar2, vI 0, vI 1, vI 1, oU, oU, oU, oU, oU] [(.int 1), (.int 0), (.ref ar2), (.ref ob0)])) rfl (by rw [hml]; rfl) (argsL := [(.ref ar2), (.int 0), (.int 1)]) (rest := [(.ref ob0)]) (lenOf pd_298 rfl) rfl rfl rfl (hb hby d49_66) e6 rfl (by decide : 0 + 1 ≤ _) (by decide : 0 + 1 ≤ _)
  obtain ⟨na7_0, ka7_0, rfl, Nq7, Kc7, sa7_0, va7_0⟩ := hQ7
  have Kt7 := K0.trans Kc7 (fun x hx => nomatch hx)
  have N7 := Fr.app N0 Nq7
  have Z7 : n0 ≤ T7.heap.size := Nat.le_trans Z0 Kc7.1
  have c7_Eob0 := E_ob0.keep Kc7
  have c7_Fob0_value := F_ob0_value.keep Kc7 nin0
  have c7_Fob0_coder := F_ob0_coder.keep Kc7 nin0
  have c7_Var2 := V_ar2.keep Kc7 nin0
  have c7_Ear2 := E_ar2.keep Kc7
  have c7_USS := SS.keep Kc7 own_ns0
  refine oG m T7 69 #[vR ob0,vR u8,vR ar2,vI 0,vI 1,vI 1,oU,oU,oU,oU,oU] [(.ref na7_0),(.ref ob0)] (fun _ k => st7 _ k) ?_
  have g_na7_0 : n0 ≤ na7_0 := Nat.le_trans Z0 sa7_0
  have sz_na7_0 : h0.size ≤ na7_0 := Nat.le_trans K0.1 sa7_0
  have ne_ob0_na7_0 : ob0 ≠ na7_0 := Nat.ne_of_lt (Nat.lt_of_lt_of_le E_ob0.lt sa7_0)
  have ne_ar2_na7_0 : ar2 ≠ na7_0 := Nat.ne_of_lt (Nat.lt_of_lt_of_le E_ar2.lt sa7_0)
  obtain ⟨T8, h8, X8, e8, W8, st8⟩ := putF X7 hx hZ hown (host := "") (Or.inl (oH hw 104 rfl)) Via.refl rfl c7_Fob0_value c7_Eob0 (Or.inr ⟨(oH hw 105 rfl), rfl, hnm⟩) (oH hw 53 rfl) (ty := (.array .byte)) (by decide) rfl rfl (g := (mkF m 69 #[vR ob0, vR u8, vR ar2, vI 0, vI 1, vI 1, oU, oU, oU, oU, oU] [(.ref na7_0), (.ref ob0)])) rfl rfl (hb hby d49_69)
  have c8_Eob0 := c7_Eob0.wr W8
  have c8_Fob0_value := c7_Fob0_value.same W8
  have c8_Fob0_coder := c7_Fob0_coder.other W8 (Or.inr (slot_ne (Or.inr (oH hw 107 rfl)) (Or.inr (oH hw 105 rfl)) (by decide) (by decide : parseFieldDescriptor "B" = some .byte) (by decide : parseFieldDescriptor "[B" = some (.array .byte))))
  have c8_Var2 := c7_Var2.other W8 (Ne.symm ne_ob0_ar2)
  have c8_Ear2 := c7_Ear2.wr W8
  have c8_USS := c7_USS.wr W8
  have c8_Vna7_0 := va7_0.other W8 (Ne.symm ne_ob0_na7_0)
  have K8 := Kt7.wr W8 (Or.inl (List.mem_of_getElem? (i := 0) rfl))
  have N8 := Fr.snoc X8 N7 g_ob0
  have Z8 : n0 ≤ h8.size := Nat.le_trans Z7 (Nat.le_of_eq W8.size.symm)
  refine oG m T8 74 #[vR ob0,vR u8,vR ar2,vI 0,vI 1,vI 1,oU,oU,oU,oU,oU] [(.int 0),(.ref ob0)] (fun _ k => st8 _ (XS.aloadN X8.here hx rfl (hb hby d49_72) rfl rfl (XS.iconst X8.here hx rfl (hb hby d49_73) k))) ?_
  obtain ⟨T9, h9, X9, e9, W9, st9⟩ := putFN X8 hx hZ hown (oH hw 106 rfl) Via.refl e8 c8_Fob0_coder c8_Eob0 (Or.inr ⟨(oH hw 107 rfl), rfl, hnm⟩) (oH hw 53 rfl) (ty := .byte) (v' := (.int 0)) (by decide) rfl (by first | exact fits_nar_byte _ | rfl | decide) (g := (mkF m 74 #[vR ob0, vR u8, vR ar2, vI 0, vI 1, vI 1, oU, oU, oU, oU, oU] [(.int 0), (.ref ob0)])) rfl rfl (hb hby d49_74)
  have c9_Eob0 := c8_Eob0.wr W9
  have c9_Fob0_value := c8_Fob0_value.other W9 (Or.inr (slot_ne (Or.inr (oH hw 105 rfl)) (Or.inr (oH hw 107 rfl)) (by decide) (by decide : parseFieldDescriptor "[B" = some (.array .byte)) (by decide : parseFieldDescriptor "B" = some .byte)))
  have c9_Fob0_coder := c8_Fob0_coder.same W9
  have c9_Var2 := c8_Var2.other W9 (Ne.symm ne_ob0_ar2)
  have c9_Ear2 := c8_Ear2.wr W9
  have c9_USS := c8_USS.wr W9
  have c9_Vna7_0 := c8_Vna7_0.other W9 (Ne.symm ne_ob0_na7_0)
  have K9 := K8.wr W9 (Or.inl (List.mem_of_getElem? (i := 0) rfl))
  have N9 := Fr.snoc X9 N8 g_ob0
  have Z9 : n0 ≤ h9.size := Nat.le_trans Z8 (Nat.le_of_eq W9.size.symm)
  refine oG m T9 77 #[vR ob0,vR u8,vR ar2,vI 0,vI 1,vI 1,oU,oU,oU,oU,oU] [] (fun _ k => st9 _ k) ?_
  refine own_ret0 X9 hx hlk Bd.returns (hb hby d49_77) (by decide) (by decide) ?_
  rw [e9]
  exact ⟨na7_0, ka7_0, (by first | rfl | decide), N9, K9, sz_na7_0, c9_Vna7_0, c9_Fob0_value, c9_Fob0_coder⟩
theorem d11_18 : decode C11 18 = .ok (.invokespecial 75, 3) := by decide +kernel
theorem pd_307 : parseMethodDescriptor "(Ljava/nio/charset/Charset;[BII)V" = some ⟨[(.object "java/nio/charset/Charset"), (.array .byte), .int, .int], none⟩ := by decide +kernel
theorem d11_21 : decode C11 21 = .ok (.return_, 1) := by decide +kernel
def Q_rmz17 (Z : State) (ob0 : Addr) (ar1 : Addr) (kr1 : ClassId) (z1_0 : Int32) (z1_1 : Int32) (z1_2 : Int32) (z1_3 : Int32) (u8 : Addr) (zc : Int32) (fv : Value) (h0 : Heap) (n0 : Nat) (v : Option Value) (h : Heap) (L : List Loc) : Prop := ∃ (NA0 : Addr) (KA0 : ClassId), v = none ∧ Fr n0 L ∧ Keep h0 h [ob0] ∧ h0.size ≤ NA0 ∧ Arv Z h NA0 KA0 .byte (1 : Int32) [(.int z1_0)] (.int 0) ∧ Fld Z h ob0 "java/lang/String" "value" "[B" (.ref NA0) ∧ Fld Z h ob0 "java/lang/String" "coder" "B" (.int 0)
theorem rmz17 (l : Launch) (Z : State) (a0 : Array Value) (hw : oW a0 Z) (ws : List Jvm.Cond) (ob0 : Addr) (ar1 : Addr) (kr1 : ClassId) (z1_0 : Int32) (z1_1 : Int32) (z1_2 : Int32) (z1_3 : Int32) (u8 : Addr) (zc : Int32) (fv : Value) (h0 : Heap) (n0 : Nat) (Z0 : n0 ≤ h0.size) (E_ob0 : Exa Z h0 ob0 "java/lang/String") (g_ob0 : n0 ≤ ob0) (F_ob0_value : Fld Z h0 ob0 "java/lang/String" "value" "[B" .null) (F_ob0_coder : Fld Z h0 ob0 "java/lang/String" "coder" "B" (.int 0)) (V_ar1 : Arv Z h0 ar1 kr1 .byte (4 : Int32) [(.int z1_0), (.int z1_1), (.int z1_2), (.int z1_3)] (.int 0)) (g_ar1 : n0 ≤ ar1) (E_ar1 : Exa Z h0 ar1 "[B") (ne_ob0_ar1 : ob0 ≠ ar1) (SS : own_Sx Z h0 u8 zc fv) (hq0 : ¬ z1_0 < (0 : Int32)) : own_K l (⟨"java/lang/String", "<init>", "([BIILjava/nio/charset/Charset;)V"⟩ : MethodName) jdk_42_method_10_code 5 none ws ({ frames := 4, cells := 1, slots := 1, locals := 71 } : Room) Z h0 #[(.ref ob0), (.ref ar1), (.int 0), (.int 1), (.ref u8)] (Q_rmz17 Z ob0 ar1 kr1 z1_0 z1_1 z1_2 z1_3 u8 zc fv h0 n0) := by
  refine own_met (plainFor_of_name pn_22) ?_
  intro p e s m below meth c s₁ hx hby hlk hml hown hnm hrt hZ hh X0 e0
  have N0 := Fr.nil n0
  refine oG m s₁ 0 #[vR ob0,vR ar1,vI 0,vI 1,vR u8] [] (fun _ k => castTop (by first | (simp [entryFrame,mkF,argsToLocals,Value.category]; done) | rfl) k) ?_
  have K0 := Keep.refl h0 [ob0]
  refine oG m s₁ 3 #[vR ob0,vR ar1,vI 0,vI 1,vR u8] [(.ref u8),(.ref ob0)] (fun _ k => XS.aloadN X0.here hx rfl (hb hby d11_0) rfl rfl (XS.aload X0.here hx rfl (hb hby d11_1) rfl rfl k)) ?_
  obtain ⟨T1, X1, e1, st1⟩ := own_cP X0 hx hZ hown (oH hw 60 rfl) (oH hw 61 rfl) (oH hw 62 rfl) (oH hw 63 rfl) (by decide) (rmz8 l Z a0 hw []  u8 zc fv h0 n0 Z0  SS) (W := 1) (by decide) (by decide) (g := (mkF m 3 #[vR ob0, vR ar1, vI 0, vI 1, vR u8] [(.ref u8), (.ref ob0)])) rfl (by rw [hml]; rfl) (argsL := [(.ref u8)]) (rest := [(.ref ob0)]) (lenOf pd_180 rfl) rfl rfl rfl (hb hby d11_3) e0 rfl (by decide) (by decide) (by decide : 0 ≤ _) (by decide : 0 ≤ _)
  refine oG m T1 6 #[vR ob0,vR ar1,vI 0,vI 1,vR u8] [(.ref u8),(.ref ob0)] (fun _ k => st1 _ k) ?_
  obtain ⟨T2, X2, e2, st2⟩ := castY X1 hx hZ hown (oH hw 64 rfl) e1 (Ins.of_exa SS.eu (oH hw 65 rfl)) (g := (mkF m 6 #[vR ob0, vR ar1, vI 0, vI 1, vR u8] [(.ref u8), (.ref ob0)])) rfl rfl (hb hby d11_6)
  refine oG m T2 13 #[vR ob0,vR ar1,vI 0,vI 1,vR u8] [(.ref ar1),(.int 1),(.int 0),(.ref ar1),(.ref u8),(.ref ob0)] (fun _ k => st2 _ (XS.aloadN X2.here hx rfl (hb hby d11_9) rfl rfl (XS.iloadN X2.here hx rfl (hb hby d11_10) rfl (XS.iloadN X2.here hx rfl (hb hby d11_11) rfl (XS.aloadN X2.here hx rfl (hb hby d11_12) rfl rfl k))))) ?_
  obtain ⟨cl3, Ar3, -, S3, M3, -, -⟩ := id V_ar1
  have ql3 := len_of S3 M3
  refine own_go (S' := (T2.setTop (mkF m 14 #[vR ob0, vR ar1, vI 0, vI 1, vR u8] [(.int 4), (.int 1), (.int 0), (.ref ar1), (.ref u8), (.ref ob0)]))) (fun _ kont => X2.arraylength hx (by rw [e2]; exact Ar3.1) (State.isArrayOf_alike hZ.alike Ar3.2.1) (g := (mkF m 13 #[vR ob0, vR ar1, vI 0, vI 1, vR u8] [(.ref ar1), (.int 1), (.int 0), (.ref ar1), (.ref u8), (.ref ob0)])) rfl rfl (hb hby d11_13) _ (by rw [ql3]; exact kont)) ?_
  obtain ⟨T4, X4, e4, st4⟩ := own_cP X2 hx hZ hown (oH hw 66 rfl) (oH hw 67 rfl) (oH hw 54 rfl) (oH hw 68 rfl) (by decide) (rmz10 l Z a0 hw [] (0 : Int32) (1 : Int32) (4 : Int32) u8 zc fv h0 n0 Z0  SS (by decide) (by decide)) (W := 3) (by decide) (by decide) (g := (mkF m 14 #[vR ob0, vR ar1, vI 0, vI 1, vR u8] [(.int 4), (.int 1), (.int 0), (.ref ar1), (.ref u8), (.ref ob0)])) rfl (by rw [hml]; rfl) (argsL := [(.int 0), (.int 1), (.int 4)]) (rest := [(.ref ar1), (.ref u8), (.ref ob0)]) (lenOf pd_209 rfl) rfl rfl rfl (hb hby d11_14) e2 rfl (by decide) (by decide) (by decide : 0 ≤ _) (by decide : 0 ≤ _)
  refine oG m T4 18 #[vR ob0,vR ar1,vI 0,vI 1,vR u8] [(.int 1),(.int 0),(.ref ar1),(.ref u8),(.ref ob0)] (fun _ k => st4 _ (XS.iloadN X4.here hx rfl (hb hby d11_17) rfl k)) ?_
  obtain ⟨v5, _, ⟨T5, L5, k5, n5⟩, -, X5, ⟨Lc5, hQ5, l5, y5, z5⟩, st5⟩ := X4.specialBackH hx (y := (⟨"java/lang/String", "<init>", "(Ljava/nio/charset/Charset;[BII)V"⟩ : MethodName)) rfl hown (mvT hZ (oH hw 74 rfl)) (mvT hZ (oH hw 75 rfl)) (mvT hZ (oH hw 77 rfl)) (by decide) (backOfWith (W := 0) (rmz16 l Z a0 hw [] ob0 ar1 kr1 z1_0 z1_1 z1_2 z1_3 u8 zc fv h0 n0 Z0 E_ob0 g_ob0 F_ob0_value F_ob0_coder V_ar1 g_ar1 E_ar1 ne_ob0_ar1 SS hq0) hZ (oH hw 77 rfl) (oH hw 54 rfl) (by decide) (by decide)) (g := (mkF m 18 #[vR ob0, vR ar1, vI 0, vI 1, vR u8] [(.int 1), (.int 0), (.ref ar1), (.ref u8), (.ref ob0)])) rfl (by rw [hml]; rfl) (Steps.refl _) (a := ob0) (argsL := [(.ref u8), (.ref ar1), (.int 0), (.int 1)]) (rest := []) (lenOf pd_307 rfl) rfl (by show 2 * 0 + _ ≤ _; exact Nat.le_of_eq rfl) (hb hby d11_18) (fun _ _ => ⟨rfl, e4, (by decide : 0 + 1 ≤ _), (by decide : 0 + 1 ≤ _)⟩)
  dsimp only [Pt.U, Pt.locs, Pt.cells, Pt.slots] at X5 l5 y5 z5 st5 hQ5
  subst l5 y5 z5
  obtain ⟨na5_0, ka5_0, rfl, Nq5, Kc5, sa5_0, va5_0, wo5_0_value, wo5_0_coder⟩ := hQ5
  have Kt5 := K0.trans Kc5 (fun x hx => by simp only [List.mem_cons, List.mem_singleton, List.not_mem_nil, or_false] at hx; rcases hx with rfl <;> first | (left; simp; done) | (right; assumption))
  have N5 := Fr.app N0 Nq5
  have Z5 : n0 ≤ T5.heap.size := Nat.le_trans Z0 Kc5.1
  have c5_Eob0 := E_ob0.keep Kc5
  have c5_Var1 := V_ar1.keep Kc5 (ninS (Ne.symm ne_ob0_ar1) nin0)
  have c5_Ear1 := E_ar1.keep Kc5
  have c5_USS := SS.keep Kc5 (own_nsS (own_nsE E_ob0) own_ns0)
  refine oG m T5 21 #[vR ob0,vR ar1,vI 0,vI 1,vR u8] [] (fun _ k => st5.trans k) ?_
  have g_na5_0 : n0 ≤ na5_0 := Nat.le_trans Z0 sa5_0
  have sz_na5_0 : h0.size ≤ na5_0 := Nat.le_trans K0.1 sa5_0
  have ne_ob0_na5_0 : ob0 ≠ na5_0 := Nat.ne_of_lt (Nat.lt_of_lt_of_le E_ob0.lt sa5_0)
  have ne_ar1_na5_0 : ar1 ≠ na5_0 := Nat.ne_of_lt (Nat.lt_of_lt_of_le E_ar1.lt sa5_0)
  refine own_ret0 X5 hx hlk hrt (hb hby d11_21) (by decide) (by decide) ?_
  exact ⟨na5_0, ka5_0, (by first | rfl | decide), N5, Kt5, sz_na5_0, va5_0, wo5_0_value, wo5_0_coder⟩
theorem d10_15 : decode C10 15 = .ok (.invokespecial 95, 3) := by decide +kernel
theorem pd_310 : parseMethodDescriptor "([BIILjava/nio/charset/Charset;)V" = some ⟨[(.array .byte), .int, .int, (.object "java/nio/charset/Charset")], none⟩ := by decide +kernel
theorem d10_18 : decode C10 18 = .ok (.areturn, 1) := by decide +kernel
def Q_rmz18 (Z : State) (ob0 : Addr) (ar0b : Addr) (kr0b : ClassId) (z0b_0 : Int32) (z0b_1 : Int32) (z0b_2 : Int32) (z0b_3 : Int32) (u8 : Addr) (zc : Int32) (fv : Value) (h0 : Heap) (n0 : Nat) (v : Option Value) (h : Heap) (L : List Loc) : Prop := ∃ (NA0 : Addr) (KA0 : ClassId), ∃ NO0 : Addr, v = some (.ref NO0) ∧ Fr n0 L ∧ Keep h0 h [] ∧ h0.size ≤ NA0 ∧ Arv Z h NA0 KA0 .byte (1 : Int32) [(.int z0b_0)] (.int 0) ∧ h0.size ≤ NO0 ∧ Exa Z h NO0 "java/lang/String" ∧ Fld Z h NO0 "java/lang/String" "value" "[B" (.ref NA0) ∧ Fld Z h NO0 "java/lang/String" "coder" "B" (.int 0)
theorem rmz18 (l : Launch) (Z : State) (a0 : Array Value) (hw : oW a0 Z) (ws : List Jvm.Cond) (ob0 : Addr) (ar0b : Addr) (kr0b : ClassId) (z0b_0 : Int32) (z0b_1 : Int32) (z0b_2 : Int32) (z0b_3 : Int32) (u8 : Addr) (zc : Int32) (fv : Value) (h0 : Heap) (n0 : Nat) (Z0 : n0 ≤ h0.size) (E_ob0 : Exa Z h0 ob0 "clearcut/Text") (g_ob0 : n0 ≤ ob0) (V_ar0b : Arv Z h0 ar0b kr0b .byte (4 : Int32) [(.int z0b_0), (.int z0b_1), (.int z0b_2), (.int z0b_3)] (.int 0)) (g_ar0b : n0 ≤ ar0b) (E_ar0b : Exa Z h0 ar0b "[B") (F_ob0_bytes : Fld Z h0 ob0 "clearcut/Text" "bytes" "[B" (.ref ar0b)) (ne_ob0_ar0b : ob0 ≠ ar0b) (SS : own_Sx Z h0 u8 zc fv) (hq0 : ¬ z0b_0 < (0 : Int32)) : own_K l (⟨"clearcut/Text", "decode", "(II)Ljava/lang/String;"⟩ : MethodName) prog_60_method_17_code 3 (some (.object "java/lang/String")) ws ({ frames := 5, cells := 2, slots := 5, locals := 88 } : Room) Z h0 #[(.ref ob0), (.int 0), (.int 1)] (Q_rmz18 Z ob0 ar0b kr0b z0b_0 z0b_1 z0b_2 z0b_3 u8 zc fv h0 n0) := by
  refine own_met (plainFor_of_name pn_78) ?_
  intro p e s m below meth c s₁ hx hby hlk hml hown hnm hrt hZ hh X0 e0
  have N0 := Fr.nil n0
  refine oG m s₁ 0 #[vR ob0,vI 0,vI 1] [] (fun _ k => castTop (by first | (simp [entryFrame,mkF,argsToLocals,Value.category]; done) | rfl) k) ?_
  have K0 := Keep.refl h0 []
  obtain ⟨T1, h1, X1, e1, E1, A1, D1, -, st1⟩ := newO X0 hx hZ hown (oH hw 52 rfl) (oH hw 53 rfl) (oH hw 54 rfl) e0 (g := (mkF m 0 #[vR ob0, vI 0, vI 1] [])) rfl (hb hby d10_0) (by decide) (by decide)
  obtain ⟨b1, gz1⟩ : ∃ z, z = h0.size := ⟨_, rfl⟩
  rw [← gz1] at A1 D1 st1
  have sz_b1 : h0.size ≤ b1 := Nat.le_trans K0.1 (Nat.le_of_eq gz1.symm)
  have ne_ob0_b1 : ob0 ≠ b1 := Nat.ne_of_lt (by rw [gz1]; exact E_ob0.lt)
  have ne_ar0b_b1 : ar0b ≠ b1 := Nat.ne_of_lt (by rw [gz1]; exact V_ar0b.lt)
  have c1_Eob0 := E_ob0.ext E1
  have c1_Var0b := V_ar0b.ext E1
  have c1_Ear0b := E_ar0b.ext E1
  have c1_Fob0_bytes := F_ob0_bytes.ext E1
  have c1_USS := SS.ext E1
  have K1 := K0.ext E1
  have g_b1 : n0 ≤ b1 := Nat.le_trans Z0 (Nat.le_of_eq gz1.symm)
  have F1_value : Fld Z h1 b1 "java/lang/String" "value" "[B" .null := D1 (Or.inr (oH hw 105 rfl)) (ty := (.array .byte)) (by decide)
  have F1_coder : Fld Z h1 b1 "java/lang/String" "coder" "B" (.int 0) := D1 (Or.inr (oH hw 107 rfl)) (ty := .byte) (by decide)
  have Z1 : n0 ≤ h1.size := Nat.le_trans Z0 E1.1
  refine oG m T1 5 #[vR ob0,vI 0,vI 1] [(.ref ob0),(.ref b1),(.ref b1)] (fun _ k => st1 _ (XS.dup X1.here hx rfl (hb hby d10_3) rfl rfl (XS.aloadN X1.here hx rfl (hb hby d10_4) rfl rfl k))) ?_
  obtain ⟨T2, X2, e2, st2⟩ := getF X1 hx hZ hown (host := "") (Or.inl (oH hw 20 rfl)) Via.refl e1 c1_Fob0_bytes (g := (mkF m 5 #[vR ob0, vI 0, vI 1] [(.ref ob0), (.ref b1), (.ref b1)])) rfl rfl (hb hby d10_5)
  refine oG m T2 12 #[vR ob0,vI 0,vI 1] [(.int ((1 : Int32) - (0 : Int32))),(.int 0),(.ref ar0b),(.ref b1),(.ref b1)] (fun _ k => st2 _ (XS.iloadN X2.here hx rfl (hb hby d10_8) rfl (XS.iloadN X2.here hx rfl (hb hby d10_9) rfl (XS.iloadN X2.here hx rfl (hb hby d10_10) rfl (XS.isub X2.here hx rfl (hb hby d10_11) rfl k))))) ?_
  rw [show ((1 : Int32) - (0 : Int32)) = (1 : Int32) from by decide]
  have Sg3 := c1_USS.sU
  obtain ⟨T4, X4, e4, st4⟩ := getS2 X2 hx hZ hown (host := "") (Or.inl (oH hw 55 rfl)) Via.refl e2 Sg3 (g := (mkF m 12 #[vR ob0, vI 0, vI 1] [(.int 1), (.int 0), (.ref ar0b), (.ref b1), (.ref b1)])) rfl (hb hby d10_12)
  refine oG m T4 15 #[vR ob0,vI 0,vI 1] [(.ref u8),(.int 1),(.int 0),(.ref ar0b),(.ref b1),(.ref b1)] (fun _ k => st4 _ k) ?_
  obtain ⟨v5, _, ⟨T5, L5, k5, n5⟩, -, X5, ⟨Lc5, hQ5, l5, y5, z5⟩, st5⟩ := X4.specialBack hx (y := (⟨"java/lang/String", "<init>", "([BIILjava/nio/charset/Charset;)V"⟩ : MethodName)) rfl hown (mvT hZ (oH hw 57 rfl)) (mvT hZ (oH hw 58 rfl)) (mvT hZ (oH hw 59 rfl)) (by decide) (backOf (W := 1) (rmz17 l Z a0 hw [] b1 ar0b kr0b z0b_0 z0b_1 z0b_2 z0b_3 u8 zc fv h1 n0 Z1 A1 g_b1 F1_value F1_coder c1_Var0b g_ar0b c1_Ear0b (Ne.symm ne_ar0b_b1) c1_USS hq0) hZ (oH hw 59 rfl) (oH hw 54 rfl) (by decide) (by decide)) (g := (mkF m 15 #[vR ob0, vI 0, vI 1] [(.ref u8), (.int 1), (.int 0), (.ref ar0b), (.ref b1), (.ref b1)])) rfl (by rw [hml]; rfl) (Steps.refl _) (a := b1) (argsL := [(.ref ar0b), (.int 0), (.int 1), (.ref u8)]) (rest := [(.ref b1)]) (lenOf pd_310 rfl) rfl (by show 2 * 0 + _ ≤ _; exact Nat.le_of_eq rfl) (hb hby d10_15) (fun _ _ => ⟨rfl, e4, (by decide : 1 + 1 ≤ _), (by decide : 4 + 1 ≤ _)⟩)
  dsimp only [Pt.U, Pt.locs, Pt.cells, Pt.slots] at X5 l5 y5 z5 st5 hQ5
  subst l5 y5 z5
  obtain ⟨na5_0, ka5_0, rfl, Nq5, Kc5, sa5_0, va5_0, wo5_0_value, wo5_0_coder⟩ := hQ5
  have Kt5 := K1.trans Kc5 (fun x hx => by simp only [List.mem_cons, List.mem_singleton, List.not_mem_nil, or_false] at hx; rcases hx with rfl <;> first | (left; simp; done) | (right; assumption))
  have N5 := Fr.app N0 Nq5
  have Z5 : n0 ≤ T5.heap.size := Nat.le_trans Z1 Kc5.1
  have c5_Eob0 := c1_Eob0.keep Kc5
  have c5_Var0b := c1_Var0b.keep Kc5 (ninS ne_ar0b_b1 nin0)
  have c5_Ear0b := c1_Ear0b.keep Kc5
  have c5_Fob0_bytes := c1_Fob0_bytes.keep Kc5 (ninS ne_ob0_b1 nin0)
  have c5_USS := c1_USS.keep Kc5 (own_nsS (own_nsE A1) own_ns0)
  have c5_Eb1 := A1.keep Kc5
  refine oG m T5 18 #[vR ob0,vI 0,vI 1] [(.ref b1)] (fun _ k => st5.trans k) ?_
  have g_na5_0 : n0 ≤ na5_0 := Nat.le_trans Z1 sa5_0
  have sz_na5_0 : h0.size ≤ na5_0 := Nat.le_trans K1.1 sa5_0
  have ne_ob0_na5_0 : ob0 ≠ na5_0 := Nat.ne_of_lt (Nat.lt_of_lt_of_le c1_Eob0.lt sa5_0)
  have ne_ar0b_na5_0 : ar0b ≠ na5_0 := Nat.ne_of_lt (Nat.lt_of_lt_of_le c1_Ear0b.lt sa5_0)
  have ne_b1_na5_0 : b1 ≠ na5_0 := Nat.ne_of_lt (Nat.lt_of_lt_of_le A1.lt sa5_0)
  refine own_retA X5 hx hlk (rfl) rfl hrt (hb hby d10_18) (by decide) (by decide) ?_
  exact ⟨na5_0, ka5_0, b1, (by first | rfl | decide), N5, Kt5, sz_na5_0, va5_0, sz_b1, c5_Eb1, wo5_0_value, wo5_0_coder⟩
theorem d9_11 : decode C9 11 = .ok (.invokevirtual 45, 3) := by decide +kernel
theorem pd_313 : parseMethodDescriptor "(II)Ljava/lang/String;" = some ⟨[.int, .int], some (.object "java/lang/String")⟩ := by decide +kernel
theorem d9_14 : decode C9 14 = .ok (.areturn, 1) := by decide +kernel
def Q_rmz19 (Z : State) (ob0 : Addr) (ar0b : Addr) (kr0b : ClassId) (z0b_0 : Int32) (z0b_1 : Int32) (z0b_2 : Int32) (z0b_3 : Int32) (u8 : Addr) (zc : Int32) (fv : Value) (h0 : Heap) (n0 : Nat) (v : Option Value) (h : Heap) (L : List Loc) : Prop := ∃ (NA0 : Addr) (KA0 : ClassId), ∃ NO0 : Addr, v = some (.ref NO0) ∧ Fr n0 L ∧ Keep h0 h [] ∧ h0.size ≤ NA0 ∧ Arv Z h NA0 KA0 .byte (1 : Int32) [(.int z0b_0)] (.int 0) ∧ h0.size ≤ NO0 ∧ Exa Z h NO0 "java/lang/String" ∧ Fld Z h NO0 "java/lang/String" "value" "[B" (.ref NA0) ∧ Fld Z h NO0 "java/lang/String" "coder" "B" (.int 0)
theorem rmz19 (l : Launch) (Z : State) (a0 : Array Value) (hw : oW a0 Z) (ws : List Jvm.Cond) (ob0 : Addr) (ar0b : Addr) (kr0b : ClassId) (z0b_0 : Int32) (z0b_1 : Int32) (z0b_2 : Int32) (z0b_3 : Int32) (u8 : Addr) (zc : Int32) (fv : Value) (h0 : Heap) (n0 : Nat) (Z0 : n0 ≤ h0.size) (E_ob0 : Exa Z h0 ob0 "clearcut/Text") (g_ob0 : n0 ≤ ob0) (V_ar0b : Arv Z h0 ar0b kr0b .byte (4 : Int32) [(.int z0b_0), (.int z0b_1), (.int z0b_2), (.int z0b_3)] (.int 0)) (g_ar0b : n0 ≤ ar0b) (E_ar0b : Exa Z h0 ar0b "[B") (F_ob0_bytes : Fld Z h0 ob0 "clearcut/Text" "bytes" "[B" (.ref ar0b)) (ne_ob0_ar0b : ob0 ≠ ar0b) (SS : own_Sx Z h0 u8 zc fv) (hq0 : ¬ z0b_0 < (0 : Int32)) : own_K l (⟨"clearcut/Text", "substring", "(II)Ljava/lang/String;"⟩ : MethodName) prog_60_method_13_code 4 (some (.object "java/lang/String")) ws ({ frames := 6, cells := 2, slots := 5, locals := 102 } : Room) Z h0 #[(.ref ob0), (.int 0), (.int 1)] (Q_rmz19 Z ob0 ar0b kr0b z0b_0 z0b_1 z0b_2 z0b_3 u8 zc fv h0 n0) := by
  refine own_met (plainFor_of_name pn_78) ?_
  intro p e s m below meth c s₁ hx hby hlk hml hown hnm hrt hZ hh X0 e0
  have N0 := Fr.nil n0
  refine oG m s₁ 0 #[vR ob0,vI 0,vI 1,oU] [] (fun _ k => castTop (by first | (simp [entryFrame,mkF,argsToLocals,Value.category]; done) | rfl) k) ?_
  have K0 := Keep.refl h0 []
  refine oG m s₁ 3 #[vR ob0,vI 0,vI 1,oU] [(.int ((1 : Int32) - (0 : Int32)))] (fun _ k => XS.iloadN X0.here hx rfl (hb hby d9_0) rfl (XS.iloadN X0.here hx rfl (hb hby d9_1) rfl (XS.isub X0.here hx rfl (hb hby d9_2) rfl k))) ?_
  rw [show ((1 : Int32) - (0 : Int32)) = (1 : Int32) from by decide]
  refine oG m s₁ 11 #[vR ob0,vI 0,vI 1,oU] [(.int 1),(.int 0),(.ref ob0)] (fun _ k => (X0.ldcInt hx hown (mvT hZ (oH hw 47 rfl)) (g := (mkF m 3 #[vR ob0,vI 0,vI 1,oU] [(.int 1)])) rfl (hb hby d9_3)) _ (XS.icmpNo X0.here hx rfl (hb hby d9_5) rfl (flt (by decide)).2.2.1 (XS.aloadN X0.here hx rfl (hb hby d9_8) rfl rfl (XS.iloadN X0.here hx rfl (hb hby d9_9) rfl (XS.iloadN X0.here hx rfl (hb hby d9_10) rfl k))))) ?_
  obtain ⟨cq1, qp1, qp1'⟩ := E_ob0.cell
  obtain ⟨v1, _, ⟨T1, L1, k1, n1⟩, -, X1, ⟨Lc1, hQ1, l1, y1, z1⟩, st1⟩ := X0.privateBack hx (y := (⟨"clearcut/Text", "decode", "(II)Ljava/lang/String;"⟩ : MethodName)) hown (mvT hZ (oH hw 48 rfl)) (mvT hZ (oH hw 49 rfl)) (own_selP (args := #[]) (mvT hZ (oH hw 13 rfl)) (mvP hZ (oH hw 50 rfl)) (mvT hZ (oH hw 49 rfl)) (by decide)) (Cond.privateMethod_at (mvP hZ (oH hw 50 rfl) (args := #[]))) (mvT hZ (oH hw 51 rfl)) (by decide) (backOf (W := 0) (rmz18 l Z a0 hw [] ob0 ar0b kr0b z0b_0 z0b_1 z0b_2 z0b_3 u8 zc fv h0 n0 Z0 E_ob0 g_ob0 V_ar0b g_ar0b E_ar0b F_ob0_bytes ne_ob0_ar0b SS hq0) hZ (oH hw 51 rfl) (oH hw 5 rfl) (by decide) (by decide)) (g := (mkF m 11 #[vR ob0, vI 0, vI 1, oU] [(.int 1), (.int 0), (.ref ob0)])) rfl (by rw [hml]; rfl) (Steps.refl _) (a := ob0) (by rw [e0]; exact qp1) qp1' (argsL := [(.int 0), (.int 1)]) (rest := []) (lenOf pd_313 rfl) rfl (by show 2 * 0 + _ ≤ _; exact Nat.le_of_eq rfl) (hb hby d9_11) (fun _ _ => ⟨rfl, e0, (by decide : 0 + 2 ≤ _), (by decide : 0 + 5 ≤ _)⟩)
  dsimp only [Pt.U, Pt.locs, Pt.cells, Pt.slots] at X1 l1 y1 z1 st1 hQ1
  subst l1 y1 z1
  obtain ⟨na1_0, ka1_0, no1_0, rfl, Nq1, Kc1, sa1_0, va1_0, so1_0, eo1_0, fo1_0_value, fo1_0_coder⟩ := hQ1
  have Kt1 := K0.trans Kc1 (fun x hx => nomatch hx)
  have N1 := Fr.app N0 Nq1
  have Z1 : n0 ≤ T1.heap.size := Nat.le_trans Z0 Kc1.1
  have c1_Eob0 := E_ob0.keep Kc1
  have c1_Var0b := V_ar0b.keep Kc1 nin0
  have c1_Ear0b := E_ar0b.keep Kc1
  have c1_Fob0_bytes := F_ob0_bytes.keep Kc1 nin0
  have c1_USS := SS.keep Kc1 own_ns0
  refine oG m T1 14 #[vR ob0,vI 0,vI 1,oU] [(.ref no1_0)] (fun _ k => st1.trans k) ?_
  have g_na1_0 : n0 ≤ na1_0 := Nat.le_trans Z0 sa1_0
  have sz_na1_0 : h0.size ≤ na1_0 := Nat.le_trans K0.1 sa1_0
  have ne_ob0_na1_0 : ob0 ≠ na1_0 := Nat.ne_of_lt (Nat.lt_of_lt_of_le E_ob0.lt sa1_0)
  have ne_ar0b_na1_0 : ar0b ≠ na1_0 := Nat.ne_of_lt (Nat.lt_of_lt_of_le E_ar0b.lt sa1_0)
  have g_no1_0 : n0 ≤ no1_0 := Nat.le_trans Z0 so1_0
  have sz_no1_0 : h0.size ≤ no1_0 := Nat.le_trans K0.1 so1_0
  have ne_ob0_no1_0 : ob0 ≠ no1_0 := Nat.ne_of_lt (Nat.lt_of_lt_of_le E_ob0.lt so1_0)
  have ne_ar0b_no1_0 : ar0b ≠ no1_0 := Nat.ne_of_lt (Nat.lt_of_lt_of_le E_ar0b.lt so1_0)
  refine own_retA X1 hx hlk (rfl) rfl hrt (hb hby d9_14) (by decide) (by decide) ?_
  exact ⟨na1_0, ka1_0, no1_0, (by first | rfl | decide), N1, Kt1, sz_na1_0, va1_0, sz_no1_0, eo1_0, fo1_0_value, fo1_0_coder⟩
theorem d20_0 : decode C20 0 = .ok (.aload_n 0, 1) := by decide +kernel
theorem d20_1 : decode C20 1 = .ok (.getfield 9, 3) := by decide +kernel
theorem d20_4 : decode C20 4 = .ok (.arraylength, 1) := by decide +kernel
theorem d20_5 : decode C20 5 = .ok (.aload_n 0, 1) := by decide +kernel
theorem d21_0 : decode C21 0 = .ok (.getstatic 38, 3) := by decide +kernel
theorem d21_3 : decode C21 3 = .ok (.ifCond .eq 10, 3) := by decide +kernel
theorem d21_6 : decode C21 6 = .ok (.aload_n 0, 1) := by decide +kernel
theorem d21_7 : decode C21 7 = .ok (.getfield 15, 3) := by decide +kernel
theorem d21_10 : decode C21 10 = .ok (.goto 4, 3) := by decide +kernel
theorem d21_14 : decode C21 14 = .ok (.ireturn, 1) := by decide +kernel
theorem rmz20 (l : Launch) (Z : State) (a0 : Array Value) (hw : oW a0 Z) (ws : List Jvm.Cond) (ob0 : Addr) (ar0v : Addr) (kr0v : ClassId) (z0v_0 : Int32) (u8 : Addr) (zc : Int32) (fv : Value) (h0 : Heap) (n0 : Nat) (Z0 : n0 ≤ h0.size) (E_ob0 : Exa Z h0 ob0 "java/lang/String") (g_ob0 : n0 ≤ ob0) (V_ar0v : Arv Z h0 ar0v kr0v .byte (1 : Int32) [(.int z0v_0)] (.int 0)) (g_ar0v : n0 ≤ ar0v) (F_ob0_value : Fld Z h0 ob0 "java/lang/String" "value" "[B" (.ref ar0v)) (F_ob0_coder : Fld Z h0 ob0 "java/lang/String" "coder" "B" (.int 0)) (ne_ob0_ar0v : ob0 ≠ ar0v) (SS : own_Sx Z h0 u8 zc fv)  : own_K l (⟨"java/lang/String", "coder", "()B"⟩ : MethodName) jdk_42_method_152_code 1 (some .byte) ws ({ frames := 0, cells := 0, slots := 0, locals := 0 } : Room) Z h0 #[(.ref ob0)] (own_QP h0 (some (.int 0))) := by
  refine own_met (plainFor_of_name pn_22) ?_
  intro p e s m below meth c s₁ hx hby hlk hml hown hnm hrt hZ hh X0 e0
  have N0 := Fr.nil n0
  refine oG m s₁ 0 #[vR ob0] [] (fun _ k => castTop (by first | (simp [entryFrame,mkF,argsToLocals,Value.category]; done) | rfl) k) ?_
  have K0 := Keep.refl h0 []
  have Sg1 := SS.sC
  obtain ⟨T2, X2, e2, st2⟩ := getS2 X0 hx hZ hown (host := "") (Or.inl (oH hw 81 rfl)) Via.refl e0 Sg1 (g := (mkF m 0 #[vR ob0] [])) rfl (hb hby d21_0)
  refine oG m T2 7 #[vR ob0] [(.ref ob0)] (fun _ k => st2 _ (XS.ifNo X2.here hx rfl (hb hby d21_3) rfl ((if0 _ _).trans (feq SS.nz).1) (XS.aloadN X2.here hx rfl (hb hby d21_6) rfl rfl k))) ?_
  obtain ⟨T3, X3, e3, st3⟩ := getF X2 hx hZ hown (host := "") (Or.inl (oH hw 106 rfl)) Via.refl e2 F_ob0_coder (g := (mkF m 7 #[vR ob0] [(.ref ob0)])) rfl rfl (hb hby d21_7)
  refine oG m T3 14 #[vR ob0] [(.int 0)] (fun _ k => st3 _ (XS.goto X3.here hx rfl (pc0 := 10) (pc' := 14) rfl (hb hby d21_10) (by decide) (by decide) k)) ?_
  refine own_retN (t := .byte) X3 hx hlk (by simp) hrt (hb hby d21_14) (by decide) (by decide) ?_
  exact ⟨by first | rfl | decide, e3, rfl⟩
theorem d20_6 : decode C20 6 = .ok (.invokevirtual 335, 3) := by decide +kernel
theorem pd_326 : parseMethodDescriptor "()B" = some ⟨[], some .byte⟩ := by decide +kernel
theorem d20_9 : decode C20 9 = .ok (.ishr, 1) := by decide +kernel
theorem d20_10 : decode C20 10 = .ok (.ireturn, 1) := by decide +kernel
theorem rmz21 (l : Launch) (Z : State) (a0 : Array Value) (hw : oW a0 Z) (ws : List Jvm.Cond) (ob0 : Addr) (ar0v : Addr) (kr0v : ClassId) (z0v_0 : Int32) (u8 : Addr) (zc : Int32) (fv : Value) (h0 : Heap) (n0 : Nat) (Z0 : n0 ≤ h0.size) (E_ob0 : Exa Z h0 ob0 "java/lang/String") (g_ob0 : n0 ≤ ob0) (V_ar0v : Arv Z h0 ar0v kr0v .byte (1 : Int32) [(.int z0v_0)] (.int 0)) (g_ar0v : n0 ≤ ar0v) (F_ob0_value : Fld Z h0 ob0 "java/lang/String" "value" "[B" (.ref ar0v)) (F_ob0_coder : Fld Z h0 ob0 "java/lang/String" "coder" "B" (.int 0)) (ne_ob0_ar0v : ob0 ≠ ar0v) (SS : own_Sx Z h0 u8 zc fv)  : own_K l (⟨"java/lang/String", "length", "()I"⟩ : MethodName) jdk_42_method_54_code 1 (some .int) ws ({ frames := 1, cells := 0, slots := 0, locals := 13 } : Room) Z h0 #[(.ref ob0)] (own_QP h0 (some (.int 1))) := by
  refine own_met (plainFor_of_name pn_22) ?_
  intro p e s m below meth c s₁ hx hby hlk hml hown hnm hrt hZ hh X0 e0
  have N0 := Fr.nil n0
  refine oG m s₁ 0 #[vR ob0] [] (fun _ k => castTop (by first | (simp [entryFrame,mkF,argsToLocals,Value.category]; done) | rfl) k) ?_
  have K0 := Keep.refl h0 []
  refine oG m s₁ 1 #[vR ob0] [(.ref ob0)] (fun _ k => XS.aloadN X0.here hx rfl (hb hby d20_0) rfl rfl k) ?_
  obtain ⟨T1, X1, e1, st1⟩ := getF X0 hx hZ hown (host := "") (Or.inl (oH hw 104 rfl)) Via.refl e0 F_ob0_value (g := (mkF m 1 #[vR ob0] [(.ref ob0)])) rfl rfl (hb hby d20_1)
  refine oG m T1 4 #[vR ob0] [(.ref ar0v)] (fun _ k => st1 _ k) ?_
  obtain ⟨cl2, Ar2, -, S2, M2, -, -⟩ := id V_ar0v
  have ql2 := len_of S2 M2
  refine own_go (S' := (T1.setTop (mkF m 5 #[vR ob0] [(.int 1)]))) (fun _ kont => X1.arraylength hx (by rw [e1]; exact Ar2.1) (State.isArrayOf_alike hZ.alike Ar2.2.1) (g := (mkF m 4 #[vR ob0] [(.ref ar0v)])) rfl rfl (hb hby d20_4) _ (by rw [ql2]; exact kont)) ?_
  refine oG m T1 6 #[vR ob0] [(.ref ob0),(.int 1)] (fun _ k => XS.aloadN X1.here hx rfl (hb hby d20_5) rfl rfl k) ?_
  obtain ⟨cq3, kq3, q3a, q3b, q3c⟩ := isOf hZ e1 E_ob0
  obtain ⟨v3, _, ⟨T3, L3, k3, n3⟩, -, X3, ⟨Lc3, hQ3, l3, y3, z3⟩, st3⟩ := X1.virtualBack hx (y := (⟨"java/lang/String", "coder", "()B"⟩ : MethodName)) (z := (⟨"java/lang/String", "coder", "()B"⟩ : MethodName)) hown (mvT hZ (oH hw 114 rfl)) (mvT hZ (oH hw 115 rfl)) (notFace_of_selects (args := #[]) (mvT hZ (oH hw 117 rfl))) (mvT hZ (oH hw 117 rfl)) (mvT hZ (oH hw 116 rfl)) (by decide) (backOf (W := 1) (rmz20 l Z a0 hw [] ob0 ar0v kr0v z0v_0 u8 zc fv h0 n0 Z0 E_ob0 g_ob0 V_ar0v g_ar0v F_ob0_value F_ob0_coder ne_ob0_ar0v SS) hZ (oH hw 118 rfl) (oH hw 54 rfl) (by decide) (by decide)) q3a q3c (g := (mkF m 6 #[vR ob0] [(.ref ob0), (.int 1)])) rfl (by rw [hml]; rfl) (Steps.refl _) (argsL := []) (rest := [(.int 1)]) (lenOf pd_326 rfl) rfl (by show 2 * 0 + _ ≤ _; exact Nat.le_of_eq rfl) (hb hby d20_6) (fun _ _ => ⟨rfl, e1, (by decide : 0 + 0 ≤ _), (by decide : 0 + 0 ≤ _)⟩)
  dsimp only [Pt.U, Pt.locs, Pt.cells, Pt.slots] at X3 l3 y3 z3 st3 hQ3
  subst l3 y3 z3
  obtain ⟨rfl, eh3, rfl⟩ := hQ3
  have N3 := Fr.app N0 (Fr.nil n0)
  refine oG m T3 10 #[vR ob0] [(.int ((1 : Int32) >>> ((0 : Int32) &&& 31)))] (fun _ k => st3.trans (XS.ishr X3.here hx rfl (hb hby d20_9) rfl k)) ?_
  rw [show ((1 : Int32) >>> ((0 : Int32) &&& 31)) = (1 : Int32) from by decide]
  refine own_retI X3 hx hlk hrt (hb hby d20_10) (by decide) (by decide) ?_
  exact ⟨by first | rfl | decide, eh3, rfl⟩
theorem pd_329 : parseMethodDescriptor "()I" = some ⟨[], some .int⟩ := by decide +kernel
theorem d22_0 : decode C22 0 = .ok (.aload_n 0, 1) := by decide +kernel
theorem d23_0 : decode C23 0 = .ok (.getstatic 38, 3) := by decide +kernel
theorem d23_3 : decode C23 3 = .ok (.ifCond .eq 14, 3) := by decide +kernel
theorem d23_6 : decode C23 6 = .ok (.aload_n 0, 1) := by decide +kernel
theorem d23_7 : decode C23 7 = .ok (.getfield 15, 3) := by decide +kernel
theorem d23_10 : decode C23 10 = .ok (.ifCond .ne 7, 3) := by decide +kernel
theorem d23_13 : decode C23 13 = .ok (.iconst 1, 1) := by decide +kernel
theorem d23_14 : decode C23 14 = .ok (.goto 4, 3) := by decide +kernel
theorem d23_18 : decode C23 18 = .ok (.ireturn, 1) := by decide +kernel
theorem rmz22 (l : Launch) (Z : State) (a0 : Array Value) (hw : oW a0 Z) (ws : List Jvm.Cond) (ob0 : Addr) (ar0v : Addr) (kr0v : ClassId) (z0v_0 : Int32) (u8 : Addr) (zc : Int32) (fv : Value) (h0 : Heap) (n0 : Nat) (Z0 : n0 ≤ h0.size) (E_ob0 : Exa Z h0 ob0 "java/lang/String") (g_ob0 : n0 ≤ ob0) (V_ar0v : Arv Z h0 ar0v kr0v .byte (1 : Int32) [(.int z0v_0)] (.int 0)) (g_ar0v : n0 ≤ ar0v) (F_ob0_value : Fld Z h0 ob0 "java/lang/String" "value" "[B" (.ref ar0v)) (F_ob0_coder : Fld Z h0 ob0 "java/lang/String" "coder" "B" (.int 0)) (ne_ob0_ar0v : ob0 ≠ ar0v) (SS : own_Sx Z h0 u8 zc fv)  : own_K l (⟨"java/lang/String", "isLatin1", "()Z"⟩ : MethodName) jdk_42_method_154_code 1 (some .boolean) ws ({ frames := 0, cells := 0, slots := 0, locals := 0 } : Room) Z h0 #[(.ref ob0)] (own_QP h0 (some (.int 1))) := by
  refine own_met (plainFor_of_name pn_22) ?_
  intro p e s m below meth c s₁ hx hby hlk hml hown hnm hrt hZ hh X0 e0
  have N0 := Fr.nil n0
  refine oG m s₁ 0 #[vR ob0] [] (fun _ k => castTop (by first | (simp [entryFrame,mkF,argsToLocals,Value.category]; done) | rfl) k) ?_
  have K0 := Keep.refl h0 []
  have Sg1 := SS.sC
  obtain ⟨T2, X2, e2, st2⟩ := getS2 X0 hx hZ hown (host := "") (Or.inl (oH hw 81 rfl)) Via.refl e0 Sg1 (g := (mkF m 0 #[vR ob0] [])) rfl (hb hby d23_0)
  refine oG m T2 7 #[vR ob0] [(.ref ob0)] (fun _ k => st2 _ (XS.ifNo X2.here hx rfl (hb hby d23_3) rfl ((if0 _ _).trans (feq SS.nz).1) (XS.aloadN X2.here hx rfl (hb hby d23_6) rfl rfl k))) ?_
  obtain ⟨T3, X3, e3, st3⟩ := getF X2 hx hZ hown (host := "") (Or.inl (oH hw 106 rfl)) Via.refl e2 F_ob0_coder (g := (mkF m 7 #[vR ob0] [(.ref ob0)])) rfl rfl (hb hby d23_7)
  refine oG m T3 18 #[vR ob0] [(.int 1)] (fun _ k => st3 _ (XS.ifNo X3.here hx rfl (hb hby d23_10) rfl ((if0 _ _).trans (teq (by decide)).2) (XS.iconst X3.here hx rfl (hb hby d23_13) (XS.goto X3.here hx rfl (pc0 := 14) (pc' := 18) rfl (hb hby d23_14) (by decide) (by decide) k)))) ?_
  refine own_retN (t := .boolean) X3 hx hlk (by simp) hrt (hb hby d23_18) (by decide) (by decide) ?_
  exact ⟨by first | rfl | decide, e3, rfl⟩
theorem d22_1 : decode C22 1 = .ok (.invokevirtual 492, 3) := by decide +kernel
theorem pd_340 : parseMethodDescriptor "()Z" = some ⟨[], some .boolean⟩ := by decide +kernel
theorem d22_4 : decode C22 4 = .ok (.ifCond .eq 12, 3) := by decide +kernel
theorem d22_7 : decode C22 7 = .ok (.aload_n 0, 1) := by decide +kernel
theorem d22_8 : decode C22 8 = .ok (.getfield 9, 3) := by decide +kernel
theorem d22_11 : decode C22 11 = .ok (.iload_n 1, 1) := by decide +kernel
theorem d24_0 : decode C24 0 = .ok (.iload_n 1, 1) := by decide +kernel
theorem d24_1 : decode C24 1 = .ok (.aload_n 0, 1) := by decide +kernel
theorem d24_2 : decode C24 2 = .ok (.arraylength, 1) := by decide +kernel
theorem d25_0 : decode C25 0 = .ok (.iload_n 0, 1) := by decide +kernel
theorem d25_1 : decode C25 1 = .ok (.iload_n 1, 1) := by decide +kernel
theorem d25_2 : decode C25 2 = .ok (.getstatic 1053, 3) := by decide +kernel
theorem d26_0 : decode C26 0 = .ok (.iload_n 0, 1) := by decide +kernel
theorem d26_1 : decode C26 1 = .ok (.ifCond .lt 8, 3) := by decide +kernel
theorem d26_4 : decode C26 4 = .ok (.iload_n 0, 1) := by decide +kernel
theorem d26_5 : decode C26 5 = .ok (.iload_n 1, 1) := by decide +kernel
theorem d26_6 : decode C26 6 = .ok (.if_icmp .lt 10, 3) := by decide +kernel
theorem d26_16 : decode C26 16 = .ok (.iload_n 0, 1) := by decide +kernel
theorem d26_17 : decode C26 17 = .ok (.ireturn, 1) := by decide +kernel
theorem rmz23 (l : Launch) (Z : State) (a0 : Array Value) (hw : oW a0 Z) (ws : List Jvm.Cond) (x0 : Int32) (x1 : Int32) (u8 : Addr) (zc : Int32) (fv : Value) (h0 : Heap) (n0 : Nat) (Z0 : n0 ≤ h0.size)   (SS : own_Sx Z h0 u8 zc fv) (hq0 : ¬ x0 < (0 : Int32)) (hq1 : x0 < x1) : own_K l (⟨"jdk/internal/util/Preconditions", "checkIndex", "(IILjava/util/function/BiFunction;)I"⟩ : MethodName) jdk_41_method_11_code 3 (some .int) ws ({ frames := 0, cells := 0, slots := 0, locals := 0 } : Room) Z h0 #[(.int x0), (.int x1), fv] (own_QP h0 (some (.int x0))) := by
  refine own_met (plainFor_of_name pn_204) ?_
  intro p e s m below meth c s₁ hx hby hlk hml hown hnm hrt hZ hh X0 e0
  have N0 := Fr.nil n0
  refine oG m s₁ 0 #[vI x0,vI x1,.val fv] [] (fun _ k => castTop (by rcases own_rc SS.fr with rfl | ⟨aa,rfl⟩ <;> first | (simp [entryFrame,mkF,argsToLocals,Value.category]; done) | rfl) k) ?_
  have K0 := Keep.refl h0 []
  refine oG m s₁ 17 #[vI x0,vI x1,.val fv] [(.int x0)] (fun _ k => XS.iloadN X0.here hx rfl (hb hby d26_0) rfl (XS.ifNo X0.here hx rfl (hb hby d26_1) rfl ((if0 _ _).trans (flt hq0).1) (XS.iloadN X0.here hx rfl (hb hby d26_4) rfl (XS.iloadN X0.here hx rfl (hb hby d26_5) rfl (XS.icmpYes X0.here hx rfl (pc0 := 6) (pc' := 16) rfl (hb hby d26_6) rfl (tlt hq1).1 (by decide) (by decide) (XS.iloadN X0.here hx rfl (hb hby d26_16) rfl k)))))) ?_
  refine own_retI X0 hx hlk hrt (hb hby d26_17) (by decide) (by decide) ?_
  exact ⟨by first | rfl | decide, e0, rfl⟩
theorem d25_5 : decode C25 5 = .ok (.invokestatic 1059, 3) := by decide +kernel
theorem pd_359 : parseMethodDescriptor "(IILjava/util/function/BiFunction;)I" = some ⟨[.int, .int, (.object "java/util/function/BiFunction")], some .int⟩ := by decide +kernel
theorem d25_8 : decode C25 8 = .ok (.pop, 1) := by decide +kernel
theorem d25_9 : decode C25 9 = .ok (.return_, 1) := by decide +kernel
theorem rmz24 (l : Launch) (Z : State) (a0 : Array Value) (hw : oW a0 Z) (ws : List Jvm.Cond) (x0 : Int32) (x1 : Int32) (u8 : Addr) (zc : Int32) (fv : Value) (h0 : Heap) (n0 : Nat) (Z0 : n0 ≤ h0.size)   (SS : own_Sx Z h0 u8 zc fv) (hq0 : ¬ x0 < (0 : Int32)) (hq1 : x0 < x1) : own_K l (⟨"java/lang/String", "checkIndex", "(II)V"⟩ : MethodName) jdk_42_method_155_code 2 none ws ({ frames := 1, cells := 0, slots := 0, locals := 14 } : Room) Z h0 #[(.int x0), (.int x1)] (own_QP h0 (none)) := by
  refine own_met (plainFor_of_name pn_22) ?_
  intro p e s m below meth c s₁ hx hby hlk hml hown hnm hrt hZ hh X0 e0
  have N0 := Fr.nil n0
  refine oG m s₁ 0 #[vI x0,vI x1] [] (fun _ k => castTop (by first | (simp [entryFrame,mkF,argsToLocals,Value.category]; done) | rfl) k) ?_
  have K0 := Keep.refl h0 []
  refine oG m s₁ 2 #[vI x0,vI x1] [(.int x1),(.int x0)] (fun _ k => XS.iloadN X0.here hx rfl (hb hby d25_0) rfl (XS.iloadN X0.here hx rfl (hb hby d25_1) rfl k)) ?_
  have Sg1 := SS.sF
  obtain ⟨T2, X2, e2, st2⟩ := getS2 X0 hx hZ hown (host := "") (Or.inl (oH hw 69 rfl)) Via.refl e0 Sg1 (g := (mkF m 2 #[vI x0, vI x1] [(.int x1), (.int x0)])) rfl (hb hby d25_2)
  refine oG m T2 5 #[vI x0,vI x1] [fv,(.int x1),(.int x0)] (fun _ k => st2 _ k) ?_
  obtain ⟨T3, X3, e3, st3⟩ := own_cP X2 hx hZ hown (oH hw 136 rfl) (oH hw 137 rfl) (oH hw 70 rfl) (oH hw 138 rfl) (by decide) (rmz23 l Z a0 hw [] x0 x1 u8 zc fv h0 n0 Z0  SS hq0 hq1) (W := 0) (by decide) (by decide) (g := (mkF m 5 #[vI x0, vI x1] [fv, (.int x1), (.int x0)])) rfl (by rw [hml]; rfl) (argsL := [(.int x0), (.int x1), fv]) (rest := []) (lenOf pd_359 rfl) rfl rfl rfl (hb hby d25_5) e2 rfl (by decide) (by decide) (by decide : 0 ≤ _) (by decide : 0 ≤ _)
  refine oG m T3 9 #[vI x0,vI x1] [] (fun _ k => st3 _ (XS.pop X3.here hx rfl (hb hby d25_8) rfl rfl k)) ?_
  refine own_ret0 X3 hx hlk hrt (hb hby d25_9) (by decide) (by decide) ?_
  exact ⟨by first | rfl | decide, e3, rfl⟩
theorem d24_3 : decode C24 3 = .ok (.invokestatic 9, 3) := by decide +kernel
theorem d24_6 : decode C24 6 = .ok (.aload_n 0, 1) := by decide +kernel
theorem d24_7 : decode C24 7 = .ok (.iload_n 1, 1) := by decide +kernel
theorem d24_8 : decode C24 8 = .ok (.baload, 1) := by decide +kernel
theorem d24_9 : decode C24 9 = .ok (.sipush 255, 3) := by decide +kernel
theorem d24_12 : decode C24 12 = .ok (.iand, 1) := by decide +kernel
theorem d24_13 : decode C24 13 = .ok (.i2c, 1) := by decide +kernel
theorem d24_14 : decode C24 14 = .ok (.ireturn, 1) := by decide +kernel
theorem pn_370 : plainName "java/lang/StringLatin1" = true := by first | (simp [plainName, overriddenIn]; done) | decide +kernel
theorem rmz25 (l : Launch) (Z : State) (a0 : Array Value) (hw : oW a0 Z) (ws : List Jvm.Cond) (ar0 : Addr) (kr0 : ClassId) (z0_0 : Int32) (u8 : Addr) (zc : Int32) (fv : Value) (h0 : Heap) (n0 : Nat) (Z0 : n0 ≤ h0.size) (V_ar0 : Arv Z h0 ar0 kr0 .byte (1 : Int32) [(.int z0_0)] (.int 0)) (g_ar0 : n0 ≤ ar0)  (SS : own_Sx Z h0 u8 zc fv)  : own_K l (⟨"java/lang/StringLatin1", "charAt", "([BI)C"⟩ : MethodName) jdk_43_method_2_code 2 (some .char) ws ({ frames := 2, cells := 0, slots := 0, locals := 27 } : Room) Z h0 #[(.ref ar0), (.int 0)] (own_QP h0 (some (.int (nar .char ((z0_0 &&& (255 : Int32)).toUInt32.toUInt16.toUInt32.toInt32))))) := by
  refine own_met (plainFor_of_name pn_370) ?_
  intro p e s m below meth c s₁ hx hby hlk hml hown hnm hrt hZ hh X0 e0
  have N0 := Fr.nil n0
  refine oG m s₁ 0 #[vR ar0,vI 0] [] (fun _ k => castTop (by first | (simp [entryFrame,mkF,argsToLocals,Value.category]; done) | rfl) k) ?_
  have K0 := Keep.refl h0 []
  refine oG m s₁ 2 #[vR ar0,vI 0] [(.ref ar0),(.int 0)] (fun _ k => XS.iloadN X0.here hx rfl (hb hby d24_0) rfl (XS.aloadN X0.here hx rfl (hb hby d24_1) rfl rfl k)) ?_
  obtain ⟨cl1, Ar1, -, S1, M1, -, -⟩ := id V_ar0
  have ql1 := len_of S1 M1
  refine own_go (S' := (s₁.setTop (mkF m 3 #[vR ar0, vI 0] [(.int 1), (.int 0)]))) (fun _ kont => X0.arraylength hx (by rw [e0]; exact Ar1.1) (State.isArrayOf_alike hZ.alike Ar1.2.1) (g := (mkF m 2 #[vR ar0, vI 0] [(.ref ar0), (.int 0)])) rfl rfl (hb hby d24_2) _ (by rw [ql1]; exact kont)) ?_
  obtain ⟨T2, X2, e2, st2⟩ := own_cP X0 hx hZ hown (oH hw 133 rfl) (oH hw 134 rfl) (oH hw 54 rfl) (oH hw 135 rfl) (by decide) (rmz24 l Z a0 hw [] (0 : Int32) (1 : Int32) u8 zc fv h0 n0 Z0  SS (by decide) (by decide)) (W := 0) (by decide) (by decide) (g := (mkF m 3 #[vR ar0, vI 0] [(.int 1), (.int 0)])) rfl (by rw [hml]; rfl) (argsL := [(.int 0), (.int 1)]) (rest := []) (lenOf pd_270 rfl) rfl rfl rfl (hb hby d24_3) e0 rfl (by decide) (by decide) (by decide : 0 ≤ _) (by decide : 0 ≤ _)
  refine oG m T2 8 #[vR ar0,vI 0] [(.int 0),(.ref ar0)] (fun _ k => st2 _ (XS.aloadN X2.here hx rfl (hb hby d24_6) rfl rfl (XS.iloadN X2.here hx rfl (hb hby d24_7) rfl k))) ?_
  obtain ⟨cl3, Ar3, -, S3, -, H3, -⟩ := id V_ar0
  have hin3 := inb_of (j := (0 : Int32)) S3 ⟨by decide, by decide⟩
  have hat3 := Has.at (v := (.int z0_0)) H3 hin3 (by first | rfl | decide)
  refine own_go (S' := (T2.setTop (mkF m 9 #[vR ar0, vI 0] [(.int z0_0)]))) (fun _ kont => X2.baloadBytes hx (j := (0 : Int32)) (v := (.int z0_0)) (by rw [e2]; exact Ar3.1) (State.isArrayOf_alike hZ.alike Ar3.2.1) Ar3.2.2 hin3 hat3 (g := (mkF m 8 #[vR ar0, vI 0] [(.int 0), (.ref ar0)])) rfl rfl (hb hby d24_8) _ kont) ?_
  refine oG m T2 14 #[vR ar0,vI 0] [(.int ((z0_0 &&& (255 : Int32)).toUInt32.toUInt16.toUInt32.toInt32))] (fun _ k => XS.sipush X2.here hx rfl (hb hby d24_9) (XS.iand X2.here hx rfl (hb hby d24_12) rfl (XS.i2c X2.here hx rfl (hb hby d24_13) rfl k))) ?_
  refine own_retN (t := .char) X2 hx hlk (by simp) hrt (hb hby d24_14) (by decide) (by decide) ?_
  exact ⟨by first | rfl | decide, e2, rfl⟩
theorem d22_12 : decode C22 12 = .ok (.invokestatic 495, 3) := by decide +kernel
theorem pd_372 : parseMethodDescriptor "([BI)C" = some ⟨[(.array .byte), .int], some .char⟩ := by decide +kernel
theorem d22_15 : decode C22 15 = .ok (.ireturn, 1) := by decide +kernel
theorem rmz26 (l : Launch) (Z : State) (a0 : Array Value) (hw : oW a0 Z) (ws : List Jvm.Cond) (ob0 : Addr) (ar0v : Addr) (kr0v : ClassId) (z0v_0 : Int32) (u8 : Addr) (zc : Int32) (fv : Value) (h0 : Heap) (n0 : Nat) (Z0 : n0 ≤ h0.size) (E_ob0 : Exa Z h0 ob0 "java/lang/String") (g_ob0 : n0 ≤ ob0) (V_ar0v : Arv Z h0 ar0v kr0v .byte (1 : Int32) [(.int z0v_0)] (.int 0)) (g_ar0v : n0 ≤ ar0v) (F_ob0_value : Fld Z h0 ob0 "java/lang/String" "value" "[B" (.ref ar0v)) (F_ob0_coder : Fld Z h0 ob0 "java/lang/String" "coder" "B" (.int 0)) (ne_ob0_ar0v : ob0 ≠ ar0v) (SS : own_Sx Z h0 u8 zc fv)  : own_K l (⟨"java/lang/String", "charAt", "(I)C"⟩ : MethodName) jdk_42_method_56_code 2 (some .char) ws ({ frames := 3, cells := 0, slots := 0, locals := 40 } : Room) Z h0 #[(.ref ob0), (.int 0)] (own_QP h0 (some (.int (nar .char (nar .char ((z0v_0 &&& (255 : Int32)).toUInt32.toUInt16.toUInt32.toInt32)))))) := by
  refine own_met (plainFor_of_name pn_22) ?_
  intro p e s m below meth c s₁ hx hby hlk hml hown hnm hrt hZ hh X0 e0
  have N0 := Fr.nil n0
  refine oG m s₁ 0 #[vR ob0,vI 0] [] (fun _ k => castTop (by first | (simp [entryFrame,mkF,argsToLocals,Value.category]; done) | rfl) k) ?_
  have K0 := Keep.refl h0 []
  refine oG m s₁ 1 #[vR ob0,vI 0] [(.ref ob0)] (fun _ k => XS.aloadN X0.here hx rfl (hb hby d22_0) rfl rfl k) ?_
  obtain ⟨cq1, kq1, q1a, q1b, q1c⟩ := isOf hZ e0 E_ob0
  obtain ⟨v1, _, ⟨T1, L1, k1, n1⟩, -, X1, ⟨Lc1, hQ1, l1, y1, z1⟩, st1⟩ := X0.virtualBack hx (y := (⟨"java/lang/String", "isLatin1", "()Z"⟩ : MethodName)) (z := (⟨"java/lang/String", "isLatin1", "()Z"⟩ : MethodName)) hown (mvT hZ (oH hw 124 rfl)) (mvT hZ (oH hw 125 rfl)) (notFace_of_selects (args := #[]) (mvT hZ (oH hw 127 rfl))) (mvT hZ (oH hw 127 rfl)) (mvT hZ (oH hw 126 rfl)) (by decide) (backOf (W := 0) (rmz22 l Z a0 hw [] ob0 ar0v kr0v z0v_0 u8 zc fv h0 n0 Z0 E_ob0 g_ob0 V_ar0v g_ar0v F_ob0_value F_ob0_coder ne_ob0_ar0v SS) hZ (oH hw 128 rfl) (oH hw 54 rfl) (by decide) (by decide)) q1a q1c (g := (mkF m 1 #[vR ob0, vI 0] [(.ref ob0)])) rfl (by rw [hml]; rfl) (Steps.refl _) (argsL := []) (rest := []) (lenOf pd_340 rfl) rfl (by show 2 * 0 + _ ≤ _; exact Nat.le_of_eq rfl) (hb hby d22_1) (fun _ _ => ⟨rfl, e0, (by decide : 0 + 0 ≤ _), (by decide : 0 + 0 ≤ _)⟩)
  dsimp only [Pt.U, Pt.locs, Pt.cells, Pt.slots] at X1 l1 y1 z1 st1 hQ1
  subst l1 y1 z1
  obtain ⟨rfl, eh1, rfl⟩ := hQ1
  have N1 := Fr.app N0 (Fr.nil n0)
  refine oG m T1 8 #[vR ob0,vI 0] [(.ref ob0)] (fun _ k => st1.trans (XS.ifNo X1.here hx rfl (hb hby d22_4) rfl ((if0 _ _).trans (feq (by decide)).1) (XS.aloadN X1.here hx rfl (hb hby d22_7) rfl rfl k))) ?_
  obtain ⟨T2, X2, e2, st2⟩ := getF X1 hx hZ hown (host := "") (Or.inl (oH hw 104 rfl)) Via.refl eh1 F_ob0_value (g := (mkF m 8 #[vR ob0, vI 0] [(.ref ob0)])) rfl rfl (hb hby d22_8)
  refine oG m T2 12 #[vR ob0,vI 0] [(.int 0),(.ref ar0v)] (fun _ k => st2 _ (XS.iloadN X2.here hx rfl (hb hby d22_11) rfl k)) ?_
  obtain ⟨T3, X3, e3, st3⟩ := own_cP X2 hx hZ hown (oH hw 129 rfl) (oH hw 130 rfl) (oH hw 131 rfl) (oH hw 132 rfl) (by decide) (rmz25 l Z a0 hw [] ar0v kr0v z0v_0 u8 zc fv h0 n0 Z0 V_ar0v g_ar0v SS) (W := 0) (by decide) (by decide) (g := (mkF m 12 #[vR ob0, vI 0] [(.int 0), (.ref ar0v)])) rfl (by rw [hml]; rfl) (argsL := [(.ref ar0v), (.int 0)]) (rest := []) (lenOf pd_372 rfl) rfl rfl rfl (hb hby d22_12) e2 rfl (by decide) (by decide) (by decide : 0 ≤ _) (by decide : 0 ≤ _)
  refine oG m T3 15 #[vR ob0,vI 0] [(.int (nar .char ((z0v_0 &&& (255 : Int32)).toUInt32.toUInt16.toUInt32.toInt32)))] (fun _ k => st3 _ k) ?_
  refine own_retN (t := .char) X3 hx hlk (by simp) hrt (hb hby d22_15) (by decide) (by decide) ?_
  exact ⟨by first | rfl | decide, e3, rfl⟩
theorem pd_374 : parseMethodDescriptor "(I)C" = some ⟨[.int], some .char⟩ := by decide +kernel
theorem d1_11 : decode C1 11 = .ok (.iload_n 0, 1) := by decide +kernel
theorem d1_12 : decode C1 12 = .ok (.sipush 2048, 3) := by decide +kernel
theorem d1_15 : decode C1 15 = .ok (.if_icmp .ge 7, 3) := by decide +kernel
theorem d1_18 : decode C1 18 = .ok (.iconst 2, 1) := by decide +kernel
theorem d1_19 : decode C1 19 = .ok (.goto 14, 3) := by decide +kernel
theorem rmz27 (l : Launch) (Z : State) (a0 : Array Value) (hw : oW a0 Z) (ws : List Jvm.Cond) (x0 : Int32) (u8 : Addr) (zc : Int32) (fv : Value) (h0 : Heap) (n0 : Nat) (Z0 : n0 ≤ h0.size)   (SS : own_Sx Z h0 u8 zc fv) (hq0 : ¬ x0 < (128 : Int32)) (hq1 : x0 < (2048 : Int32)) : own_K l (⟨"clearcut/Text", "encodedSize", "(I)I"⟩ : MethodName) prog_60_method_9_code 1 (some .int) ws ({ frames := 0, cells := 0, slots := 0, locals := 0 } : Room) Z h0 #[(.int x0)] (own_QP h0 (some (.int 2))) := by
  refine own_met (plainFor_of_name pn_78) ?_
  intro p e s m below meth c s₁ hx hby hlk hml hown hnm hrt hZ hh X0 e0
  have N0 := Fr.nil n0
  refine oG m s₁ 0 #[vI x0] [] (fun _ k => castTop (by first | (simp [entryFrame,mkF,argsToLocals,Value.category]; done) | rfl) k) ?_
  have K0 := Keep.refl h0 []
  refine oG m s₁ 33 #[vI x0] [(.int 2)] (fun _ k => XS.iloadN X0.here hx rfl (hb hby d1_0) rfl (XS.sipush X0.here hx rfl (hb hby d1_1) (XS.icmpYes X0.here hx rfl (pc0 := 4) (pc' := 11) rfl (hb hby d1_4) rfl (flt hq0).2.1 (by decide) (by decide) (XS.iloadN X0.here hx rfl (hb hby d1_11) rfl (XS.sipush X0.here hx rfl (hb hby d1_12) (XS.icmpNo X0.here hx rfl (hb hby d1_15) rfl (tlt hq1).2.1 (XS.iconst X0.here hx rfl (hb hby d1_18) (XS.goto X0.here hx rfl (pc0 := 19) (pc' := 33) rfl (hb hby d1_19) (by decide) (by decide) k)))))))) ?_
  refine own_retI X0 hx hlk hrt (hb hby d1_33) (by decide) (by decide) ?_
  exact ⟨by first | rfl | decide, e0, rfl⟩
theorem d2_18 : decode C2 18 = .ok (.aload_n 1, 1) := by decide +kernel
theorem d2_19 : decode C2 19 = .ok (.iload_n 2, 1) := by decide +kernel
theorem d2_20 : decode C2 20 = .ok (.iload 5, 2) := by decide +kernel
theorem d2_22 : decode C2 22 = .ok (.iadd, 1) := by decide +kernel
theorem d2_23 : decode C2 23 = .ok (.sipush 128, 3) := by decide +kernel
theorem d2_26 : decode C2 26 = .ok (.iload 4, 2) := by decide +kernel
theorem d2_28 : decode C2 28 = .ok (.bipush 63, 2) := by decide +kernel
theorem d2_30 : decode C2 30 = .ok (.iand, 1) := by decide +kernel
theorem d2_31 : decode C2 31 = .ok (.ior, 1) := by decide +kernel
theorem d2_32 : decode C2 32 = .ok (.i2b, 1) := by decide +kernel
theorem d2_33 : decode C2 33 = .ok (.bastore, 1) := by decide +kernel
theorem d2_34 : decode C2 34 = .ok (.iload 4, 2) := by decide +kernel
theorem d2_36 : decode C2 36 = .ok (.bipush 6, 2) := by decide +kernel
theorem d2_38 : decode C2 38 = .ok (.ishr, 1) := by decide +kernel
theorem d2_39 : decode C2 39 = .ok (.istore 4, 2) := by decide +kernel
theorem d2_41 : decode C2 41 = .ok (.iinc 5 (-1), 3) := by decide +kernel
theorem d2_44 : decode C2 44 = .ok (.goto (-31), 3) := by decide +kernel
theorem d2_59 : decode C2 59 = .ok (.ldc 40, 2) := by decide +kernel
theorem d2_61 : decode C2 61 = .ok (.iload_n 3, 1) := by decide +kernel
theorem d2_62 : decode C2 62 = .ok (.ishr, 1) := by decide +kernel
theorem d2_63 : decode C2 63 = .ok (.iload 4, 2) := by decide +kernel
theorem d2_65 : decode C2 65 = .ok (.ior, 1) := by decide +kernel
def Q_rmz28 (Z : State) (x0 : Int32) (ar1 : Addr) (kr1 : ClassId) (z1_0 : Int32) (z1_1 : Int32) (z1_2 : Int32) (z1_3 : Int32) (u8 : Addr) (zc : Int32) (fv : Value) (h0 : Heap) (n0 : Nat) (v : Option Value) (h : Heap) (L : List Loc) : Prop := v = some (.int 2) ∧ Fr n0 L ∧ Keep h0 h [ar1] ∧ Arv Z h ar1 kr1 .byte (4 : Int32) [(.int (nar .byte (((16320 : Int32) ||| (x0 >>> ((6 : Int32) &&& 31))).toInt8.toInt32))), (.int (nar .byte (((128 : Int32) ||| (x0 &&& (63 : Int32))).toInt8.toInt32))), (.int z1_2), (.int z1_3)] (.int 0)
theorem rmz28 (l : Launch) (Z : State) (a0 : Array Value) (hw : oW a0 Z) (ws : List Jvm.Cond) (x0 : Int32) (ar1 : Addr) (kr1 : ClassId) (z1_0 : Int32) (z1_1 : Int32) (z1_2 : Int32) (z1_3 : Int32) (u8 : Addr) (zc : Int32) (fv : Value) (h0 : Heap) (n0 : Nat) (Z0 : n0 ≤ h0.size) (V_ar1 : Arv Z h0 ar1 kr1 .byte (4 : Int32) [(.int z1_0), (.int z1_1), (.int z1_2), (.int z1_3)] (.int 0)) (g_ar1 : n0 ≤ ar1) (E_ar1 : Exa Z h0 ar1 "[B")  (SS : own_Sx Z h0 u8 zc fv) (hq0 : ¬ x0 < (128 : Int32)) (hq1 : x0 < (2048 : Int32)) : own_K l (⟨"clearcut/Text", "encode", "(I[BI)I"⟩ : MethodName) prog_60_method_10_code 6 (some .int) ws ({ frames := 1, cells := 0, slots := 0, locals := 12 } : Room) Z h0 #[(.int x0), (.ref ar1), (.int 0)] (Q_rmz28 Z x0 ar1 kr1 z1_0 z1_1 z1_2 z1_3 u8 zc fv h0 n0) := by
  refine own_met (plainFor_of_name pn_78) ?_
  intro p e s m below meth c s₁ hx hby hlk hml hown hnm hrt hZ hh X0 e0
  have N0 := Fr.nil n0
  refine oG m s₁ 0 #[vI x0,vR ar1,vI 0,oU,oU,oU] [] (fun _ k => castTop (by first | (simp [entryFrame,mkF,argsToLocals,Value.category]; done) | rfl) k) ?_
  have K0 := Keep.refl h0 [ar1]
  refine oG m s₁ 1 #[vI x0,vR ar1,vI 0,oU,oU,oU] [(.int x0)] (fun _ k => XS.iloadN X0.here hx rfl (hb hby d2_0) rfl k) ?_
  obtain ⟨T1, X1, e1, st1⟩ := own_cP X0 hx hZ hown (oH hw 11 rfl) (oH hw 4 rfl) (oH hw 5 rfl) (oH hw 6 rfl) (by decide) (rmz27 l Z a0 hw [] x0 u8 zc fv h0 n0 Z0  SS hq0 hq1) (W := 0) (by decide) (by decide) (g := (mkF m 1 #[vI x0, vR ar1, vI 0, oU, oU, oU] [(.int x0)])) rfl (by rw [hml]; rfl) (argsL := [(.int x0)]) (rest := []) (lenOf pd_79 rfl) rfl rfl rfl (hb hby d2_1) e0 rfl (by decide) (by decide) (by decide : 0 ≤ _) (by decide : 0 ≤ _)
  refine oG m T1 11 #[vI x0,vR ar1,vI 0,vI 2,vI x0,oU] [(.int ((2 : Int32) - (1 : Int32)))] (fun _ k => st1 _ (XS.istoreN X1.here hx rfl (hb hby d2_4) rfl (l' := #[vI x0,vR ar1,vI 0,vI 2,oU,oU]) rfl (XS.iloadN X1.here hx rfl (hb hby d2_5) rfl (XS.istore X1.here hx rfl (hb hby d2_6) rfl (l' := #[vI x0,vR ar1,vI 0,vI 2,vI x0,oU]) rfl (XS.iloadN X1.here hx rfl (hb hby d2_8) rfl (XS.iconst X1.here hx rfl (hb hby d2_9) (XS.isub X1.here hx rfl (hb hby d2_10) rfl k))))))) ?_
  rw [show ((2 : Int32) - (1 : Int32)) = (1 : Int32) from by decide]
  refine oG m T1 23 #[vI x0,vR ar1,vI 0,vI 2,vI x0,vI 1] [(.int ((0 : Int32) + (1 : Int32))),(.ref ar1)] (fun _ k => XS.istore X1.here hx rfl (hb hby d2_11) rfl (l' := #[vI x0,vR ar1,vI 0,vI 2,vI x0,vI 1]) rfl (XS.iload X1.here hx rfl (hb hby d2_13) rfl (XS.ifNo X1.here hx rfl (hb hby d2_15) rfl ((if0 _ _).trans (tlt (by decide)).2.2.2) (XS.aloadN X1.here hx rfl (hb hby d2_18) rfl rfl (XS.iloadN X1.here hx rfl (hb hby d2_19) rfl (XS.iload X1.here hx rfl (hb hby d2_20) rfl (XS.iadd X1.here hx rfl (hb hby d2_22) rfl k))))))) ?_
  rw [show ((0 : Int32) + (1 : Int32)) = (1 : Int32) from by decide]
  refine oG m T1 33 #[vI x0,vR ar1,vI 0,vI 2,vI x0,vI 1] [(.int (((128 : Int32) ||| (x0 &&& (63 : Int32))).toInt8.toInt32)),(.int 1),(.ref ar1)] (fun _ k => XS.sipush X1.here hx rfl (hb hby d2_23) (XS.iload X1.here hx rfl (hb hby d2_26) rfl (XS.bipush X1.here hx rfl (hb hby d2_28) (XS.iand X1.here hx rfl (hb hby d2_30) rfl (XS.ior X1.here hx rfl (hb hby d2_31) rfl (XS.i2b X1.here hx rfl (hb hby d2_32) rfl k)))))) ?_
  obtain ⟨cl2, Ar2, qc2, S2, M2, Ha2, Ga2⟩ := id V_ar1
  obtain ⟨T2, h2, X2, e2, W2, st2⟩ := stB X1 hx hZ e1 Ar2 (j := (1 : Int32)) (inb_of S2 ⟨by decide, by decide⟩) (g := (mkF m 33 #[vI x0, vR ar1, vI 0, vI 2, vI x0, vI 1] [(.int (((128 : Int32) ||| (x0 &&& (63 : Int32))).toInt8.toInt32)), (.int 1), (.ref ar1)])) rfl rfl (hb hby d2_33)
  have c2_Ear1 := E_ar1.wr W2
  have c2_USS := SS.wr W2
  have V2 : Arv Z h2 ar1 kr1 .byte (4 : Int32) [(.int z1_0), (.int (nar .byte (((128 : Int32) ||| (x0 &&& (63 : Int32))).toInt8.toInt32))), (.int z1_2), (.int z1_3)] (.int 0) := Arv.set Ar2 qc2 S2 M2 Ha2 Ga2 (fits_nar_byte _) W2 1 (by decide) (Nat.le_of_ble_eq_true rfl)
  have K2 := K0.wr W2 (Or.inl (List.mem_of_getElem? (i := 0) rfl))
  have N2 := Fr.snoc X2 N0 g_ar1
  have Z2 : n0 ≤ h2.size := Nat.le_trans Z0 (Nat.le_of_eq W2.size.symm)
  refine oG m T2 44 #[vI x0,vR ar1,vI 0,vI 2,vI (x0 >>> ((6 : Int32) &&& 31)),vI ((1 : Int32) + (-1 : Int32))] [] (fun _ k => st2 _ (XS.iload X2.here hx rfl (hb hby d2_34) rfl (XS.bipush X2.here hx rfl (hb hby d2_36) (XS.ishr X2.here hx rfl (hb hby d2_38) rfl (XS.istore X2.here hx rfl (hb hby d2_39) rfl (l' := #[vI x0,vR ar1,vI 0,vI 2,vI (x0 >>> ((6 : Int32) &&& 31)),vI 1]) rfl (XS.iinc X2.here hx rfl (hb hby d2_41) rfl (l' := #[vI x0,vR ar1,vI 0,vI 2,vI (x0 >>> ((6 : Int32) &&& 31)),vI ((1 : Int32) + (-1 : Int32))]) rfl k)))))) ?_
  rw [show ((1 : Int32) + (-1 : Int32)) = (0 : Int32) from by decide]
  refine oG m T2 59 #[vI x0,vR ar1,vI 0,vI 2,vI (x0 >>> ((6 : Int32) &&& 31)),vI 0] [(.int 0),(.ref ar1)] (fun _ k => XS.goto X2.here hx rfl (pc0 := 44) (pc' := 13) rfl (hb hby d2_44) (by decide) (by decide) (XS.iload X2.here hx rfl (hb hby d2_13) rfl (XS.ifYes X2.here hx rfl (pc0 := 15) (pc' := 47) rfl (hb hby d2_15) rfl ((if0 _ _).trans (flt (by decide)).2.2.2) (by decide) (by decide) (XS.aloadN X2.here hx rfl (hb hby d2_47) rfl rfl (XS.iloadN X2.here hx rfl (hb hby d2_48) rfl (XS.iloadN X2.here hx rfl (hb hby d2_49) rfl (XS.iconst X2.here hx rfl (hb hby d2_50) (XS.icmpYes X2.here hx rfl (pc0 := 51) (pc' := 59) rfl (hb hby d2_51) rfl (feq (by decide)).2 (by decide) (by decide) k)))))))) ?_
  refine oG m T2 63 #[vI x0,vR ar1,vI 0,vI 2,vI (x0 >>> ((6 : Int32) &&& 31)),vI 0] [(.int ((65280 : Int32) >>> ((2 : Int32) &&& 31))),(.int 0),(.ref ar1)] (fun _ k => (X2.ldcInt hx hown (mvT hZ (oH hw 140 rfl)) (g := (mkF m 59 #[vI x0,vR ar1,vI 0,vI 2,vI (x0 >>> ((6 : Int32) &&& 31)),vI 0] [(.int 0),(.ref ar1)])) rfl (hb hby d2_59)) _ (XS.iloadN X2.here hx rfl (hb hby d2_61) rfl (XS.ishr X2.here hx rfl (hb hby d2_62) rfl k))) ?_
  rw [show ((65280 : Int32) >>> ((2 : Int32) &&& 31)) = (16320 : Int32) from by decide]
  refine oG m T2 67 #[vI x0,vR ar1,vI 0,vI 2,vI (x0 >>> ((6 : Int32) &&& 31)),vI 0] [(.int (((16320 : Int32) ||| (x0 >>> ((6 : Int32) &&& 31))).toInt8.toInt32)),(.int 0),(.ref ar1)] (fun _ k => XS.iload X2.here hx rfl (hb hby d2_63) rfl (XS.ior X2.here hx rfl (hb hby d2_65) rfl (XS.i2b X2.here hx rfl (hb hby d2_66) rfl k))) ?_
  obtain ⟨cl3, Ar3, qc3, S3, M3, Ha3, Ga3⟩ := id V2
  obtain ⟨T3, h3, X3, e3, W3, st3⟩ := stB X2 hx hZ e2 Ar3 (j := (0 : Int32)) (inb_of S3 ⟨by decide, by decide⟩) (g := (mkF m 67 #[vI x0, vR ar1, vI 0, vI 2, vI (x0 >>> ((6 : Int32) &&& 31)), vI 0] [(.int (((16320 : Int32) ||| (x0 >>> ((6 : Int32) &&& 31))).toInt8.toInt32)), (.int 0), (.ref ar1)])) rfl rfl (hb hby d2_67)
  have c3_Ear1 := c2_Ear1.wr W3
  have c3_USS := c2_USS.wr W3
  have V3 : Arv Z h3 ar1 kr1 .byte (4 : Int32) [(.int (nar .byte (((16320 : Int32) ||| (x0 >>> ((6 : Int32) &&& 31))).toInt8.toInt32))), (.int (nar .byte (((128 : Int32) ||| (x0 &&& (63 : Int32))).toInt8.toInt32))), (.int z1_2), (.int z1_3)] (.int 0) := Arv.set Ar3 qc3 S3 M3 Ha3 Ga3 (fits_nar_byte _) W3 0 (by decide) (Nat.le_of_ble_eq_true rfl)
  have K3 := K2.wr W3 (Or.inl (List.mem_of_getElem? (i := 0) rfl))
  have N3 := Fr.snoc X3 N2 g_ar1
  have Z3 : n0 ≤ h3.size := Nat.le_trans Z2 (Nat.le_of_eq W3.size.symm)
  refine oG m T3 71 #[vI x0,vR ar1,vI 0,vI 2,vI (x0 >>> ((6 : Int32) &&& 31)),vI 0] [(.int ((0 : Int32) + (2 : Int32)))] (fun _ k => st3 _ (XS.iloadN X3.here hx rfl (hb hby d2_68) rfl (XS.iloadN X3.here hx rfl (hb hby d2_69) rfl (XS.iadd X3.here hx rfl (hb hby d2_70) rfl k)))) ?_
  rw [show ((0 : Int32) + (2 : Int32)) = (2 : Int32) from by decide]
  refine own_retI X3 hx hlk hrt (hb hby d2_71) (by decide) (by decide) ?_
  rw [e3]
  exact ⟨(by first | rfl | decide), N3, K3, V3⟩
theorem d7_11 : decode C7 11 = .ok (.iload_n 0, 1) := by decide +kernel
theorem d7_12 : decode C7 12 = .ok (.sipush 224, 3) := by decide +kernel
theorem d7_15 : decode C7 15 = .ok (.if_icmp .ge 7, 3) := by decide +kernel
theorem d7_18 : decode C7 18 = .ok (.iconst 2, 1) := by decide +kernel
theorem d7_19 : decode C7 19 = .ok (.goto 15, 3) := by decide +kernel
theorem rmz29 (l : Launch) (Z : State) (a0 : Array Value) (hw : oW a0 Z) (ws : List Jvm.Cond) (x0 : Int32) (u8 : Addr) (zc : Int32) (fv : Value) (h0 : Heap) (n0 : Nat) (Z0 : n0 ≤ h0.size)   (SS : own_Sx Z h0 u8 zc fv) (hq0 : ¬ x0 < (128 : Int32)) (hq1 : x0 < (224 : Int32)) : own_K l (⟨"clearcut/Text", "size", "(I)I"⟩ : MethodName) prog_60_method_8_code 1 (some .int) ws ({ frames := 0, cells := 0, slots := 0, locals := 0 } : Room) Z h0 #[(.int x0)] (own_QP h0 (some (.int 2))) := by
  refine own_met (plainFor_of_name pn_78) ?_
  intro p e s m below meth c s₁ hx hby hlk hml hown hnm hrt hZ hh X0 e0
  have N0 := Fr.nil n0
  refine oG m s₁ 0 #[vI x0] [] (fun _ k => castTop (by first | (simp [entryFrame,mkF,argsToLocals,Value.category]; done) | rfl) k) ?_
  have K0 := Keep.refl h0 []
  refine oG m s₁ 34 #[vI x0] [(.int 2)] (fun _ k => XS.iloadN X0.here hx rfl (hb hby d7_0) rfl (XS.sipush X0.here hx rfl (hb hby d7_1) (XS.icmpYes X0.here hx rfl (pc0 := 4) (pc' := 11) rfl (hb hby d7_4) rfl (flt hq0).2.1 (by decide) (by decide) (XS.iloadN X0.here hx rfl (hb hby d7_11) rfl (XS.sipush X0.here hx rfl (hb hby d7_12) (XS.icmpNo X0.here hx rfl (hb hby d7_15) rfl (tlt hq1).2.1 (XS.iconst X0.here hx rfl (hb hby d7_18) (XS.goto X0.here hx rfl (pc0 := 19) (pc' := 34) rfl (hb hby d7_19) (by decide) (by decide) k)))))))) ?_
  refine own_retI X0 hx hlk hrt (hb hby d7_34) (by decide) (by decide) ?_
  exact ⟨by first | rfl | decide, e0, rfl⟩
theorem rmz30 (l : Launch) (Z : State) (a0 : Array Value) (hw : oW a0 Z) (ws : List Jvm.Cond) (ob0 : Addr) (ar0b : Addr) (kr0b : ClassId) (z0b_0 : Int32) (z0b_1 : Int32) (z0b_2 : Int32) (z0b_3 : Int32) (u8 : Addr) (zc : Int32) (fv : Value) (h0 : Heap) (n0 : Nat) (Z0 : n0 ≤ h0.size) (E_ob0 : Exa Z h0 ob0 "clearcut/Text") (g_ob0 : n0 ≤ ob0) (V_ar0b : Arv Z h0 ar0b kr0b .byte (4 : Int32) [(.int z0b_0), (.int z0b_1), (.int z0b_2), (.int z0b_3)] (.int 0)) (g_ar0b : n0 ≤ ar0b) (E_ar0b : Exa Z h0 ar0b "[B") (F_ob0_bytes : Fld Z h0 ob0 "clearcut/Text" "bytes" "[B" (.ref ar0b)) (ne_ob0_ar0b : ob0 ≠ ar0b) (SS : own_Sx Z h0 u8 zc fv) (hq0 : ¬ (z0b_0 &&& (255 : Int32)) < (128 : Int32)) (hq1 : (z0b_0 &&& (255 : Int32)) < (224 : Int32)) : own_K l (⟨"clearcut/Text", "next", "(I)I"⟩ : MethodName) prog_60_method_7_code 2 (some .int) ws ({ frames := 1, cells := 0, slots := 0, locals := 14 } : Room) Z h0 #[(.ref ob0), (.int 0)] (own_QP h0 (some (.int 2))) := by
  refine own_met (plainFor_of_name pn_78) ?_
  intro p e s m below meth c s₁ hx hby hlk hml hown hnm hrt hZ hh X0 e0
  have N0 := Fr.nil n0
  refine oG m s₁ 0 #[vR ob0,vI 0] [] (fun _ k => castTop (by first | (simp [entryFrame,mkF,argsToLocals,Value.category]; done) | rfl) k) ?_
  have K0 := Keep.refl h0 []
  refine oG m s₁ 3 #[vR ob0,vI 0] [(.int 0),(.ref ob0),(.int 0)] (fun _ k => XS.iloadN X0.here hx rfl (hb hby d5_0) rfl (XS.aloadN X0.here hx rfl (hb hby d5_1) rfl rfl (XS.iloadN X0.here hx rfl (hb hby d5_2) rfl k))) ?_
  obtain ⟨cq1, kq1, q1a, q1b, q1c⟩ := isOf hZ e0 E_ob0
  obtain ⟨v1, _, ⟨T1, L1, k1, n1⟩, -, X1, ⟨Lc1, hQ1, l1, y1, z1⟩, st1⟩ := X0.virtualBack hx (y := (⟨"clearcut/Text", "at", "(I)I"⟩ : MethodName)) (z := (⟨"clearcut/Text", "at", "(I)I"⟩ : MethodName)) hown (mvT hZ (oH hw 29 rfl)) (mvT hZ (oH hw 30 rfl)) (notFace_of_selects (args := #[]) (mvT hZ (oH hw 32 rfl))) (mvT hZ (oH hw 32 rfl)) (mvT hZ (oH hw 31 rfl)) (by decide) (backOf (W := 1) (rmz4 l Z a0 hw [] ob0 ar0b kr0b z0b_0 z0b_1 z0b_2 z0b_3 u8 zc fv h0 n0 Z0 E_ob0 g_ob0 V_ar0b g_ar0b E_ar0b F_ob0_bytes ne_ob0_ar0b SS) hZ (oH hw 33 rfl) (oH hw 5 rfl) (by decide) (by decide)) q1a q1c (g := (mkF m 3 #[vR ob0, vI 0] [(.int 0), (.ref ob0), (.int 0)])) rfl (by rw [hml]; rfl) (Steps.refl _) (argsL := [(.int 0)]) (rest := [(.int 0)]) (lenOf pd_79 rfl) rfl (by show 2 * 0 + _ ≤ _; exact Nat.le_of_eq rfl) (hb hby d5_3) (fun _ _ => ⟨rfl, e0, (by decide : 0 + 0 ≤ _), (by decide : 0 + 0 ≤ _)⟩)
  dsimp only [Pt.U, Pt.locs, Pt.cells, Pt.slots] at X1 l1 y1 z1 st1 hQ1
  subst l1 y1 z1
  obtain ⟨rfl, eh1, rfl⟩ := hQ1
  have N1 := Fr.app N0 (Fr.nil n0)
  refine oG m T1 6 #[vR ob0,vI 0] [(.int (z0b_0 &&& (255 : Int32))),(.int 0)] (fun _ k => st1.trans k) ?_
  obtain ⟨T2, X2, e2, st2⟩ := own_cP X1 hx hZ hown (oH hw 34 rfl) (oH hw 35 rfl) (oH hw 5 rfl) (oH hw 36 rfl) (by decide) (rmz29 l Z a0 hw [] (z0b_0 &&& (255 : Int32)) u8 zc fv h0 n0 Z0  SS hq0 hq1) (W := 1) (by decide) (by decide) (g := (mkF m 6 #[vR ob0, vI 0] [(.int (z0b_0 &&& (255 : Int32))), (.int 0)])) rfl (by rw [hml]; rfl) (argsL := [(.int (z0b_0 &&& (255 : Int32)))]) (rest := [(.int 0)]) (lenOf pd_79 rfl) rfl rfl rfl (hb hby d5_6) eh1 rfl (by decide) (by decide) (by decide : 0 ≤ _) (by decide : 0 ≤ _)
  refine oG m T2 10 #[vR ob0,vI 0] [(.int ((0 : Int32) + (2 : Int32)))] (fun _ k => st2 _ (XS.iadd X2.here hx rfl (hb hby d5_9) rfl k)) ?_
  rw [show ((0 : Int32) + (2 : Int32)) = (2 : Int32) from by decide]
  refine own_retI X2 hx hlk hrt (hb hby d5_10) (by decide) (by decide) ?_
  exact ⟨by first | rfl | decide, e2, rfl⟩
theorem d8_20 : decode C8 20 = .ok (.iload_n 2, 1) := by decide +kernel
theorem d8_21 : decode C8 21 = .ok (.sipush 255, 3) := by decide +kernel
theorem d8_24 : decode C8 24 = .ok (.iload_n 3, 1) := by decide +kernel
theorem d8_25 : decode C8 25 = .ok (.iconst 1, 1) := by decide +kernel
theorem d8_26 : decode C8 26 = .ok (.iadd, 1) := by decide +kernel
theorem d8_27 : decode C8 27 = .ok (.ishr, 1) := by decide +kernel
theorem d8_28 : decode C8 28 = .ok (.iand, 1) := by decide +kernel
theorem d8_40 : decode C8 40 = .ok (.iload 4, 2) := by decide +kernel
theorem d8_42 : decode C8 42 = .ok (.bipush 6, 2) := by decide +kernel
theorem d8_44 : decode C8 44 = .ok (.ishl, 1) := by decide +kernel
theorem d8_45 : decode C8 45 = .ok (.aload_n 0, 1) := by decide +kernel
theorem d8_46 : decode C8 46 = .ok (.getfield 12, 3) := by decide +kernel
theorem d8_49 : decode C8 49 = .ok (.iload_n 1, 1) := by decide +kernel
theorem d8_50 : decode C8 50 = .ok (.iload 5, 2) := by decide +kernel
theorem d8_52 : decode C8 52 = .ok (.iadd, 1) := by decide +kernel
theorem d8_53 : decode C8 53 = .ok (.baload, 1) := by decide +kernel
theorem d8_54 : decode C8 54 = .ok (.bipush 63, 2) := by decide +kernel
theorem d8_56 : decode C8 56 = .ok (.iand, 1) := by decide +kernel
theorem d8_57 : decode C8 57 = .ok (.ior, 1) := by decide +kernel
theorem d8_58 : decode C8 58 = .ok (.istore 4, 2) := by decide +kernel
theorem d8_60 : decode C8 60 = .ok (.iinc 5 1, 3) := by decide +kernel
theorem d8_63 : decode C8 63 = .ok (.goto (-29), 3) := by decide +kernel
theorem rmz31 (l : Launch) (Z : State) (a0 : Array Value) (hw : oW a0 Z) (ws : List Jvm.Cond) (ob0 : Addr) (ar0b : Addr) (kr0b : ClassId) (z0b_0 : Int32) (z0b_1 : Int32) (z0b_2 : Int32) (z0b_3 : Int32) (u8 : Addr) (zc : Int32) (fv : Value) (h0 : Heap) (n0 : Nat) (Z0 : n0 ≤ h0.size) (E_ob0 : Exa Z h0 ob0 "clearcut/Text") (g_ob0 : n0 ≤ ob0) (V_ar0b : Arv Z h0 ar0b kr0b .byte (4 : Int32) [(.int z0b_0), (.int z0b_1), (.int z0b_2), (.int z0b_3)] (.int 0)) (g_ar0b : n0 ≤ ar0b) (E_ar0b : Exa Z h0 ar0b "[B") (F_ob0_bytes : Fld Z h0 ob0 "clearcut/Text" "bytes" "[B" (.ref ar0b)) (ne_ob0_ar0b : ob0 ≠ ar0b) (SS : own_Sx Z h0 u8 zc fv) (hq0 : ¬ (z0b_0 &&& (255 : Int32)) < (128 : Int32)) (hq1 : (z0b_0 &&& (255 : Int32)) < (224 : Int32)) : own_K l (⟨"clearcut/Text", "codePointAt", "(I)I"⟩ : MethodName) prog_60_method_6_code 6 (some .int) ws ({ frames := 1, cells := 0, slots := 0, locals := 13 } : Room) Z h0 #[(.ref ob0), (.int 0)] (own_QP h0 (some (.int ((((z0b_0 &&& (255 : Int32)) &&& (31 : Int32)) <<< ((6 : Int32) &&& 31)) ||| (z0b_1 &&& (63 : Int32)))))) := by
  refine own_met (plainFor_of_name pn_78) ?_
  intro p e s m below meth c s₁ hx hby hlk hml hown hnm hrt hZ hh X0 e0
  have N0 := Fr.nil n0
  refine oG m s₁ 0 #[vR ob0,vI 0,oU,oU,oU,oU] [] (fun _ k => castTop (by first | (simp [entryFrame,mkF,argsToLocals,Value.category]; done) | rfl) k) ?_
  have K0 := Keep.refl h0 []
  refine oG m s₁ 2 #[vR ob0,vI 0,oU,oU,oU,oU] [(.int 0),(.ref ob0)] (fun _ k => XS.aloadN X0.here hx rfl (hb hby d8_0) rfl rfl (XS.iloadN X0.here hx rfl (hb hby d8_1) rfl k)) ?_
  obtain ⟨cq1, kq1, q1a, q1b, q1c⟩ := isOf hZ e0 E_ob0
  obtain ⟨v1, _, ⟨T1, L1, k1, n1⟩, -, X1, ⟨Lc1, hQ1, l1, y1, z1⟩, st1⟩ := X0.virtualBack hx (y := (⟨"clearcut/Text", "at", "(I)I"⟩ : MethodName)) (z := (⟨"clearcut/Text", "at", "(I)I"⟩ : MethodName)) hown (mvT hZ (oH hw 29 rfl)) (mvT hZ (oH hw 30 rfl)) (notFace_of_selects (args := #[]) (mvT hZ (oH hw 32 rfl))) (mvT hZ (oH hw 32 rfl)) (mvT hZ (oH hw 31 rfl)) (by decide) (backOf (W := 0) (rmz4 l Z a0 hw [] ob0 ar0b kr0b z0b_0 z0b_1 z0b_2 z0b_3 u8 zc fv h0 n0 Z0 E_ob0 g_ob0 V_ar0b g_ar0b E_ar0b F_ob0_bytes ne_ob0_ar0b SS) hZ (oH hw 33 rfl) (oH hw 5 rfl) (by decide) (by decide)) q1a q1c (g := (mkF m 2 #[vR ob0, vI 0, oU, oU, oU, oU] [(.int 0), (.ref ob0)])) rfl (by rw [hml]; rfl) (Steps.refl _) (argsL := [(.int 0)]) (rest := []) (lenOf pd_79 rfl) rfl (by show 2 * 0 + _ ≤ _; exact Nat.le_of_eq rfl) (hb hby d8_2) (fun _ _ => ⟨rfl, e0, (by decide : 0 + 0 ≤ _), (by decide : 0 + 0 ≤ _)⟩)
  dsimp only [Pt.U, Pt.locs, Pt.cells, Pt.slots] at X1 l1 y1 z1 st1 hQ1
  subst l1 y1 z1
  obtain ⟨rfl, eh1, rfl⟩ := hQ1
  have N1 := Fr.app N0 (Fr.nil n0)
  refine oG m T1 7 #[vR ob0,vI 0,vI (z0b_0 &&& (255 : Int32)),oU,oU,oU] [(.int (z0b_0 &&& (255 : Int32)))] (fun _ k => st1.trans (XS.istoreN X1.here hx rfl (hb hby d8_5) rfl (l' := #[vR ob0,vI 0,vI (z0b_0 &&& (255 : Int32)),oU,oU,oU]) rfl (XS.iloadN X1.here hx rfl (hb hby d8_6) rfl k))) ?_
  obtain ⟨T2, X2, e2, st2⟩ := own_cP X1 hx hZ hown (oH hw 34 rfl) (oH hw 35 rfl) (oH hw 5 rfl) (oH hw 36 rfl) (by decide) (rmz29 l Z a0 hw [] (z0b_0 &&& (255 : Int32)) u8 zc fv h0 n0 Z0  SS hq0 hq1) (W := 0) (by decide) (by decide) (g := (mkF m 7 #[vR ob0, vI 0, vI (z0b_0 &&& (255 : Int32)), oU, oU, oU] [(.int (z0b_0 &&& (255 : Int32)))])) rfl (by rw [hml]; rfl) (argsL := [(.int (z0b_0 &&& (255 : Int32)))]) (rest := []) (lenOf pd_79 rfl) rfl rfl rfl (hb hby d8_7) eh1 rfl (by decide) (by decide) (by decide : 0 ≤ _) (by decide : 0 ≤ _)
  refine oG m T2 27 #[vR ob0,vI 0,vI (z0b_0 &&& (255 : Int32)),vI 2,oU,oU] [(.int ((2 : Int32) + (1 : Int32))),(.int 255),(.int (z0b_0 &&& (255 : Int32)))] (fun _ k => st2 _ (XS.istoreN X2.here hx rfl (hb hby d8_10) rfl (l' := #[vR ob0,vI 0,vI (z0b_0 &&& (255 : Int32)),vI 2,oU,oU]) rfl (XS.iloadN X2.here hx rfl (hb hby d8_11) rfl (XS.iconst X2.here hx rfl (hb hby d8_12) (XS.icmpYes X2.here hx rfl (pc0 := 13) (pc' := 20) rfl (hb hby d8_13) rfl (feq (by decide)).2 (by decide) (by decide) (XS.iloadN X2.here hx rfl (hb hby d8_20) rfl (XS.sipush X2.here hx rfl (hb hby d8_21) (XS.iloadN X2.here hx rfl (hb hby d8_24) rfl (XS.iconst X2.here hx rfl (hb hby d8_25) (XS.iadd X2.here hx rfl (hb hby d8_26) rfl k)))))))))) ?_
  rw [show ((2 : Int32) + (1 : Int32)) = (3 : Int32) from by decide]
  refine oG m T2 28 #[vR ob0,vI 0,vI (z0b_0 &&& (255 : Int32)),vI 2,oU,oU] [(.int ((255 : Int32) >>> ((3 : Int32) &&& 31))),(.int (z0b_0 &&& (255 : Int32)))] (fun _ k => XS.ishr X2.here hx rfl (hb hby d8_27) rfl k) ?_
  rw [show ((255 : Int32) >>> ((3 : Int32) &&& 31)) = (31 : Int32) from by decide]
  refine oG m T2 46 #[vR ob0,vI 0,vI (z0b_0 &&& (255 : Int32)),vI 2,vI ((z0b_0 &&& (255 : Int32)) &&& (31 : Int32)),vI 1] [(.ref ob0),(.int (((z0b_0 &&& (255 : Int32)) &&& (31 : Int32)) <<< ((6 : Int32) &&& 31)))] (fun _ k => XS.iand X2.here hx rfl (hb hby d8_28) rfl (XS.istore X2.here hx rfl (hb hby d8_29) rfl (l' := #[vR ob0,vI 0,vI (z0b_0 &&& (255 : Int32)),vI 2,vI ((z0b_0 &&& (255 : Int32)) &&& (31 : Int32)),oU]) rfl (XS.iconst X2.here hx rfl (hb hby d8_31) (XS.istore X2.here hx rfl (hb hby d8_32) rfl (l' := #[vR ob0,vI 0,vI (z0b_0 &&& (255 : Int32)),vI 2,vI ((z0b_0 &&& (255 : Int32)) &&& (31 : Int32)),vI 1]) rfl (XS.iload X2.here hx rfl (hb hby d8_34) rfl (XS.iloadN X2.here hx rfl (hb hby d8_36) rfl (XS.icmpNo X2.here hx rfl (hb hby d8_37) rfl (tlt (by decide)).2.1 (XS.iload X2.here hx rfl (hb hby d8_40) rfl (XS.bipush X2.here hx rfl (hb hby d8_42) (XS.ishl X2.here hx rfl (hb hby d8_44) rfl (XS.aloadN X2.here hx rfl (hb hby d8_45) rfl rfl k))))))))))) ?_
  obtain ⟨T3, X3, e3, st3⟩ := getF X2 hx hZ hown (host := "") (Or.inl (oH hw 20 rfl)) Via.refl e2 F_ob0_bytes (g := (mkF m 46 #[vR ob0, vI 0, vI (z0b_0 &&& (255 : Int32)), vI 2, vI ((z0b_0 &&& (255 : Int32)) &&& (31 : Int32)), vI 1] [(.ref ob0), (.int (((z0b_0 &&& (255 : Int32)) &&& (31 : Int32)) <<< ((6 : Int32) &&& 31)))])) rfl rfl (hb hby d8_46)
  refine oG m T3 53 #[vR ob0,vI 0,vI (z0b_0 &&& (255 : Int32)),vI 2,vI ((z0b_0 &&& (255 : Int32)) &&& (31 : Int32)),vI 1] [(.int ((0 : Int32) + (1 : Int32))),(.ref ar0b),(.int (((z0b_0 &&& (255 : Int32)) &&& (31 : Int32)) <<< ((6 : Int32) &&& 31)))] (fun _ k => st3 _ (XS.iloadN X3.here hx rfl (hb hby d8_49) rfl (XS.iload X3.here hx rfl (hb hby d8_50) rfl (XS.iadd X3.here hx rfl (hb hby d8_52) rfl k)))) ?_
  rw [show ((0 : Int32) + (1 : Int32)) = (1 : Int32) from by decide]
  obtain ⟨cl4, Ar4, -, S4, -, H4, -⟩ := id V_ar0b
  have hin4 := inb_of (j := (1 : Int32)) S4 ⟨by decide, by decide⟩
  have hat4 := Has.at (v := (.int z0b_1)) H4 hin4 (by first | rfl | decide)
  refine own_go (S' := (T3.setTop (mkF m 54 #[vR ob0, vI 0, vI (z0b_0 &&& (255 : Int32)), vI 2, vI ((z0b_0 &&& (255 : Int32)) &&& (31 : Int32)), vI 1] [(.int z0b_1), (.int (((z0b_0 &&& (255 : Int32)) &&& (31 : Int32)) <<< ((6 : Int32) &&& 31)))]))) (fun _ kont => X3.baloadBytes hx (j := (1 : Int32)) (v := (.int z0b_1)) (by rw [e3]; exact Ar4.1) (State.isArrayOf_alike hZ.alike Ar4.2.1) Ar4.2.2 hin4 hat4 (g := (mkF m 53 #[vR ob0, vI 0, vI (z0b_0 &&& (255 : Int32)), vI 2, vI ((z0b_0 &&& (255 : Int32)) &&& (31 : Int32)), vI 1] [(.int 1), (.ref ar0b), (.int (((z0b_0 &&& (255 : Int32)) &&& (31 : Int32)) <<< ((6 : Int32) &&& 31)))])) rfl rfl (hb hby d8_53) _ kont) ?_
  refine oG m T3 63 #[vR ob0,vI 0,vI (z0b_0 &&& (255 : Int32)),vI 2,vI ((((z0b_0 &&& (255 : Int32)) &&& (31 : Int32)) <<< ((6 : Int32) &&& 31)) ||| (z0b_1 &&& (63 : Int32))),vI ((1 : Int32) + (1 : Int32))] [] (fun _ k => XS.bipush X3.here hx rfl (hb hby d8_54) (XS.iand X3.here hx rfl (hb hby d8_56) rfl (XS.ior X3.here hx rfl (hb hby d8_57) rfl (XS.istore X3.here hx rfl (hb hby d8_58) rfl (l' := #[vR ob0,vI 0,vI (z0b_0 &&& (255 : Int32)),vI 2,vI ((((z0b_0 &&& (255 : Int32)) &&& (31 : Int32)) <<< ((6 : Int32) &&& 31)) ||| (z0b_1 &&& (63 : Int32))),vI 1]) rfl (XS.iinc X3.here hx rfl (hb hby d8_60) rfl (l' := #[vR ob0,vI 0,vI (z0b_0 &&& (255 : Int32)),vI 2,vI ((((z0b_0 &&& (255 : Int32)) &&& (31 : Int32)) <<< ((6 : Int32) &&& 31)) ||| (z0b_1 &&& (63 : Int32))),vI ((1 : Int32) + (1 : Int32))]) rfl k))))) ?_
  rw [show ((1 : Int32) + (1 : Int32)) = (2 : Int32) from by decide]
  refine oG m T3 68 #[vR ob0,vI 0,vI (z0b_0 &&& (255 : Int32)),vI 2,vI ((((z0b_0 &&& (255 : Int32)) &&& (31 : Int32)) <<< ((6 : Int32) &&& 31)) ||| (z0b_1 &&& (63 : Int32))),vI 2] [(.int ((((z0b_0 &&& (255 : Int32)) &&& (31 : Int32)) <<< ((6 : Int32) &&& 31)) ||| (z0b_1 &&& (63 : Int32))))] (fun _ k => XS.goto X3.here hx rfl (pc0 := 63) (pc' := 34) rfl (hb hby d8_63) (by decide) (by decide) (XS.iload X3.here hx rfl (hb hby d8_34) rfl (XS.iloadN X3.here hx rfl (hb hby d8_36) rfl (XS.icmpYes X3.here hx rfl (pc0 := 37) (pc' := 66) rfl (hb hby d8_37) rfl (flt (by decide)).2.1 (by decide) (by decide) (XS.iload X3.here hx rfl (hb hby d8_66) rfl k))))) ?_
  refine own_retI X3 hx hlk hrt (hb hby d8_68) (by decide) (by decide) ?_
  exact ⟨by first | rfl | decide, e3, rfl⟩
theorem d15_20 : decode C15 20 = .ok (.iload 4, 2) := by decide +kernel
theorem d15_22 : decode C15 22 = .ok (.iload_n 1, 1) := by decide +kernel
theorem d15_23 : decode C15 23 = .ok (.isub, 1) := by decide +kernel
theorem d15_24 : decode C15 24 = .ok (.ireturn, 1) := by decide +kernel
theorem rmz32 (l : Launch) (Z : State) (a0 : Array Value) (hw : oW a0 Z) (ws : List Jvm.Cond) (ar0 : Addr) (kr0 : ClassId) (z0_0 : Int32) (z0_1 : Int32) (z0_2 : Int32) (z0_3 : Int32) (u8 : Addr) (zc : Int32) (fv : Value) (h0 : Heap) (n0 : Nat) (Z0 : n0 ≤ h0.size) (V_ar0 : Arv Z h0 ar0 kr0 .byte (4 : Int32) [(.int z0_0), (.int z0_1), (.int z0_2), (.int z0_3)] (.int 0)) (g_ar0 : n0 ≤ ar0) (E_ar0 : Exa Z h0 ar0 "[B")  (SS : own_Sx Z h0 u8 zc fv) (hq0 : z0_0 < (0 : Int32)) : own_K l (⟨"java/lang/StringCoding", "countPositives", "([BII)I"⟩ : MethodName) jdk_123_method_3_code 5 (some .int) ws ({ frames := 0, cells := 0, slots := 0, locals := 0 } : Room) Z h0 #[(.ref ar0), (.int 0), (.int 2)] (own_QP h0 (some (.int 0))) := by
  refine own_met (plainFor_of_name pn_240) ?_
  intro p e s m below meth c s₁ hx hby hlk hml hown hnm hrt hZ hh X0 e0
  have N0 := Fr.nil n0
  refine oG m s₁ 0 #[vR ar0,vI 0,vI 2,oU,oU] [] (fun _ k => castTop (by first | (simp [entryFrame,mkF,argsToLocals,Value.category]; done) | rfl) k) ?_
  have K0 := Keep.refl h0 []
  refine oG m s₁ 3 #[vR ar0,vI 0,vI 2,oU,oU] [(.int ((0 : Int32) + (2 : Int32)))] (fun _ k => XS.iloadN X0.here hx rfl (hb hby d15_0) rfl (XS.iloadN X0.here hx rfl (hb hby d15_1) rfl (XS.iadd X0.here hx rfl (hb hby d15_2) rfl k))) ?_
  rw [show ((0 : Int32) + (2 : Int32)) = (2 : Int32) from by decide]
  refine oG m s₁ 16 #[vR ar0,vI 0,vI 2,vI 2,vI 0] [(.int 0),(.ref ar0)] (fun _ k => XS.istoreN X0.here hx rfl (hb hby d15_3) rfl (l' := #[vR ar0,vI 0,vI 2,vI 2,oU]) rfl (XS.iloadN X0.here hx rfl (hb hby d15_4) rfl (XS.istore X0.here hx rfl (hb hby d15_5) rfl (l' := #[vR ar0,vI 0,vI 2,vI 2,vI 0]) rfl (XS.iload X0.here hx rfl (hb hby d15_7) rfl (XS.iloadN X0.here hx rfl (hb hby d15_9) rfl (XS.icmpNo X0.here hx rfl (hb hby d15_10) rfl (tlt (by decide)).2.1 (XS.aloadN X0.here hx rfl (hb hby d15_13) rfl rfl (XS.iload X0.here hx rfl (hb hby d15_14) rfl k)))))))) ?_
  obtain ⟨cl1, Ar1, -, S1, -, H1, -⟩ := id V_ar0
  have hin1 := inb_of (j := (0 : Int32)) S1 ⟨by decide, by decide⟩
  have hat1 := Has.at (v := (.int z0_0)) H1 hin1 (by first | rfl | decide)
  refine own_go (S' := (s₁.setTop (mkF m 17 #[vR ar0, vI 0, vI 2, vI 2, vI 0] [(.int z0_0)]))) (fun _ kont => X0.baloadBytes hx (j := (0 : Int32)) (v := (.int z0_0)) (by rw [e0]; exact Ar1.1) (State.isArrayOf_alike hZ.alike Ar1.2.1) Ar1.2.2 hin1 hat1 (g := (mkF m 16 #[vR ar0, vI 0, vI 2, vI 2, vI 0] [(.int 0), (.ref ar0)])) rfl rfl (hb hby d15_16) _ kont) ?_
  refine oG m s₁ 24 #[vR ar0,vI 0,vI 2,vI 2,vI 0] [(.int ((0 : Int32) - (0 : Int32)))] (fun _ k => XS.ifNo X0.here hx rfl (hb hby d15_17) rfl ((if0 _ _).trans (tlt hq0).2.1) (XS.iload X0.here hx rfl (hb hby d15_20) rfl (XS.iloadN X0.here hx rfl (hb hby d15_22) rfl (XS.isub X0.here hx rfl (hb hby d15_23) rfl k)))) ?_
  rw [show ((0 : Int32) - (0 : Int32)) = (0 : Int32) from by decide]
  refine own_retI X0 hx hlk hrt (hb hby d15_24) (by decide) (by decide) ?_
  exact ⟨by first | rfl | decide, e0, rfl⟩
theorem d49_78 : decode C49 78 = .ok (.aload_n 2, 1) := by decide +kernel
theorem d49_79 : decode C49 79 = .ok (.iload_n 3, 1) := by decide +kernel
theorem d49_80 : decode C49 80 = .ok (.iload_n 3, 1) := by decide +kernel
theorem d49_81 : decode C49 81 = .ok (.iload 4, 2) := by decide +kernel
theorem d49_83 : decode C49 83 = .ok (.iadd, 1) := by decide +kernel
def Q_rmz33 (Z : State) (ar0 : Addr) (kr0 : ClassId) (z0_0 : Int32) (z0_1 : Int32) (z0_2 : Int32) (z0_3 : Int32) (u8 : Addr) (zc : Int32) (fv : Value) (h0 : Heap) (n0 : Nat) (v : Option Value) (h : Heap) (L : List Loc) : Prop := ∃ (NA0 : Addr) (KA0 : ClassId), v = some (.ref NA0) ∧ Fr n0 L ∧ Keep h0 h [] ∧ h0.size ≤ NA0 ∧ Arv Z h NA0 KA0 .byte (2 : Int32) [(.int z0_0), (.int z0_1)] (.int 0)
theorem rmz33 (l : Launch) (Z : State) (a0 : Array Value) (hw : oW a0 Z) (ws : List Jvm.Cond) (ar0 : Addr) (kr0 : ClassId) (z0_0 : Int32) (z0_1 : Int32) (z0_2 : Int32) (z0_3 : Int32) (u8 : Addr) (zc : Int32) (fv : Value) (h0 : Heap) (n0 : Nat) (Z0 : n0 ≤ h0.size) (V_ar0 : Arv Z h0 ar0 kr0 .byte (4 : Int32) [(.int z0_0), (.int z0_1), (.int z0_2), (.int z0_3)] (.int 0)) (g_ar0 : n0 ≤ ar0) (E_ar0 : Exa Z h0 ar0 "[B")  (SS : own_Sx Z h0 u8 zc fv)  : own_K l (⟨"java/util/Arrays", "copyOfRangeByte", "([BII)[B"⟩ : MethodName) jdk_65_method_133_code 5 (some (.array .byte)) ws ({ frames := 1, cells := 1, slots := 2, locals := 18 } : Room) Z h0 #[(.ref ar0), (.int 0), (.int 2)] (Q_rmz33 Z ar0 kr0 z0_0 z0_1 z0_2 z0_3 u8 zc fv h0 n0) := by
  refine own_met (plainFor_of_name pn_268) ?_
  intro p e s m below meth c s₁ hx hby hlk hml hown hnm hrt hZ hh X0 e0
  have N0 := Fr.nil n0
  refine oG m s₁ 0 #[vR ar0,vI 0,vI 2,oU,oU] [] (fun _ k => castTop (by first | (simp [entryFrame,mkF,argsToLocals,Value.category]; done) | rfl) k) ?_
  have K0 := Keep.refl h0 []
  refine oG m s₁ 2 #[vR ar0,vI 0,vI 2,oU,oU] [(.int 2),(.int 0)] (fun _ k => XS.iloadN X0.here hx rfl (hb hby d17_0) rfl (XS.iloadN X0.here hx rfl (hb hby d17_1) rfl k)) ?_
  obtain ⟨T1, X1, e1, st1⟩ := own_cP X0 hx hZ hown (oH hw 93 rfl) (oH hw 94 rfl) (oH hw 88 rfl) (oH hw 95 rfl) (by decide) (rmz12 l Z a0 hw [] (0 : Int32) (2 : Int32) u8 zc fv h0 n0 Z0  SS (by decide)) (W := 0) (by decide) (by decide) (g := (mkF m 2 #[vR ar0, vI 0, vI 2, oU, oU] [(.int 2), (.int 0)])) rfl (by rw [hml]; rfl) (argsL := [(.int 0), (.int 2)]) (rest := []) (lenOf pd_270 rfl) rfl rfl rfl (hb hby d17_2) e0 rfl (by decide) (by decide) (by decide : 0 ≤ _) (by decide : 0 ≤ _)
  refine oG m T1 8 #[vR ar0,vI 0,vI 2,oU,oU] [(.int ((2 : Int32) - (0 : Int32)))] (fun _ k => st1 _ (XS.iloadN X1.here hx rfl (hb hby d17_5) rfl (XS.iloadN X1.here hx rfl (hb hby d17_6) rfl (XS.isub X1.here hx rfl (hb hby d17_7) rfl k)))) ?_
  rw [show ((2 : Int32) - (0 : Int32)) = (2 : Int32) from by decide]
  refine oG m T1 10 #[vR ar0,vI 0,vI 2,vI 2,oU] [(.int 2)] (fun _ k => XS.istoreN X1.here hx rfl (hb hby d17_8) rfl (l' := #[vR ar0,vI 0,vI 2,vI 2,oU]) rfl (XS.iloadN X1.here hx rfl (hb hby d17_9) rfl k)) ?_
  obtain ⟨T2, h2, k2, X2, e2, E2, A2, st2⟩ := newP X1 hx hZ (oH hw 7 rfl) e1 (g := (mkF m 10 #[vR ar0, vI 0, vI 2, vI 2, oU] [(.int 2)])) rfl (hb hby d17_10) rfl (by decide) (cap := 2) (by decide) (by decide) (by decide) (by decide)
  obtain ⟨b2, gz2⟩ : ∃ z, z = h0.size := ⟨_, rfl⟩
  rw [← gz2] at A2 st2
  have sz_b2 : h0.size ≤ b2 := Nat.le_trans K0.1 (Nat.le_of_eq gz2.symm)
  have ne_ar0_b2 : ar0 ≠ b2 := Nat.ne_of_lt (by rw [gz2]; exact V_ar0.lt)
  have c2_Var0 := V_ar0.ext E2
  have c2_Ear0 := E_ar0.ext E2
  have c2_USS := SS.ext E2
  have K2 := K0.ext E2
  have g_b2 : n0 ≤ b2 := Nat.le_trans Z0 (Nat.le_of_eq gz2.symm)
  have V2 := Arv.new A2 (by decide)
  have Z2 : n0 ≤ h2.size := Nat.le_trans Z0 E2.1
  refine oG m T2 12 #[vR ar0,vI 0,vI 2,vI 2,oU] [(.ref b2)] (fun _ k => st2 _ k) ?_
  have V3 : Arv Z h2 b2 k2 .byte (2 : Int32) [(.int 0), (.int 0)] (.int 0) := V2.pad (pad_rep [] (.int 0) 2)
  refine oG m T2 20 #[vR ar0,vI 0,vI 2,vI 2,vR b2] [(.ref ar0),(.int 0),(.ref b2),(.int 0),(.ref ar0)] (fun _ k => XS.astore X2.here hx rfl (hb hby d17_12) rfl rfl (l' := #[vR ar0,vI 0,vI 2,vI 2,vR b2]) rfl (XS.aloadN X2.here hx rfl (hb hby d17_14) rfl rfl (XS.iloadN X2.here hx rfl (hb hby d17_15) rfl (XS.aload X2.here hx rfl (hb hby d17_16) rfl rfl (XS.iconst X2.here hx rfl (hb hby d17_18) (XS.aloadN X2.here hx rfl (hb hby d17_19) rfl rfl k)))))) ?_
  obtain ⟨cl4, Ar4, -, S4, M4, -, -⟩ := id c2_Var0
  have ql4 := len_of S4 M4
  refine own_go (S' := (T2.setTop (mkF m 21 #[vR ar0, vI 0, vI 2, vI 2, vR b2] [(.int 4), (.int 0), (.ref b2), (.int 0), (.ref ar0)]))) (fun _ kont => X2.arraylength hx (by rw [e2]; exact Ar4.1) (State.isArrayOf_alike hZ.alike Ar4.2.1) (g := (mkF m 20 #[vR ar0, vI 0, vI 2, vI 2, vR b2] [(.ref ar0), (.int 0), (.ref b2), (.int 0), (.ref ar0)])) rfl rfl (hb hby d17_20) _ (by rw [ql4]; exact kont)) ?_
  refine oG m T2 23 #[vR ar0,vI 0,vI 2,vI 2,vR b2] [(.int ((4 : Int32) - (0 : Int32))),(.int 0),(.ref b2),(.int 0),(.ref ar0)] (fun _ k => XS.iloadN X2.here hx rfl (hb hby d17_21) rfl (XS.isub X2.here hx rfl (hb hby d17_22) rfl k)) ?_
  rw [show ((4 : Int32) - (0 : Int32)) = (4 : Int32) from by decide]
  refine oG m T2 24 #[vR ar0,vI 0,vI 2,vI 2,vR b2] [(.int 2),(.int 4),(.int 0),(.ref b2),(.int 0),(.ref ar0)] (fun _ k => XS.iloadN X2.here hx rfl (hb hby d17_23) rfl k) ?_
  obtain ⟨T5, X5, e5, st5⟩ := own_cP X2 hx hZ hown (oH hw 96 rfl) (oH hw 97 rfl) (oH hw 98 rfl) (oH hw 99 rfl) (by decide) (rmz13 l Z a0 hw [] (4 : Int32) (2 : Int32) u8 zc fv h2 n0 Z2  c2_USS (by decide)) (W := 4) (by decide) (by decide) (g := (mkF m 24 #[vR ar0, vI 0, vI 2, vI 2, vR b2] [(.int 2), (.int 4), (.int 0), (.ref b2), (.int 0), (.ref ar0)])) rfl (by rw [hml]; rfl) (argsL := [(.int 4), (.int 2)]) (rest := [(.int 0), (.ref b2), (.int 0), (.ref ar0)]) (lenOf pd_293 rfl) rfl rfl rfl (hb hby d17_24) e2 rfl (by decide) (by decide) (by decide : 1 ≤ _) (by decide : 2 ≤ _)
  refine oG m T5 27 #[vR ar0,vI 0,vI 2,vI 2,vR b2] [(.int 2),(.int 0),(.ref b2),(.int 0),(.ref ar0)] (fun _ k => st5 _ k) ?_
  obtain ⟨T6, h6, L6, X6, e6, N6, Kc6, Vd6, st6⟩ := cpA X5 hx hZ hown (oH hw 100 rfl) (oH hw 103 rfl) (oH hw 101 rfl) (oH hw 102 rfl) e5 (us := [(.int z0_0), (.int z0_1)]) c2_Var0 V3 (Or.inl ⟨rfl, rfl⟩) (sp := (0 : Int32)) (dp := (0 : Int32)) (nn := (2 : Int32)) (by decide) (by decide) (by decide) (by decide) (by decide) (by first | rfl | simp) (by first | decide | exact Nat.le_of_ble_eq_true rfl) N0 g_b2 (g := (mkF m 27 #[vR ar0, vI 0, vI 2, vI 2, vR b2] [(.int 2), (.int 0), (.ref b2), (.int 0), (.ref ar0)])) rfl (by rw [hml]; rfl) rfl (hb hby d17_27) (by decide) (W := 0) (by show 2 * 0 + _ ≤ _; exact Nat.le_of_eq rfl) (by decide)
  have Vn6 : Arv Z h6 b2 k2 .byte (2 : Int32) [(.int z0_0), (.int z0_1)] (.int 0) := Vd6
  have Z6 : n0 ≤ h6.size := Nat.le_trans Z2 Kc6.1
  have Kt6 := K2.trans Kc6 (fun x hx => by cases List.mem_singleton.mp hx; first | (left; simp; done) | (right; assumption))
  have c6_Var0 := c2_Var0.keep Kc6 (ninS ne_ar0_b2 nin0)
  have c6_Ear0 := c2_Ear0.keep Kc6
  have c6_USS := c2_USS.keep Kc6 (own_nsS (own_nsA V3) own_ns0)
  refine oG m T6 32 #[vR ar0,vI 0,vI 2,vI 2,vR b2] [(.ref b2)] (fun _ k => st6 _ (XS.aload X6.here hx rfl (hb hby d17_30) rfl rfl k)) ?_
  refine own_retA X6 hx hlk (rfl) rfl hrt (hb hby d17_32) (by decide) (by decide) ?_
  rw [e6]
  exact ⟨b2, k2, (by first | rfl | decide), N6, Kt6, sz_b2, Vn6⟩
def Q_rmz34 (Z : State) (ar0 : Addr) (kr0 : ClassId) (z0_0 : Int32) (z0_1 : Int32) (z0_2 : Int32) (z0_3 : Int32) (u8 : Addr) (zc : Int32) (fv : Value) (h0 : Heap) (n0 : Nat) (v : Option Value) (h : Heap) (L : List Loc) : Prop := ∃ (NA0 : Addr) (KA0 : ClassId), v = some (.ref NA0) ∧ Fr n0 L ∧ Keep h0 h [] ∧ h0.size ≤ NA0 ∧ Arv Z h NA0 KA0 .byte (2 : Int32) [(.int z0_0), (.int z0_1)] (.int 0)
theorem rmz34 (l : Launch) (Z : State) (a0 : Array Value) (hw : oW a0 Z) (ws : List Jvm.Cond) (ar0 : Addr) (kr0 : ClassId) (z0_0 : Int32) (z0_1 : Int32) (z0_2 : Int32) (z0_3 : Int32) (u8 : Addr) (zc : Int32) (fv : Value) (h0 : Heap) (n0 : Nat) (Z0 : n0 ≤ h0.size) (V_ar0 : Arv Z h0 ar0 kr0 .byte (4 : Int32) [(.int z0_0), (.int z0_1), (.int z0_2), (.int z0_3)] (.int 0)) (g_ar0 : n0 ≤ ar0) (E_ar0 : Exa Z h0 ar0 "[B")  (SS : own_Sx Z h0 u8 zc fv)  : own_K l (⟨"java/util/Arrays", "copyOfRange", "([BII)[B"⟩ : MethodName) jdk_65_method_132_code 3 (some (.array .byte)) ws ({ frames := 2, cells := 1, slots := 2, locals := 34 } : Room) Z h0 #[(.ref ar0), (.int 0), (.int 2)] (Q_rmz34 Z ar0 kr0 z0_0 z0_1 z0_2 z0_3 u8 zc fv h0 n0) := by
  refine own_met (plainFor_of_name pn_268) ?_
  intro p e s m below meth c s₁ hx hby hlk hml hown hnm hrt hZ hh X0 e0
  have N0 := Fr.nil n0
  refine oG m s₁ 0 #[vR ar0,vI 0,vI 2] [] (fun _ k => castTop (by first | (simp [entryFrame,mkF,argsToLocals,Value.category]; done) | rfl) k) ?_
  have K0 := Keep.refl h0 []
  refine oG m s₁ 6 #[vR ar0,vI 0,vI 2] [(.ref ar0),(.int 2)] (fun _ k => XS.iloadN X0.here hx rfl (hb hby d16_0) rfl (XS.ifNo X0.here hx rfl (hb hby d16_1) rfl ((if0 _ _).trans (teq (by decide)).2) (XS.iloadN X0.here hx rfl (hb hby d16_4) rfl (XS.aloadN X0.here hx rfl (hb hby d16_5) rfl rfl k)))) ?_
  obtain ⟨cl1, Ar1, -, S1, M1, -, -⟩ := id V_ar0
  have ql1 := len_of S1 M1
  refine own_go (S' := (s₁.setTop (mkF m 7 #[vR ar0, vI 0, vI 2] [(.int 4), (.int 2)]))) (fun _ kont => X0.arraylength hx (by rw [e0]; exact Ar1.1) (State.isArrayOf_alike hZ.alike Ar1.2.1) (g := (mkF m 6 #[vR ar0, vI 0, vI 2] [(.ref ar0), (.int 2)])) rfl rfl (hb hby d16_6) _ (by rw [ql1]; exact kont)) ?_
  refine oG m s₁ 13 #[vR ar0,vI 0,vI 2] [(.int 2),(.int 0),(.ref ar0)] (fun _ k => XS.icmpNo X0.here hx rfl (hb hby d16_7) rfl (feq (by decide)).1 (XS.aloadN X0.here hx rfl (hb hby d16_10) rfl rfl (XS.iloadN X0.here hx rfl (hb hby d16_11) rfl (XS.iloadN X0.here hx rfl (hb hby d16_12) rfl k)))) ?_
  obtain ⟨v2, T2, Lc2, X2, hQ2, st2⟩ := own_cS X0 hx hZ hown (oH hw 90 rfl) (oH hw 91 rfl) (oH hw 88 rfl) (oH hw 92 rfl) (by decide) (rmz33 l Z a0 hw [] ar0 kr0 z0_0 z0_1 z0_2 z0_3 u8 zc fv h0 n0 Z0 V_ar0 g_ar0 E_ar0 SS) (W := 0) (by decide) (by decide) (g := (mkF m 13 #[vR ar0, vI 0, vI 2] [(.int 2), (.int 0), (.ref ar0)])) rfl (by rw [hml]; rfl) (argsL := [(.ref ar0), (.int 0), (.int 2)]) (rest := []) (lenOf pd_298 rfl) rfl rfl rfl (hb hby d16_13) e0 rfl (by decide : 0 + 1 ≤ _) (by decide : 0 + 2 ≤ _)
  obtain ⟨na2_0, ka2_0, rfl, Nq2, Kc2, sa2_0, va2_0⟩ := hQ2
  have Kt2 := K0.trans Kc2 (fun x hx => nomatch hx)
  have N2 := Fr.app N0 Nq2
  have Z2 : n0 ≤ T2.heap.size := Nat.le_trans Z0 Kc2.1
  have c2_Var0 := V_ar0.keep Kc2 nin0
  have c2_Ear0 := E_ar0.keep Kc2
  have c2_USS := SS.keep Kc2 own_ns0
  refine oG m T2 16 #[vR ar0,vI 0,vI 2] [(.ref na2_0)] (fun _ k => st2 _ k) ?_
  have g_na2_0 : n0 ≤ na2_0 := Nat.le_trans Z0 sa2_0
  have sz_na2_0 : h0.size ≤ na2_0 := Nat.le_trans K0.1 sa2_0
  have ne_ar0_na2_0 : ar0 ≠ na2_0 := Nat.ne_of_lt (Nat.lt_of_lt_of_le E_ar0.lt sa2_0)
  refine own_retA X2 hx hlk (rfl) rfl hrt (hb hby d16_16) (by decide) (by decide) ?_
  exact ⟨na2_0, ka2_0, (by first | rfl | decide), N2, Kt2, sz_na2_0, va2_0⟩
def own_d2 (x0 x1 : Int32) : Int32 := (nar .char ((((x0 <<< ((6 : Int32) &&& 31)) ^^^ x1) ^^^ (3968 : Int32)).toUInt32.toUInt16.toUInt32.toInt32))
theorem d49_84 : decode C49 84 = .ok (.invokestatic 54, 3) := by decide +kernel
theorem d49_87 : decode C49 87 = .ok (.astore 6, 2) := by decide +kernel
theorem d49_89 : decode C49 89 = .ok (.iload 5, 2) := by decide +kernel
theorem d49_91 : decode C49 91 = .ok (.istore 7, 2) := by decide +kernel
theorem d49_93 : decode C49 93 = .ok (.iload 7, 2) := by decide +kernel
theorem d49_95 : decode C49 95 = .ok (.iload 4, 2) := by decide +kernel
theorem d49_97 : decode C49 97 = .ok (.if_icmp .ge 93, 3) := by decide +kernel
theorem d49_100 : decode C49 100 = .ok (.aload 6, 2) := by decide +kernel
theorem d49_102 : decode C49 102 = .ok (.iload 7, 2) := by decide +kernel
theorem d49_104 : decode C49 104 = .ok (.iinc 7 1, 3) := by decide +kernel
theorem d49_107 : decode C49 107 = .ok (.baload, 1) := by decide +kernel
theorem d49_108 : decode C49 108 = .ok (.istore 8, 2) := by decide +kernel
theorem d49_110 : decode C49 110 = .ok (.iload 8, 2) := by decide +kernel
theorem d49_112 : decode C49 112 = .ok (.ifCond .lt 17, 3) := by decide +kernel
theorem d49_129 : decode C49 129 = .ok (.iload 8, 2) := by decide +kernel
theorem d49_131 : decode C49 131 = .ok (.sipush 254, 3) := by decide +kernel
theorem d49_134 : decode C49 134 = .ok (.iand, 1) := by decide +kernel
theorem d49_135 : decode C49 135 = .ok (.sipush 194, 3) := by decide +kernel
theorem d49_138 : decode C49 138 = .ok (.if_icmp .ne 46, 3) := by decide +kernel
theorem d49_141 : decode C49 141 = .ok (.iload 7, 2) := by decide +kernel
theorem d49_143 : decode C49 143 = .ok (.iload 4, 2) := by decide +kernel
theorem d49_145 : decode C49 145 = .ok (.if_icmp .ge 39, 3) := by decide +kernel
theorem d49_148 : decode C49 148 = .ok (.aload 6, 2) := by decide +kernel
theorem d49_150 : decode C49 150 = .ok (.iload 7, 2) := by decide +kernel
theorem d49_152 : decode C49 152 = .ok (.baload, 1) := by decide +kernel
theorem d49_153 : decode C49 153 = .ok (.istore 9, 2) := by decide +kernel
theorem d49_155 : decode C49 155 = .ok (.iload 9, 2) := by decide +kernel
theorem d49_157 : decode C49 157 = .ok (.bipush (-64), 2) := by decide +kernel
theorem d49_159 : decode C49 159 = .ok (.if_icmp .ge 25, 3) := by decide +kernel
theorem d49_162 : decode C49 162 = .ok (.aload 6, 2) := by decide +kernel
theorem d49_164 : decode C49 164 = .ok (.iload 5, 2) := by decide +kernel
theorem d49_166 : decode C49 166 = .ok (.iinc 5 1, 3) := by decide +kernel
theorem d49_169 : decode C49 169 = .ok (.iload 8, 2) := by decide +kernel
theorem d49_171 : decode C49 171 = .ok (.iload 9, 2) := by decide +kernel
theorem d44_0 : decode C44 0 = .ok (.iload_n 0, 1) := by decide +kernel
theorem d44_1 : decode C44 1 = .ok (.bipush 6, 2) := by decide +kernel
theorem d44_3 : decode C44 3 = .ok (.ishl, 1) := by decide +kernel
theorem d44_4 : decode C44 4 = .ok (.iload_n 1, 1) := by decide +kernel
theorem d44_5 : decode C44 5 = .ok (.ixor, 1) := by decide +kernel
theorem d44_6 : decode C44 6 = .ok (.sipush 3968, 3) := by decide +kernel
theorem d44_9 : decode C44 9 = .ok (.ixor, 1) := by decide +kernel
theorem d44_10 : decode C44 10 = .ok (.i2c, 1) := by decide +kernel
theorem d44_11 : decode C44 11 = .ok (.ireturn, 1) := by decide +kernel
theorem rmz35 (l : Launch) (Z : State) (a0 : Array Value) (hw : oW a0 Z) (ws : List Jvm.Cond) (x0 : Int32) (x1 : Int32) (u8 : Addr) (zc : Int32) (fv : Value) (h0 : Heap) (n0 : Nat) (Z0 : n0 ≤ h0.size)   (SS : own_Sx Z h0 u8 zc fv)  : own_K l (⟨"java/lang/String", "decode2", "(II)C"⟩ : MethodName) jdk_42_method_35_code 2 (some .char) ws ({ frames := 0, cells := 0, slots := 0, locals := 0 } : Room) Z h0 #[(.int x0), (.int x1)] (own_QP h0 (some (.int (own_d2 x0 x1)))) := by
  refine own_met (plainFor_of_name pn_22) ?_
  intro p e s m below meth c s₁ hx hby hlk hml hown hnm hrt hZ hh X0 e0
  have N0 := Fr.nil n0
  refine oG m s₁ 0 #[vI x0,vI x1] [] (fun _ k => castTop (by first | (simp [entryFrame,mkF,argsToLocals,Value.category]; done) | rfl) k) ?_
  have K0 := Keep.refl h0 []
  refine oG m s₁ 11 #[vI x0,vI x1] [(.int ((((x0 <<< ((6 : Int32) &&& 31)) ^^^ x1) ^^^ (3968 : Int32)).toUInt32.toUInt16.toUInt32.toInt32))] (fun _ k => XS.iloadN X0.here hx rfl (hb hby d44_0) rfl (XS.bipush X0.here hx rfl (hb hby d44_1) (XS.ishl X0.here hx rfl (hb hby d44_3) rfl (XS.iloadN X0.here hx rfl (hb hby d44_4) rfl (XS.ixor X0.here hx rfl (hb hby d44_5) rfl (XS.sipush X0.here hx rfl (hb hby d44_6) (XS.ixor X0.here hx rfl (hb hby d44_9) rfl (XS.i2c X0.here hx rfl (hb hby d44_10) rfl k)))))))) ?_
  refine own_retN (t := .char) X0 hx hlk (by simp) hrt (hb hby d44_11) (by decide) (by decide) ?_
  exact ⟨by first | rfl | decide, e0, rfl⟩
theorem d49_173 : decode C49 173 = .ok (.invokestatic 98, 3) := by decide +kernel
theorem pd_482 : parseMethodDescriptor "(II)C" = some ⟨[.int, .int], some .char⟩ := by decide +kernel
theorem d49_176 : decode C49 176 = .ok (.i2b, 1) := by decide +kernel
theorem d49_177 : decode C49 177 = .ok (.bastore, 1) := by decide +kernel
theorem d49_178 : decode C49 178 = .ok (.iinc 7 1, 3) := by decide +kernel
theorem d49_181 : decode C49 181 = .ok (.goto (-88), 3) := by decide +kernel
theorem d49_190 : decode C49 190 = .ok (.iload 7, 2) := by decide +kernel
theorem d49_192 : decode C49 192 = .ok (.iload 4, 2) := by decide +kernel
theorem d49_194 : decode C49 194 = .ok (.if_icmp .ne 32, 3) := by decide +kernel
theorem d49_197 : decode C49 197 = .ok (.iload 5, 2) := by decide +kernel
theorem d49_199 : decode C49 199 = .ok (.aload 6, 2) := by decide +kernel
theorem d49_201 : decode C49 201 = .ok (.arraylength, 1) := by decide +kernel
theorem d49_202 : decode C49 202 = .ok (.if_icmp .eq 12, 3) := by decide +kernel
theorem d49_205 : decode C49 205 = .ok (.aload 6, 2) := by decide +kernel
theorem d49_207 : decode C49 207 = .ok (.iload 5, 2) := by decide +kernel
theorem d40_0 : decode C40 0 = .ok (.iload_n 1, 1) := by decide +kernel
theorem d40_1 : decode C40 1 = .ok (.aload_n 0, 1) := by decide +kernel
theorem d40_2 : decode C40 2 = .ok (.arraylength, 1) := by decide +kernel
theorem d40_3 : decode C40 3 = .ok (.if_icmp .ne 11, 3) := by decide +kernel
theorem d40_14 : decode C40 14 = .ok (.iload_n 1, 1) := by decide +kernel
theorem d40_15 : decode C40 15 = .ok (.newarray .byte, 2) := by decide +kernel
theorem d40_17 : decode C40 17 = .ok (.astore_n 2, 1) := by decide +kernel
theorem d40_18 : decode C40 18 = .ok (.aload_n 0, 1) := by decide +kernel
theorem d40_19 : decode C40 19 = .ok (.iconst 0, 1) := by decide +kernel
theorem d40_20 : decode C40 20 = .ok (.aload_n 2, 1) := by decide +kernel
theorem d40_21 : decode C40 21 = .ok (.iconst 0, 1) := by decide +kernel
theorem d40_22 : decode C40 22 = .ok (.aload_n 0, 1) := by decide +kernel
theorem d40_23 : decode C40 23 = .ok (.arraylength, 1) := by decide +kernel
theorem d40_24 : decode C40 24 = .ok (.iload_n 1, 1) := by decide +kernel
theorem d40_25 : decode C40 25 = .ok (.invokestatic 304, 3) := by decide +kernel
theorem d40_28 : decode C40 28 = .ok (.invokestatic 150, 3) := by decide +kernel
theorem d40_31 : decode C40 31 = .ok (.aload_n 2, 1) := by decide +kernel
theorem d40_32 : decode C40 32 = .ok (.areturn, 1) := by decide +kernel
def Q_rmz36 (Z : State) (ar0 : Addr) (kr0 : ClassId) (z0_0 : Int32) (z0_1 : Int32) (u8 : Addr) (zc : Int32) (fv : Value) (h0 : Heap) (n0 : Nat) (v : Option Value) (h : Heap) (L : List Loc) : Prop := ∃ (NA0 : Addr) (KA0 : ClassId), v = some (.ref NA0) ∧ Fr n0 L ∧ Keep h0 h [] ∧ h0.size ≤ NA0 ∧ Arv Z h NA0 KA0 .byte (1 : Int32) [(.int z0_0)] (.int 0)
theorem rmz36 (l : Launch) (Z : State) (a0 : Array Value) (hw : oW a0 Z) (ws : List Jvm.Cond) (ar0 : Addr) (kr0 : ClassId) (z0_0 : Int32) (z0_1 : Int32) (u8 : Addr) (zc : Int32) (fv : Value) (h0 : Heap) (n0 : Nat) (Z0 : n0 ≤ h0.size) (V_ar0 : Arv Z h0 ar0 kr0 .byte (2 : Int32) [(.int z0_0), (.int z0_1)] (.int 0)) (g_ar0 : n0 ≤ ar0)  (SS : own_Sx Z h0 u8 zc fv)  : own_K l (⟨"java/util/Arrays", "copyOf", "([BI)[B"⟩ : MethodName) jdk_65_method_121_code 3 (some (.array .byte)) ws ({ frames := 1, cells := 1, slots := 1, locals := 18 } : Room) Z h0 #[(.ref ar0), (.int 1)] (Q_rmz36 Z ar0 kr0 z0_0 z0_1 u8 zc fv h0 n0) := by
  refine own_met (plainFor_of_name pn_268) ?_
  intro p e s m below meth c s₁ hx hby hlk hml hown hnm hrt hZ hh X0 e0
  have N0 := Fr.nil n0
  refine oG m s₁ 0 #[vR ar0,vI 1,oU] [] (fun _ k => castTop (by first | (simp [entryFrame,mkF,argsToLocals,Value.category]; done) | rfl) k) ?_
  have K0 := Keep.refl h0 []
  refine oG m s₁ 2 #[vR ar0,vI 1,oU] [(.ref ar0),(.int 1)] (fun _ k => XS.iloadN X0.here hx rfl (hb hby d40_0) rfl (XS.aloadN X0.here hx rfl (hb hby d40_1) rfl rfl k)) ?_
  obtain ⟨cl1, Ar1, -, S1, M1, -, -⟩ := id V_ar0
  have ql1 := len_of S1 M1
  refine own_go (S' := (s₁.setTop (mkF m 3 #[vR ar0, vI 1, oU] [(.int 2), (.int 1)]))) (fun _ kont => X0.arraylength hx (by rw [e0]; exact Ar1.1) (State.isArrayOf_alike hZ.alike Ar1.2.1) (g := (mkF m 2 #[vR ar0, vI 1, oU] [(.ref ar0), (.int 1)])) rfl rfl (hb hby d40_2) _ (by rw [ql1]; exact kont)) ?_
  refine oG m s₁ 15 #[vR ar0,vI 1,oU] [(.int 1)] (fun _ k => XS.icmpYes X0.here hx rfl (pc0 := 3) (pc' := 14) rfl (hb hby d40_3) rfl (feq (by decide)).2 (by decide) (by decide) (XS.iloadN X0.here hx rfl (hb hby d40_14) rfl k)) ?_
  obtain ⟨T2, h2, k2, X2, e2, E2, A2, st2⟩ := newP X0 hx hZ (oH hw 7 rfl) e0 (g := (mkF m 15 #[vR ar0, vI 1, oU] [(.int 1)])) rfl (hb hby d40_15) rfl (by decide) (cap := 1) (by decide) (by decide) (by decide) (by decide)
  obtain ⟨b2, gz2⟩ : ∃ z, z = h0.size := ⟨_, rfl⟩
  rw [← gz2] at A2 st2
  have sz_b2 : h0.size ≤ b2 := Nat.le_trans K0.1 (Nat.le_of_eq gz2.symm)
  have ne_ar0_b2 : ar0 ≠ b2 := Nat.ne_of_lt (by rw [gz2]; exact V_ar0.lt)
  have c2_Var0 := V_ar0.ext E2
  have c2_USS := SS.ext E2
  have K2 := K0.ext E2
  have g_b2 : n0 ≤ b2 := Nat.le_trans Z0 (Nat.le_of_eq gz2.symm)
  have V2 := Arv.new A2 (by decide)
  have Z2 : n0 ≤ h2.size := Nat.le_trans Z0 E2.1
  refine oG m T2 17 #[vR ar0,vI 1,oU] [(.ref b2)] (fun _ k => st2 _ k) ?_
  have V3 : Arv Z h2 b2 k2 .byte (1 : Int32) [(.int 0)] (.int 0) := V2.pad (pad_rep [] (.int 0) 1)
  refine oG m T2 23 #[vR ar0,vI 1,vR b2] [(.ref ar0),(.int 0),(.ref b2),(.int 0),(.ref ar0)] (fun _ k => XS.astoreN X2.here hx rfl (hb hby d40_17) rfl rfl (l' := #[vR ar0,vI 1,vR b2]) rfl (XS.aloadN X2.here hx rfl (hb hby d40_18) rfl rfl (XS.iconst X2.here hx rfl (hb hby d40_19) (XS.aloadN X2.here hx rfl (hb hby d40_20) rfl rfl (XS.iconst X2.here hx rfl (hb hby d40_21) (XS.aloadN X2.here hx rfl (hb hby d40_22) rfl rfl k)))))) ?_
  obtain ⟨cl4, Ar4, -, S4, M4, -, -⟩ := id c2_Var0
  have ql4 := len_of S4 M4
  refine own_go (S' := (T2.setTop (mkF m 24 #[vR ar0, vI 1, vR b2] [(.int 2), (.int 0), (.ref b2), (.int 0), (.ref ar0)]))) (fun _ kont => X2.arraylength hx (by rw [e2]; exact Ar4.1) (State.isArrayOf_alike hZ.alike Ar4.2.1) (g := (mkF m 23 #[vR ar0, vI 1, vR b2] [(.ref ar0), (.int 0), (.ref b2), (.int 0), (.ref ar0)])) rfl rfl (hb hby d40_23) _ (by rw [ql4]; exact kont)) ?_
  refine oG m T2 25 #[vR ar0,vI 1,vR b2] [(.int 1),(.int 2),(.int 0),(.ref b2),(.int 0),(.ref ar0)] (fun _ k => XS.iloadN X2.here hx rfl (hb hby d40_24) rfl k) ?_
  obtain ⟨T5, X5, e5, st5⟩ := own_cP X2 hx hZ hown (oH hw 96 rfl) (oH hw 97 rfl) (oH hw 98 rfl) (oH hw 99 rfl) (by decide) (rmz13 l Z a0 hw [] (2 : Int32) (1 : Int32) u8 zc fv h2 n0 Z2  c2_USS (by decide)) (W := 4) (by decide) (by decide) (g := (mkF m 25 #[vR ar0, vI 1, vR b2] [(.int 1), (.int 2), (.int 0), (.ref b2), (.int 0), (.ref ar0)])) rfl (by rw [hml]; rfl) (argsL := [(.int 2), (.int 1)]) (rest := [(.int 0), (.ref b2), (.int 0), (.ref ar0)]) (lenOf pd_293 rfl) rfl rfl rfl (hb hby d40_25) e2 rfl (by decide) (by decide) (by decide : 1 ≤ _) (by decide : 1 ≤ _)
  refine oG m T5 28 #[vR ar0,vI 1,vR b2] [(.int 1),(.int 0),(.ref b2),(.int 0),(.ref ar0)] (fun _ k => st5 _ k) ?_
  obtain ⟨T6, h6, L6, X6, e6, N6, Kc6, Vd6, st6⟩ := cpA X5 hx hZ hown (oH hw 100 rfl) (oH hw 103 rfl) (oH hw 101 rfl) (oH hw 102 rfl) e5 (us := [(.int z0_0)]) c2_Var0 V3 (Or.inl ⟨rfl, rfl⟩) (sp := (0 : Int32)) (dp := (0 : Int32)) (nn := (1 : Int32)) (by decide) (by decide) (by decide) (by decide) (by decide) (by first | rfl | simp) (by first | decide | exact Nat.le_of_ble_eq_true rfl) N0 g_b2 (g := (mkF m 28 #[vR ar0, vI 1, vR b2] [(.int 1), (.int 0), (.ref b2), (.int 0), (.ref ar0)])) rfl (by rw [hml]; rfl) rfl (hb hby d40_28) (by decide) (W := 0) (by show 2 * 0 + _ ≤ _; exact Nat.le_of_eq rfl) (by decide)
  have Vn6 : Arv Z h6 b2 k2 .byte (1 : Int32) [(.int z0_0)] (.int 0) := Vd6
  have Z6 : n0 ≤ h6.size := Nat.le_trans Z2 Kc6.1
  have Kt6 := K2.trans Kc6 (fun x hx => by cases List.mem_singleton.mp hx; first | (left; simp; done) | (right; assumption))
  have c6_Var0 := c2_Var0.keep Kc6 (ninS ne_ar0_b2 nin0)
  have c6_USS := c2_USS.keep Kc6 (own_nsS (own_nsA V3) own_ns0)
  refine oG m T6 32 #[vR ar0,vI 1,vR b2] [(.ref b2)] (fun _ k => st6 _ (XS.aloadN X6.here hx rfl (hb hby d40_31) rfl rfl k)) ?_
  refine own_retA X6 hx hlk (rfl) rfl hrt (hb hby d40_32) (by decide) (by decide) ?_
  rw [e6]
  exact ⟨b2, k2, (by first | rfl | decide), N6, Kt6, sz_b2, Vn6⟩
theorem d49_209 : decode C49 209 = .ok (.invokestatic 102, 3) := by decide +kernel
theorem pd_515 : parseMethodDescriptor "([BI)[B" = some ⟨[(.array .byte), .int], some (.array .byte)⟩ := by decide +kernel
theorem d49_212 : decode C49 212 = .ok (.astore 6, 2) := by decide +kernel
theorem d49_214 : decode C49 214 = .ok (.aload_n 0, 1) := by decide +kernel
theorem d49_215 : decode C49 215 = .ok (.aload 6, 2) := by decide +kernel
theorem d49_217 : decode C49 217 = .ok (.putfield 9, 3) := by decide +kernel
theorem d49_220 : decode C49 220 = .ok (.aload_n 0, 1) := by decide +kernel
theorem d49_221 : decode C49 221 = .ok (.iconst 0, 1) := by decide +kernel
theorem d49_222 : decode C49 222 = .ok (.putfield 15, 3) := by decide +kernel
theorem d49_225 : decode C49 225 = .ok (.return_, 1) := by decide +kernel
theorem ef_rmz37 (m : MethodId) (x0 : Addr) (x1 : Addr) (x2 : Addr) (x3 : Int32) (x4 : Int32) : entryFrame m #[(.ref x0), (.ref x1), (.ref x2), (.int x3), (.int x4)] 11 = mkF m 0 #[vR x0, vR x1, vR x2, vI x3, vI x4, oU, oU, oU, oU, oU, oU] [] := by first | (simp [entryFrame, mkF, argsToLocals, Value.category]; done) | rfl
def Q_rmz37 (Z : State) (ob0 : Addr) (ar2 : Addr) (kr2 : ClassId) (z2_0 : Int32) (z2_1 : Int32) (z2_2 : Int32) (z2_3 : Int32) (u8 : Addr) (zc : Int32) (fv : Value) (h0 : Heap) (n0 : Nat) (v : Option Value) (h : Heap) (L : List Loc) : Prop := ∃ (NA0 : Addr) (KA0 : ClassId), v = none ∧ Fr n0 L ∧ Keep h0 h [ob0] ∧ h0.size ≤ NA0 ∧ Arv Z h NA0 KA0 .byte (1 : Int32) [(.int (nar .byte ((own_d2 z2_0 z2_1).toInt8.toInt32)))] (.int 0) ∧ Fld Z h ob0 "java/lang/String" "value" "[B" (.ref NA0) ∧ Fld Z h ob0 "java/lang/String" "coder" "B" (.int 0)
theorem rmz37 (l : Launch) (Z : State) (a0 : Array Value) (hw : ∀ d ∈ tables_1, d.before a0 Z = true) (ws : List Jvm.Cond) (ob0 : Addr) (ar2 : Addr) (kr2 : ClassId) (z2_0 : Int32) (z2_1 : Int32) (z2_2 : Int32) (z2_3 : Int32) (u8 : Addr) (zc : Int32) (fv : Value) (h0 : Heap) (n0 : Nat) (Z0 : n0 ≤ h0.size) (E_ob0 : Exa Z h0 ob0 "java/lang/String") (g_ob0 : n0 ≤ ob0) (F_ob0_value : Fld Z h0 ob0 "java/lang/String" "value" "[B" .null) (F_ob0_coder : Fld Z h0 ob0 "java/lang/String" "coder" "B" (.int 0)) (V_ar2 : Arv Z h0 ar2 kr2 .byte (4 : Int32) [(.int z2_0), (.int z2_1), (.int z2_2), (.int z2_3)] (.int 0)) (g_ar2 : n0 ≤ ar2) (E_ar2 : Exa Z h0 ar2 "[B") (ne_ob0_ar2 : ob0 ≠ ar2) (SS : own_Sx Z h0 u8 zc fv) (hq0 : z2_0 < (0 : Int32)) (hq1 : (z2_0 &&& (254 : Int32)) = (194 : Int32)) (hq2 : z2_1 < (-64 : Int32)) :
    MetFree l (⟨"java/lang/String", "<init>", "(Ljava/nio/charset/Charset;[BII)V"⟩ : MethodName) (head1 (Jvm.Cond.codeWith (⟨"java/lang/String", "<init>", "(Ljava/nio/charset/Charset;[BII)V"⟩ : MethodName) jdk_42_method_11_code 11 none [(800, 813, 816, 202)] :: ws) ({ frames := 3, cells := 2, slots := 3, locals := 49 } : Room)) (fun a U => a = #[(.ref ob0), (.ref u8), (.ref ar2), (.int 0), (.int 2)] ∧ Z.Warmed39 U.vm ∧ U.heap = h0) (fun _ _ _ _ _ => True) (fun _ U o U' => ∃ v L, o = .returned v ∧ Q_rmz37 Z ob0 ar2 kr2 z2_0 z2_1 z2_2 z2_3 u8 zc fv h0 n0 v U'.heap L ∧ FrameEnd U o U' L ({ frames := 3, cells := 2, slots := 3, locals := 49 } : Room).cells ({ frames := 3, cells := 2, slots := 3, locals := 49 } : Room).slots) := by
  refine MetFree.of_bodySF (plainFor_of_name pn_22) hisWith ?_
  intro p e s m args below meth c s₁ Bd hml0 hP hK
  obtain ⟨rfl, hZ, hh⟩ := hP
  have hx := Bd.exec
  have hby := Bd.bytes
  have hlk := Bd.notSynchronized
  have hml : c.maxLocals = 11 := hml0
  have hown : s.vm.findClass "java/lang/String" = some m.cls := findClass_of_methodNamed Bd.named
  have hnm := (name_of_methodNamed Bd.named Bd.method).1
  have X0 : Stand p l e ({ frames := 3, cells := 2, slots := 3, locals := 49 } : Room) s m #[(.ref ob0), (.ref u8), (.ref ar2), (.int 0), (.int 2)] below meth c s₁ [] 0 0 := Stand.of_body Bd
  have e0 : s₁.heap = h0 := by rw [← hh, Bd.state]; rfl
  have N0 := Fr.nil n0
  change own_Go p e below s (Q_rmz37 Z ob0 ar2 kr2 z2_0 z2_1 z2_2 z2_3 u8 zc fv h0 n0) ({ frames := 3, cells := 2, slots := 3, locals := 49 } : Room).cells ({ frames := 3, cells := 2, slots := 3, locals := 49 } : Room).slots _
  refine own_go (S' := (s₁.setTop (mkF m 0 #[vR ob0, vR u8, vR ar2, vI 0, vI 2, oU, oU, oU, oU, oU, oU] []))) (fun _ kont => castTop (ef_rmz37 m ob0 u8 ar2 (0 : Int32) (2 : Int32)) kont) ?_
  have K0 := Keep.refl h0 [ob0]
  refine oG m s₁ 1 #[vR ob0,vR u8,vR ar2,vI 0,vI 2,oU,oU,oU,oU,oU,oU] [(.ref ob0)] (fun _ k => XS.aloadN X0.here hx rfl (hb hby d49_0) rfl rfl k) ?_
  obtain ⟨T1, X1, e1, st1⟩ := initO X0 hx hZ hown (oH hw 78 rfl) (oH hw 18 rfl) (oH hw 19 rfl) e0 (g := (mkF m 1 #[vR ob0, vR u8, vR ar2, vI 0, vI 2, oU, oU, oU, oU, oU, oU] [(.ref ob0)])) rfl (by rw [hml]; rfl) rfl (hb hby d49_1) (by decide) (W := 0) (by show 2 * 0 + _ ≤ _; exact Nat.le_of_eq rfl) (by decide)
  refine oG m T1 31 #[vR ob0,vR u8,vR ar2,vI 0,vI 2,oU,oU,oU,oU,oU,oU] [(.ref u8)] (fun _ k => st1 _ (XS.iload X1.here hx rfl (hb hby d49_4) rfl (XS.ifYes X1.here hx rfl (pc0 := 6) (pc' := 30) rfl (hb hby d49_6) rfl ((if0 _ _).trans (feq (by decide)).2) (by decide) (by decide) (XS.aloadN X1.here hx rfl (hb hby d49_30) rfl rfl k)))) ?_
  have Sg2 := SS.sI
  obtain ⟨T3, X3, e3, st3⟩ := getS2 X1 hx hZ hown (host := "") (Or.inl (oH hw 79 rfl)) Via.refl e1 Sg2 (g := (mkF m 31 #[vR ob0, vR u8, vR ar2, vI 0, vI 2, oU, oU, oU, oU, oU, oU] [(.ref u8)])) rfl (hb hby d49_31)
  refine oG m T3 37 #[vR ob0,vR u8,vR ar2,vI 0,vI 2,oU,oU,oU,oU,oU,oU] [] (fun _ k => st3 _ (Jvm.RoadKit.acmp (g := (mkF m 34 #[vR ob0,vR u8,vR ar2,vI 0,vI 2,oU,oU,oU,oU,oU,oU] [(.ref u8),(.ref u8)])) X3 hx rfl rfl rfl (pc0 := 34) (pc' := 37) (same := true) rfl (hb hby d49_34) rfl (decide_eq_true rfl) (by decide) (by decide) k)) ?_
  have Sg4 := SS.sC
  obtain ⟨T5, X5, e5, st5⟩ := getS2 X3 hx hZ hown (host := "") (Or.inl (oH hw 81 rfl)) Via.refl e3 Sg4 (g := (mkF m 37 #[vR ob0, vR u8, vR ar2, vI 0, vI 2, oU, oU, oU, oU, oU, oU] [])) rfl (hb hby d49_37)
  refine oG m T5 47 #[vR ob0,vR u8,vR ar2,vI 0,vI 2,oU,oU,oU,oU,oU,oU] [(.int 2),(.int 0),(.ref ar2)] (fun _ k => st5 _ (XS.ifNo X5.here hx rfl (hb hby d49_40) rfl ((if0 _ _).trans (feq SS.nz).1) (XS.aloadN X5.here hx rfl (hb hby d49_43) rfl rfl (XS.iloadN X5.here hx rfl (hb hby d49_44) rfl (XS.iload X5.here hx rfl (hb hby d49_45) rfl k))))) ?_
  obtain ⟨T6, X6, e6, st6⟩ := own_cP X5 hx hZ hown (oH hw 82 rfl) (oH hw 83 rfl) (oH hw 84 rfl) (oH hw 85 rfl) (by decide) (rmz32 l Z a0 hw [] ar2 kr2 z2_0 z2_1 z2_2 z2_3 u8 zc fv h0 n0 Z0 V_ar2 g_ar2 E_ar2 SS hq0) (W := 0) (by decide) (by decide) (g := (mkF m 47 #[vR ob0, vR u8, vR ar2, vI 0, vI 2, oU, oU, oU, oU, oU, oU] [(.int 2), (.int 0), (.ref ar2)])) rfl (by rw [hml]; rfl) (argsL := [(.ref ar2), (.int 0), (.int 2)]) (rest := []) (lenOf pd_242 rfl) rfl rfl rfl (hb hby d49_47) e5 rfl (by decide) (by decide) (by decide : 0 ≤ _) (by decide : 0 ≤ _)
  refine oG m T6 84 #[vR ob0,vR u8,vR ar2,vI 0,vI 2,vI 0,oU,oU,oU,oU,oU] [(.int ((0 : Int32) + (2 : Int32))),(.int 0),(.ref ar2)] (fun _ k => st6 _ (XS.istore X6.here hx rfl (hb hby d49_50) rfl (l' := #[vR ob0,vR u8,vR ar2,vI 0,vI 2,vI 0,oU,oU,oU,oU,oU]) rfl (XS.iload X6.here hx rfl (hb hby d49_52) rfl (XS.iload X6.here hx rfl (hb hby d49_54) rfl (XS.icmpYes X6.here hx rfl (pc0 := 56) (pc' := 78) rfl (hb hby d49_56) rfl (feq (by decide)).2 (by decide) (by decide) (XS.aloadN X6.here hx rfl (hb hby d49_78) rfl rfl (XS.iloadN X6.here hx rfl (hb hby d49_79) rfl (XS.iloadN X6.here hx rfl (hb hby d49_80) rfl (XS.iload X6.here hx rfl (hb hby d49_81) rfl (XS.iadd X6.here hx rfl (hb hby d49_83) rfl k)))))))))) ?_
  rw [show ((0 : Int32) + (2 : Int32)) = (2 : Int32) from by decide]
  obtain ⟨v7, T7, Lc7, X7, hQ7, st7⟩ := own_cS X6 hx hZ hown (oH hw 86 rfl) (oH hw 87 rfl) (oH hw 88 rfl) (oH hw 89 rfl) (by decide) (rmz34 l Z a0 hw [] ar2 kr2 z2_0 z2_1 z2_2 z2_3 u8 zc fv h0 n0 Z0 V_ar2 g_ar2 E_ar2 SS) (W := 0) (by decide) (by decide) (g := (mkF m 84 #[vR ob0, vR u8, vR ar2, vI 0, vI 2, vI 0, oU, oU, oU, oU, oU] [(.int 2), (.int 0), (.ref ar2)])) rfl (by rw [hml]; rfl) (argsL := [(.ref ar2), (.int 0), (.int 2)]) (rest := []) (lenOf pd_298 rfl) rfl rfl rfl (hb hby d49_84) e6 rfl (by decide : 0 + 1 ≤ _) (by decide : 0 + 2 ≤ _)
  obtain ⟨na7_0, ka7_0, rfl, Nq7, Kc7, sa7_0, va7_0⟩ := hQ7
  have Kt7 := K0.trans Kc7 (fun x hx => nomatch hx)
  have N7 := Fr.app N0 Nq7
  have Z7 : n0 ≤ T7.heap.size := Nat.le_trans Z0 Kc7.1
  have c7_Eob0 := E_ob0.keep Kc7
  have c7_Fob0_value := F_ob0_value.keep Kc7 nin0
  have c7_Fob0_coder := F_ob0_coder.keep Kc7 nin0
  have c7_Var2 := V_ar2.keep Kc7 nin0
  have c7_Ear2 := E_ar2.keep Kc7
  have c7_USS := SS.keep Kc7 own_ns0
  refine oG m T7 87 #[vR ob0,vR u8,vR ar2,vI 0,vI 2,vI 0,oU,oU,oU,oU,oU] [(.ref na7_0)] (fun _ k => st7 _ k) ?_
  have g_na7_0 : n0 ≤ na7_0 := Nat.le_trans Z0 sa7_0
  have sz_na7_0 : h0.size ≤ na7_0 := Nat.le_trans K0.1 sa7_0
  have ne_ob0_na7_0 : ob0 ≠ na7_0 := Nat.ne_of_lt (Nat.lt_of_lt_of_le E_ob0.lt sa7_0)
  have ne_ar2_na7_0 : ar2 ≠ na7_0 := Nat.ne_of_lt (Nat.lt_of_lt_of_le E_ar2.lt sa7_0)
  refine oG m T7 107 #[vR ob0,vR u8,vR ar2,vI 0,vI 2,vI 0,vR na7_0,vI ((0 : Int32) + (1 : Int32)),oU,oU,oU] [(.int 0),(.ref na7_0)] (fun _ k => XS.astore X7.here hx rfl (hb hby d49_87) rfl rfl (l' := #[vR ob0,vR u8,vR ar2,vI 0,vI 2,vI 0,vR na7_0,oU,oU,oU,oU]) rfl (XS.iload X7.here hx rfl (hb hby d49_89) rfl (XS.istore X7.here hx rfl (hb hby d49_91) rfl (l' := #[vR ob0,vR u8,vR ar2,vI 0,vI 2,vI 0,vR na7_0,vI 0,oU,oU,oU]) rfl (XS.iload X7.here hx rfl (hb hby d49_93) rfl (XS.iload X7.here hx rfl (hb hby d49_95) rfl (XS.icmpNo X7.here hx rfl (hb hby d49_97) rfl (tlt (by decide)).2.1 (XS.aload X7.here hx rfl (hb hby d49_100) rfl rfl (XS.iload X7.here hx rfl (hb hby d49_102) rfl (XS.iinc X7.here hx rfl (hb hby d49_104) rfl (l' := #[vR ob0,vR u8,vR ar2,vI 0,vI 2,vI 0,vR na7_0,vI ((0 : Int32) + (1 : Int32)),oU,oU,oU]) rfl k))))))))) ?_
  rw [show ((0 : Int32) + (1 : Int32)) = (1 : Int32) from by decide]
  obtain ⟨cl8, Ar8, -, S8, -, H8, -⟩ := id va7_0
  have hin8 := inb_of (j := (0 : Int32)) S8 ⟨by decide, by decide⟩
  have hat8 := Has.at (v := (.int z2_0)) H8 hin8 (by first | rfl | decide)
  refine own_go (S' := (T7.setTop (mkF m 108 #[vR ob0, vR u8, vR ar2, vI 0, vI 2, vI 0, vR na7_0, vI 1, oU, oU, oU] [(.int z2_0)]))) (fun _ kont => X7.baloadBytes hx (j := (0 : Int32)) (v := (.int z2_0)) Ar8.1 (State.isArrayOf_alike hZ.alike Ar8.2.1) Ar8.2.2 hin8 hat8 (g := (mkF m 107 #[vR ob0, vR u8, vR ar2, vI 0, vI 2, vI 0, vR na7_0, vI 1, oU, oU, oU] [(.int 0), (.ref na7_0)])) rfl rfl (hb hby d49_107) _ kont) ?_
  refine oG m T7 152 #[vR ob0,vR u8,vR ar2,vI 0,vI 2,vI 0,vR na7_0,vI 1,vI z2_0,oU,oU] [(.int 1),(.ref na7_0)] (fun _ k => XS.istore X7.here hx rfl (hb hby d49_108) rfl (l' := #[vR ob0,vR u8,vR ar2,vI 0,vI 2,vI 0,vR na7_0,vI 1,vI z2_0,oU,oU]) rfl (XS.iload X7.here hx rfl (hb hby d49_110) rfl (XS.ifYes X7.here hx rfl (pc0 := 112) (pc' := 129) rfl (hb hby d49_112) rfl ((if0 _ _).trans (tlt hq0).1) (by decide) (by decide) (XS.iload X7.here hx rfl (hb hby d49_129) rfl (XS.sipush X7.here hx rfl (hb hby d49_131) (XS.iand X7.here hx rfl (hb hby d49_134) rfl (XS.sipush X7.here hx rfl (hb hby d49_135) (XS.icmpNo X7.here hx rfl (hb hby d49_138) rfl (teq hq1).2 (XS.iload X7.here hx rfl (hb hby d49_141) rfl (XS.iload X7.here hx rfl (hb hby d49_143) rfl (XS.icmpNo X7.here hx rfl (hb hby d49_145) rfl (tlt (by decide)).2.1 (XS.aload X7.here hx rfl (hb hby d49_148) rfl rfl (XS.iload X7.here hx rfl (hb hby d49_150) rfl k))))))))))))) ?_
  obtain ⟨cl9, Ar9, -, S9, -, H9, -⟩ := id va7_0
  have hin9 := inb_of (j := (1 : Int32)) S9 ⟨by decide, by decide⟩
  have hat9 := Has.at (v := (.int z2_1)) H9 hin9 (by first | rfl | decide)
  refine own_go (S' := (T7.setTop (mkF m 153 #[vR ob0, vR u8, vR ar2, vI 0, vI 2, vI 0, vR na7_0, vI 1, vI z2_0, oU, oU] [(.int z2_1)]))) (fun _ kont => X7.baloadBytes hx (j := (1 : Int32)) (v := (.int z2_1)) Ar9.1 (State.isArrayOf_alike hZ.alike Ar9.2.1) Ar9.2.2 hin9 hat9 (g := (mkF m 152 #[vR ob0, vR u8, vR ar2, vI 0, vI 2, vI 0, vR na7_0, vI 1, vI z2_0, oU, oU] [(.int 1), (.ref na7_0)])) rfl rfl (hb hby d49_152) _ kont) ?_
  refine oG m T7 169 #[vR ob0,vR u8,vR ar2,vI 0,vI 2,vI ((0 : Int32) + (1 : Int32)),vR na7_0,vI 1,vI z2_0,vI z2_1,oU] [(.int 0),(.ref na7_0)] (fun _ k => XS.istore X7.here hx rfl (hb hby d49_153) rfl (l' := #[vR ob0,vR u8,vR ar2,vI 0,vI 2,vI 0,vR na7_0,vI 1,vI z2_0,vI z2_1,oU]) rfl (XS.iload X7.here hx rfl (hb hby d49_155) rfl (XS.bipush X7.here hx rfl (hb hby d49_157) (XS.icmpNo X7.here hx rfl (hb hby d49_159) rfl (tlt hq2).2.1 (XS.aload X7.here hx rfl (hb hby d49_162) rfl rfl (XS.iload X7.here hx rfl (hb hby d49_164) rfl (XS.iinc X7.here hx rfl (hb hby d49_166) rfl (l' := #[vR ob0,vR u8,vR ar2,vI 0,vI 2,vI ((0 : Int32) + (1 : Int32)),vR na7_0,vI 1,vI z2_0,vI z2_1,oU]) rfl k))))))) ?_
  rw [show ((0 : Int32) + (1 : Int32)) = (1 : Int32) from by decide]
  refine oG m T7 173 #[vR ob0,vR u8,vR ar2,vI 0,vI 2,vI 1,vR na7_0,vI 1,vI z2_0,vI z2_1,oU] [(.int z2_1),(.int z2_0),(.int 0),(.ref na7_0)] (fun _ k => XS.iload X7.here hx rfl (hb hby d49_169) rfl (XS.iload X7.here hx rfl (hb hby d49_171) rfl k)) ?_
  obtain ⟨T10, X10, e10, st10⟩ := own_cP X7 hx hZ hown (oH hw 215 rfl) (oH hw 216 rfl) (oH hw 54 rfl) (oH hw 217 rfl) (by decide) (rmz35 l Z a0 hw [] z2_0 z2_1 u8 zc fv T7.heap n0 Z7  c7_USS) (W := 2) (by decide) (by decide) (g := (mkF m 173 #[vR ob0, vR u8, vR ar2, vI 0, vI 2, vI 1, vR na7_0, vI 1, vI z2_0, vI z2_1, oU] [(.int z2_1), (.int z2_0), (.int 0), (.ref na7_0)])) rfl (by rw [hml]; rfl) (argsL := [(.int z2_0), (.int z2_1)]) (rest := [(.int 0), (.ref na7_0)]) (lenOf pd_482 rfl) rfl rfl rfl (hb hby d49_173) rfl rfl (by decide) (by decide) (by decide : 1 ≤ _) (by decide : 2 ≤ _)
  refine oG m T10 177 #[vR ob0,vR u8,vR ar2,vI 0,vI 2,vI 1,vR na7_0,vI 1,vI z2_0,vI z2_1,oU] [(.int ((own_d2 z2_0 z2_1).toInt8.toInt32)),(.int 0),(.ref na7_0)] (fun _ k => st10 _ (XS.i2b X10.here hx rfl (hb hby d49_176) rfl k)) ?_
  obtain ⟨cl11, Ar11, qc11, S11, M11, Ha11, Ga11⟩ := id va7_0
  obtain ⟨T11, h11, X11, e11, W11, st11⟩ := stB X10 hx hZ e10 Ar11 (j := (0 : Int32)) (inb_of S11 ⟨by decide, by decide⟩) (g := (mkF m 177 #[vR ob0, vR u8, vR ar2, vI 0, vI 2, vI 1, vR na7_0, vI 1, vI z2_0, vI z2_1, oU] [(.int ((own_d2 z2_0 z2_1).toInt8.toInt32)), (.int 0), (.ref na7_0)])) rfl rfl (hb hby d49_177)
  have c11_Eob0 := c7_Eob0.wr W11
  have c11_Fob0_value := c7_Fob0_value.other W11 (Or.inl ne_ob0_na7_0)
  have c11_Fob0_coder := c7_Fob0_coder.other W11 (Or.inl ne_ob0_na7_0)
  have c11_Var2 := c7_Var2.other W11 ne_ar2_na7_0
  have c11_Ear2 := c7_Ear2.wr W11
  have c11_USS := c7_USS.wr W11
  have V11 : Arv Z h11 na7_0 ka7_0 .byte (2 : Int32) [(.int (nar .byte ((own_d2 z2_0 z2_1).toInt8.toInt32))), (.int z2_1)] (.int 0) := Arv.set Ar11 qc11 S11 M11 Ha11 Ga11 (fits_nar_byte _) W11 0 (by decide) (Nat.le_of_ble_eq_true rfl)
  have K11 := Kt7.wr W11 (Or.inr sz_na7_0)
  have N11 := Fr.snoc X11 N7 g_na7_0
  have Z11 : n0 ≤ h11.size := Nat.le_trans Z7 (Nat.le_of_eq W11.size.symm)
  refine oG m T11 181 #[vR ob0,vR u8,vR ar2,vI 0,vI 2,vI 1,vR na7_0,vI ((1 : Int32) + (1 : Int32)),vI z2_0,vI z2_1,oU] [] (fun _ k => st11 _ (XS.iinc X11.here hx rfl (hb hby d49_178) rfl (l' := #[vR ob0,vR u8,vR ar2,vI 0,vI 2,vI 1,vR na7_0,vI ((1 : Int32) + (1 : Int32)),vI z2_0,vI z2_1,oU]) rfl k)) ?_
  rw [show ((1 : Int32) + (1 : Int32)) = (2 : Int32) from by decide]
  refine oG m T11 201 #[vR ob0,vR u8,vR ar2,vI 0,vI 2,vI 1,vR na7_0,vI 2,vI z2_0,vI z2_1,oU] [(.ref na7_0),(.int 1)] (fun _ k => XS.goto X11.here hx rfl (pc0 := 181) (pc' := 93) rfl (hb hby d49_181) (by decide) (by decide) (XS.iload X11.here hx rfl (hb hby d49_93) rfl (XS.iload X11.here hx rfl (hb hby d49_95) rfl (XS.icmpYes X11.here hx rfl (pc0 := 97) (pc' := 190) rfl (hb hby d49_97) rfl (flt (by decide)).2.1 (by decide) (by decide) (XS.iload X11.here hx rfl (hb hby d49_190) rfl (XS.iload X11.here hx rfl (hb hby d49_192) rfl (XS.icmpNo X11.here hx rfl (hb hby d49_194) rfl (teq (by decide)).2 (XS.iload X11.here hx rfl (hb hby d49_197) rfl (XS.aload X11.here hx rfl (hb hby d49_199) rfl rfl k))))))))) ?_
  obtain ⟨cl12, Ar12, -, S12, M12, -, -⟩ := id V11
  have ql12 := len_of S12 M12
  refine own_go (S' := (T11.setTop (mkF m 202 #[vR ob0, vR u8, vR ar2, vI 0, vI 2, vI 1, vR na7_0, vI 2, vI z2_0, vI z2_1, oU] [(.int 2), (.int 1)]))) (fun _ kont => X11.arraylength hx (by rw [e11]; exact Ar12.1) (State.isArrayOf_alike hZ.alike Ar12.2.1) (g := (mkF m 201 #[vR ob0, vR u8, vR ar2, vI 0, vI 2, vI 1, vR na7_0, vI 2, vI z2_0, vI z2_1, oU] [(.ref na7_0), (.int 1)])) rfl rfl (hb hby d49_201) _ (by rw [ql12]; exact kont)) ?_
  refine oG m T11 209 #[vR ob0,vR u8,vR ar2,vI 0,vI 2,vI 1,vR na7_0,vI 2,vI z2_0,vI z2_1,oU] [(.int 1),(.ref na7_0)] (fun _ k => XS.icmpNo X11.here hx rfl (hb hby d49_202) rfl (feq (by decide)).1 (XS.aload X11.here hx rfl (hb hby d49_205) rfl rfl (XS.iload X11.here hx rfl (hb hby d49_207) rfl k))) ?_
  obtain ⟨v13, T13, Lc13, X13, hQ13, st13⟩ := own_cS X11 hx hZ hown (oH hw 201 rfl) (oH hw 202 rfl) (oH hw 88 rfl) (oH hw 203 rfl) (by decide) (rmz36 l Z a0 hw [] na7_0 ka7_0 (nar .byte ((own_d2 z2_0 z2_1).toInt8.toInt32)) z2_1 u8 zc fv h11 n0 Z11 V11 g_na7_0 c11_USS) (W := 0) (by decide) (by decide) (g := (mkF m 209 #[vR ob0, vR u8, vR ar2, vI 0, vI 2, vI 1, vR na7_0, vI 2, vI z2_0, vI z2_1, oU] [(.int 1), (.ref na7_0)])) rfl (by rw [hml]; rfl) (argsL := [(.ref na7_0), (.int 1)]) (rest := []) (lenOf pd_515 rfl) rfl rfl rfl (hb hby d49_209) e11 rfl (by decide : 1 + 1 ≤ _) (by decide : 2 + 1 ≤ _)
  obtain ⟨na13_0, ka13_0, rfl, Nq13, Kc13, sa13_0, va13_0⟩ := hQ13
  have Kt13 := K11.trans Kc13 (fun x hx => nomatch hx)
  have N13 := Fr.app N11 Nq13
  have Z13 : n0 ≤ T13.heap.size := Nat.le_trans Z11 Kc13.1
  have c13_Eob0 := c11_Eob0.keep Kc13
  have c13_Fob0_value := c11_Fob0_value.keep Kc13 nin0
  have c13_Fob0_coder := c11_Fob0_coder.keep Kc13 nin0
  have c13_Var2 := c11_Var2.keep Kc13 nin0
  have c13_Ear2 := c11_Ear2.keep Kc13
  have c13_USS := c11_USS.keep Kc13 own_ns0
  have c13_Vna7_0 := V11.keep Kc13 nin0
  refine oG m T13 212 #[vR ob0,vR u8,vR ar2,vI 0,vI 2,vI 1,vR na7_0,vI 2,vI z2_0,vI z2_1,oU] [(.ref na13_0)] (fun _ k => st13 _ k) ?_
  have g_na13_0 : n0 ≤ na13_0 := Nat.le_trans Z11 sa13_0
  have sz_na13_0 : h0.size ≤ na13_0 := Nat.le_trans K11.1 sa13_0
  have ne_ob0_na13_0 : ob0 ≠ na13_0 := Nat.ne_of_lt (Nat.lt_of_lt_of_le c11_Eob0.lt sa13_0)
  have ne_ar2_na13_0 : ar2 ≠ na13_0 := Nat.ne_of_lt (Nat.lt_of_lt_of_le c11_Ear2.lt sa13_0)
  have ne_na7_0_na13_0 : na7_0 ≠ na13_0 := Nat.ne_of_lt (Nat.lt_of_lt_of_le V11.lt sa13_0)
  refine oG m T13 217 #[vR ob0,vR u8,vR ar2,vI 0,vI 2,vI 1,vR na13_0,vI 2,vI z2_0,vI z2_1,oU] [(.ref na13_0),(.ref ob0)] (fun _ k => XS.astore X13.here hx rfl (hb hby d49_212) rfl rfl (l' := #[vR ob0,vR u8,vR ar2,vI 0,vI 2,vI 1,vR na13_0,vI 2,vI z2_0,vI z2_1,oU]) rfl (XS.aloadN X13.here hx rfl (hb hby d49_214) rfl rfl (XS.aload X13.here hx rfl (hb hby d49_215) rfl rfl k))) ?_
  obtain ⟨T14, h14, X14, e14, W14, st14⟩ := putF X13 hx hZ hown (host := "") (Or.inl (oH hw 104 rfl)) Via.refl rfl c13_Fob0_value c13_Eob0 (Or.inr ⟨(oH hw 105 rfl), rfl, hnm⟩) (oH hw 53 rfl) (ty := (.array .byte)) (by decide) rfl rfl (g := (mkF m 217 #[vR ob0, vR u8, vR ar2, vI 0, vI 2, vI 1, vR na13_0, vI 2, vI z2_0, vI z2_1, oU] [(.ref na13_0), (.ref ob0)])) rfl rfl (hb hby d49_217)
  have c14_Eob0 := c13_Eob0.wr W14
  have c14_Fob0_value := c13_Fob0_value.same W14
  have c14_Fob0_coder := c13_Fob0_coder.other W14 (Or.inr (slot_ne (Or.inr (oH hw 107 rfl)) (Or.inr (oH hw 105 rfl)) (by decide) (by decide : parseFieldDescriptor "B" = some .byte) (by decide : parseFieldDescriptor "[B" = some (.array .byte))))
  have c14_Var2 := c13_Var2.other W14 (Ne.symm ne_ob0_ar2)
  have c14_Ear2 := c13_Ear2.wr W14
  have c14_USS := c13_USS.wr W14
  have c14_Vna7_0 := c13_Vna7_0.other W14 (Ne.symm ne_ob0_na7_0)
  have c14_Vna13_0 := va13_0.other W14 (Ne.symm ne_ob0_na13_0)
  have K14 := Kt13.wr W14 (Or.inl (List.mem_of_getElem? (i := 0) rfl))
  have N14 := Fr.snoc X14 N13 g_ob0
  have Z14 : n0 ≤ h14.size := Nat.le_trans Z13 (Nat.le_of_eq W14.size.symm)
  refine oG m T14 222 #[vR ob0,vR u8,vR ar2,vI 0,vI 2,vI 1,vR na13_0,vI 2,vI z2_0,vI z2_1,oU] [(.int 0),(.ref ob0)] (fun _ k => st14 _ (XS.aloadN X14.here hx rfl (hb hby d49_220) rfl rfl (XS.iconst X14.here hx rfl (hb hby d49_221) k))) ?_
  obtain ⟨T15, h15, X15, e15, W15, st15⟩ := putFN X14 hx hZ hown (oH hw 106 rfl) Via.refl e14 c14_Fob0_coder c14_Eob0 (Or.inr ⟨(oH hw 107 rfl), rfl, hnm⟩) (oH hw 53 rfl) (ty := .byte) (v' := (.int 0)) (by decide) rfl (by first | exact fits_nar_byte _ | rfl | decide) (g := (mkF m 222 #[vR ob0, vR u8, vR ar2, vI 0, vI 2, vI 1, vR na13_0, vI 2, vI z2_0, vI z2_1, oU] [(.int 0), (.ref ob0)])) rfl rfl (hb hby d49_222)
  have c15_Eob0 := c14_Eob0.wr W15
  have c15_Fob0_value := c14_Fob0_value.other W15 (Or.inr (slot_ne (Or.inr (oH hw 105 rfl)) (Or.inr (oH hw 107 rfl)) (by decide) (by decide : parseFieldDescriptor "[B" = some (.array .byte)) (by decide : parseFieldDescriptor "B" = some .byte)))
  have c15_Fob0_coder := c14_Fob0_coder.same W15
  have c15_Var2 := c14_Var2.other W15 (Ne.symm ne_ob0_ar2)
  have c15_Ear2 := c14_Ear2.wr W15
  have c15_USS := c14_USS.wr W15
  have c15_Vna7_0 := c14_Vna7_0.other W15 (Ne.symm ne_ob0_na7_0)
  have c15_Vna13_0 := c14_Vna13_0.other W15 (Ne.symm ne_ob0_na13_0)
  have K15 := K14.wr W15 (Or.inl (List.mem_of_getElem? (i := 0) rfl))
  have N15 := Fr.snoc X15 N14 g_ob0
  have Z15 : n0 ≤ h15.size := Nat.le_trans Z14 (Nat.le_of_eq W15.size.symm)
  refine oG m T15 225 #[vR ob0,vR u8,vR ar2,vI 0,vI 2,vI 1,vR na13_0,vI 2,vI z2_0,vI z2_1,oU] [] (fun _ k => st15 _ k) ?_
  refine own_ret0 X15 hx hlk Bd.returns (hb hby d49_225) (by decide) (by decide) ?_
  rw [e15]
  exact ⟨na13_0, ka13_0, (by first | rfl | decide), N15, K15, sz_na13_0, c15_Vna13_0, c15_Fob0_value, c15_Fob0_coder⟩
def Q_rmz38 (Z : State) (ob0 : Addr) (ar1 : Addr) (kr1 : ClassId) (z1_0 : Int32) (z1_1 : Int32) (z1_2 : Int32) (z1_3 : Int32) (u8 : Addr) (zc : Int32) (fv : Value) (h0 : Heap) (n0 : Nat) (v : Option Value) (h : Heap) (L : List Loc) : Prop := ∃ (NA0 : Addr) (KA0 : ClassId), v = none ∧ Fr n0 L ∧ Keep h0 h [ob0] ∧ h0.size ≤ NA0 ∧ Arv Z h NA0 KA0 .byte (1 : Int32) [(.int (nar .byte ((own_d2 z1_0 z1_1).toInt8.toInt32)))] (.int 0) ∧ Fld Z h ob0 "java/lang/String" "value" "[B" (.ref NA0) ∧ Fld Z h ob0 "java/lang/String" "coder" "B" (.int 0)
theorem rmz38 (l : Launch) (Z : State) (a0 : Array Value) (hw : oW a0 Z) (ws : List Jvm.Cond) (ob0 : Addr) (ar1 : Addr) (kr1 : ClassId) (z1_0 : Int32) (z1_1 : Int32) (z1_2 : Int32) (z1_3 : Int32) (u8 : Addr) (zc : Int32) (fv : Value) (h0 : Heap) (n0 : Nat) (Z0 : n0 ≤ h0.size) (E_ob0 : Exa Z h0 ob0 "java/lang/String") (g_ob0 : n0 ≤ ob0) (F_ob0_value : Fld Z h0 ob0 "java/lang/String" "value" "[B" .null) (F_ob0_coder : Fld Z h0 ob0 "java/lang/String" "coder" "B" (.int 0)) (V_ar1 : Arv Z h0 ar1 kr1 .byte (4 : Int32) [(.int z1_0), (.int z1_1), (.int z1_2), (.int z1_3)] (.int 0)) (g_ar1 : n0 ≤ ar1) (E_ar1 : Exa Z h0 ar1 "[B") (ne_ob0_ar1 : ob0 ≠ ar1) (SS : own_Sx Z h0 u8 zc fv) (hq0 : z1_0 < (0 : Int32)) (hq1 : (z1_0 &&& (254 : Int32)) = (194 : Int32)) (hq2 : z1_1 < (-64 : Int32)) : own_K l (⟨"java/lang/String", "<init>", "([BIILjava/nio/charset/Charset;)V"⟩ : MethodName) jdk_42_method_10_code 5 none ws ({ frames := 4, cells := 2, slots := 3, locals := 71 } : Room) Z h0 #[(.ref ob0), (.ref ar1), (.int 0), (.int 2), (.ref u8)] (Q_rmz38 Z ob0 ar1 kr1 z1_0 z1_1 z1_2 z1_3 u8 zc fv h0 n0) := by
  refine own_met (plainFor_of_name pn_22) ?_
  intro p e s m below meth c s₁ hx hby hlk hml hown hnm hrt hZ hh X0 e0
  have N0 := Fr.nil n0
  refine oG m s₁ 0 #[vR ob0,vR ar1,vI 0,vI 2,vR u8] [] (fun _ k => castTop (by first | (simp [entryFrame,mkF,argsToLocals,Value.category]; done) | rfl) k) ?_
  have K0 := Keep.refl h0 [ob0]
  refine oG m s₁ 3 #[vR ob0,vR ar1,vI 0,vI 2,vR u8] [(.ref u8),(.ref ob0)] (fun _ k => XS.aloadN X0.here hx rfl (hb hby d11_0) rfl rfl (XS.aload X0.here hx rfl (hb hby d11_1) rfl rfl k)) ?_
  obtain ⟨T1, X1, e1, st1⟩ := own_cP X0 hx hZ hown (oH hw 60 rfl) (oH hw 61 rfl) (oH hw 62 rfl) (oH hw 63 rfl) (by decide) (rmz8 l Z a0 hw []  u8 zc fv h0 n0 Z0  SS) (W := 1) (by decide) (by decide) (g := (mkF m 3 #[vR ob0, vR ar1, vI 0, vI 2, vR u8] [(.ref u8), (.ref ob0)])) rfl (by rw [hml]; rfl) (argsL := [(.ref u8)]) (rest := [(.ref ob0)]) (lenOf pd_180 rfl) rfl rfl rfl (hb hby d11_3) e0 rfl (by decide) (by decide) (by decide : 0 ≤ _) (by decide : 0 ≤ _)
  refine oG m T1 6 #[vR ob0,vR ar1,vI 0,vI 2,vR u8] [(.ref u8),(.ref ob0)] (fun _ k => st1 _ k) ?_
  obtain ⟨T2, X2, e2, st2⟩ := castY X1 hx hZ hown (oH hw 64 rfl) e1 (Ins.of_exa SS.eu (oH hw 65 rfl)) (g := (mkF m 6 #[vR ob0, vR ar1, vI 0, vI 2, vR u8] [(.ref u8), (.ref ob0)])) rfl rfl (hb hby d11_6)
  refine oG m T2 13 #[vR ob0,vR ar1,vI 0,vI 2,vR u8] [(.ref ar1),(.int 2),(.int 0),(.ref ar1),(.ref u8),(.ref ob0)] (fun _ k => st2 _ (XS.aloadN X2.here hx rfl (hb hby d11_9) rfl rfl (XS.iloadN X2.here hx rfl (hb hby d11_10) rfl (XS.iloadN X2.here hx rfl (hb hby d11_11) rfl (XS.aloadN X2.here hx rfl (hb hby d11_12) rfl rfl k))))) ?_
  obtain ⟨cl3, Ar3, -, S3, M3, -, -⟩ := id V_ar1
  have ql3 := len_of S3 M3
  refine own_go (S' := (T2.setTop (mkF m 14 #[vR ob0, vR ar1, vI 0, vI 2, vR u8] [(.int 4), (.int 2), (.int 0), (.ref ar1), (.ref u8), (.ref ob0)]))) (fun _ kont => X2.arraylength hx (by rw [e2]; exact Ar3.1) (State.isArrayOf_alike hZ.alike Ar3.2.1) (g := (mkF m 13 #[vR ob0, vR ar1, vI 0, vI 2, vR u8] [(.ref ar1), (.int 2), (.int 0), (.ref ar1), (.ref u8), (.ref ob0)])) rfl rfl (hb hby d11_13) _ (by rw [ql3]; exact kont)) ?_
  obtain ⟨T4, X4, e4, st4⟩ := own_cP X2 hx hZ hown (oH hw 66 rfl) (oH hw 67 rfl) (oH hw 54 rfl) (oH hw 68 rfl) (by decide) (rmz10 l Z a0 hw [] (0 : Int32) (2 : Int32) (4 : Int32) u8 zc fv h0 n0 Z0  SS (by decide) (by decide)) (W := 3) (by decide) (by decide) (g := (mkF m 14 #[vR ob0, vR ar1, vI 0, vI 2, vR u8] [(.int 4), (.int 2), (.int 0), (.ref ar1), (.ref u8), (.ref ob0)])) rfl (by rw [hml]; rfl) (argsL := [(.int 0), (.int 2), (.int 4)]) (rest := [(.ref ar1), (.ref u8), (.ref ob0)]) (lenOf pd_209 rfl) rfl rfl rfl (hb hby d11_14) e2 rfl (by decide) (by decide) (by decide : 0 ≤ _) (by decide : 0 ≤ _)
  refine oG m T4 18 #[vR ob0,vR ar1,vI 0,vI 2,vR u8] [(.int 2),(.int 0),(.ref ar1),(.ref u8),(.ref ob0)] (fun _ k => st4 _ (XS.iloadN X4.here hx rfl (hb hby d11_17) rfl k)) ?_
  obtain ⟨v5, _, ⟨T5, L5, k5, n5⟩, -, X5, ⟨Lc5, hQ5, l5, y5, z5⟩, st5⟩ := X4.specialBackH hx (y := (⟨"java/lang/String", "<init>", "(Ljava/nio/charset/Charset;[BII)V"⟩ : MethodName)) rfl hown (mvT hZ (oH hw 74 rfl)) (mvT hZ (oH hw 75 rfl)) (mvT hZ (oH hw 77 rfl)) (by decide) (backOfWith (W := 0) (rmz37 l Z a0 hw [] ob0 ar1 kr1 z1_0 z1_1 z1_2 z1_3 u8 zc fv h0 n0 Z0 E_ob0 g_ob0 F_ob0_value F_ob0_coder V_ar1 g_ar1 E_ar1 ne_ob0_ar1 SS hq0 hq1 hq2) hZ (oH hw 77 rfl) (oH hw 54 rfl) (by decide) (by decide)) (g := (mkF m 18 #[vR ob0, vR ar1, vI 0, vI 2, vR u8] [(.int 2), (.int 0), (.ref ar1), (.ref u8), (.ref ob0)])) rfl (by rw [hml]; rfl) (Steps.refl _) (a := ob0) (argsL := [(.ref u8), (.ref ar1), (.int 0), (.int 2)]) (rest := []) (lenOf pd_307 rfl) rfl (by show 2 * 0 + _ ≤ _; exact Nat.le_of_eq rfl) (hb hby d11_18) (fun _ _ => ⟨rfl, e4, (by decide : 0 + 2 ≤ _), (by decide : 0 + 3 ≤ _)⟩)
  dsimp only [Pt.U, Pt.locs, Pt.cells, Pt.slots] at X5 l5 y5 z5 st5 hQ5
  subst l5 y5 z5
  obtain ⟨na5_0, ka5_0, rfl, Nq5, Kc5, sa5_0, va5_0, wo5_0_value, wo5_0_coder⟩ := hQ5
  have Kt5 := K0.trans Kc5 (fun x hx => by simp only [List.mem_cons, List.mem_singleton, List.not_mem_nil, or_false] at hx; rcases hx with rfl <;> first | (left; simp; done) | (right; assumption))
  have N5 := Fr.app N0 Nq5
  have Z5 : n0 ≤ T5.heap.size := Nat.le_trans Z0 Kc5.1
  have c5_Eob0 := E_ob0.keep Kc5
  have c5_Var1 := V_ar1.keep Kc5 (ninS (Ne.symm ne_ob0_ar1) nin0)
  have c5_Ear1 := E_ar1.keep Kc5
  have c5_USS := SS.keep Kc5 (own_nsS (own_nsE E_ob0) own_ns0)
  refine oG m T5 21 #[vR ob0,vR ar1,vI 0,vI 2,vR u8] [] (fun _ k => st5.trans k) ?_
  have g_na5_0 : n0 ≤ na5_0 := Nat.le_trans Z0 sa5_0
  have sz_na5_0 : h0.size ≤ na5_0 := Nat.le_trans K0.1 sa5_0
  have ne_ob0_na5_0 : ob0 ≠ na5_0 := Nat.ne_of_lt (Nat.lt_of_lt_of_le E_ob0.lt sa5_0)
  have ne_ar1_na5_0 : ar1 ≠ na5_0 := Nat.ne_of_lt (Nat.lt_of_lt_of_le E_ar1.lt sa5_0)
  refine own_ret0 X5 hx hlk hrt (hb hby d11_21) (by decide) (by decide) ?_
  exact ⟨na5_0, ka5_0, (by first | rfl | decide), N5, Kt5, sz_na5_0, va5_0, wo5_0_value, wo5_0_coder⟩
def Q_rmz39 (Z : State) (ob0 : Addr) (ar0b : Addr) (kr0b : ClassId) (z0b_0 : Int32) (z0b_1 : Int32) (z0b_2 : Int32) (z0b_3 : Int32) (u8 : Addr) (zc : Int32) (fv : Value) (h0 : Heap) (n0 : Nat) (v : Option Value) (h : Heap) (L : List Loc) : Prop := ∃ (NA0 : Addr) (KA0 : ClassId), ∃ NO0 : Addr, v = some (.ref NO0) ∧ Fr n0 L ∧ Keep h0 h [] ∧ h0.size ≤ NA0 ∧ Arv Z h NA0 KA0 .byte (1 : Int32) [(.int (nar .byte ((own_d2 z0b_0 z0b_1).toInt8.toInt32)))] (.int 0) ∧ h0.size ≤ NO0 ∧ Exa Z h NO0 "java/lang/String" ∧ Fld Z h NO0 "java/lang/String" "value" "[B" (.ref NA0) ∧ Fld Z h NO0 "java/lang/String" "coder" "B" (.int 0)
theorem rmz39 (l : Launch) (Z : State) (a0 : Array Value) (hw : oW a0 Z) (ws : List Jvm.Cond) (ob0 : Addr) (ar0b : Addr) (kr0b : ClassId) (z0b_0 : Int32) (z0b_1 : Int32) (z0b_2 : Int32) (z0b_3 : Int32) (u8 : Addr) (zc : Int32) (fv : Value) (h0 : Heap) (n0 : Nat) (Z0 : n0 ≤ h0.size) (E_ob0 : Exa Z h0 ob0 "clearcut/Text") (g_ob0 : n0 ≤ ob0) (V_ar0b : Arv Z h0 ar0b kr0b .byte (4 : Int32) [(.int z0b_0), (.int z0b_1), (.int z0b_2), (.int z0b_3)] (.int 0)) (g_ar0b : n0 ≤ ar0b) (E_ar0b : Exa Z h0 ar0b "[B") (F_ob0_bytes : Fld Z h0 ob0 "clearcut/Text" "bytes" "[B" (.ref ar0b)) (ne_ob0_ar0b : ob0 ≠ ar0b) (SS : own_Sx Z h0 u8 zc fv) (hq0 : z0b_0 < (0 : Int32)) (hq1 : (z0b_0 &&& (254 : Int32)) = (194 : Int32)) (hq2 : z0b_1 < (-64 : Int32)) : own_K l (⟨"clearcut/Text", "decode", "(II)Ljava/lang/String;"⟩ : MethodName) prog_60_method_17_code 3 (some (.object "java/lang/String")) ws ({ frames := 5, cells := 3, slots := 7, locals := 88 } : Room) Z h0 #[(.ref ob0), (.int 0), (.int 2)] (Q_rmz39 Z ob0 ar0b kr0b z0b_0 z0b_1 z0b_2 z0b_3 u8 zc fv h0 n0) := by
  refine own_met (plainFor_of_name pn_78) ?_
  intro p e s m below meth c s₁ hx hby hlk hml hown hnm hrt hZ hh X0 e0
  have N0 := Fr.nil n0
  refine oG m s₁ 0 #[vR ob0,vI 0,vI 2] [] (fun _ k => castTop (by first | (simp [entryFrame,mkF,argsToLocals,Value.category]; done) | rfl) k) ?_
  have K0 := Keep.refl h0 []
  obtain ⟨T1, h1, X1, e1, E1, A1, D1, -, st1⟩ := newO X0 hx hZ hown (oH hw 52 rfl) (oH hw 53 rfl) (oH hw 54 rfl) e0 (g := (mkF m 0 #[vR ob0, vI 0, vI 2] [])) rfl (hb hby d10_0) (by decide) (by decide)
  obtain ⟨b1, gz1⟩ : ∃ z, z = h0.size := ⟨_, rfl⟩
  rw [← gz1] at A1 D1 st1
  have sz_b1 : h0.size ≤ b1 := Nat.le_trans K0.1 (Nat.le_of_eq gz1.symm)
  have ne_ob0_b1 : ob0 ≠ b1 := Nat.ne_of_lt (by rw [gz1]; exact E_ob0.lt)
  have ne_ar0b_b1 : ar0b ≠ b1 := Nat.ne_of_lt (by rw [gz1]; exact V_ar0b.lt)
  have c1_Eob0 := E_ob0.ext E1
  have c1_Var0b := V_ar0b.ext E1
  have c1_Ear0b := E_ar0b.ext E1
  have c1_Fob0_bytes := F_ob0_bytes.ext E1
  have c1_USS := SS.ext E1
  have K1 := K0.ext E1
  have g_b1 : n0 ≤ b1 := Nat.le_trans Z0 (Nat.le_of_eq gz1.symm)
  have F1_value : Fld Z h1 b1 "java/lang/String" "value" "[B" .null := D1 (Or.inr (oH hw 105 rfl)) (ty := (.array .byte)) (by decide)
  have F1_coder : Fld Z h1 b1 "java/lang/String" "coder" "B" (.int 0) := D1 (Or.inr (oH hw 107 rfl)) (ty := .byte) (by decide)
  have Z1 : n0 ≤ h1.size := Nat.le_trans Z0 E1.1
  refine oG m T1 5 #[vR ob0,vI 0,vI 2] [(.ref ob0),(.ref b1),(.ref b1)] (fun _ k => st1 _ (XS.dup X1.here hx rfl (hb hby d10_3) rfl rfl (XS.aloadN X1.here hx rfl (hb hby d10_4) rfl rfl k))) ?_
  obtain ⟨T2, X2, e2, st2⟩ := getF X1 hx hZ hown (host := "") (Or.inl (oH hw 20 rfl)) Via.refl e1 c1_Fob0_bytes (g := (mkF m 5 #[vR ob0, vI 0, vI 2] [(.ref ob0), (.ref b1), (.ref b1)])) rfl rfl (hb hby d10_5)
  refine oG m T2 12 #[vR ob0,vI 0,vI 2] [(.int ((2 : Int32) - (0 : Int32))),(.int 0),(.ref ar0b),(.ref b1),(.ref b1)] (fun _ k => st2 _ (XS.iloadN X2.here hx rfl (hb hby d10_8) rfl (XS.iloadN X2.here hx rfl (hb hby d10_9) rfl (XS.iloadN X2.here hx rfl (hb hby d10_10) rfl (XS.isub X2.here hx rfl (hb hby d10_11) rfl k))))) ?_
  rw [show ((2 : Int32) - (0 : Int32)) = (2 : Int32) from by decide]
  have Sg3 := c1_USS.sU
  obtain ⟨T4, X4, e4, st4⟩ := getS2 X2 hx hZ hown (host := "") (Or.inl (oH hw 55 rfl)) Via.refl e2 Sg3 (g := (mkF m 12 #[vR ob0, vI 0, vI 2] [(.int 2), (.int 0), (.ref ar0b), (.ref b1), (.ref b1)])) rfl (hb hby d10_12)
  refine oG m T4 15 #[vR ob0,vI 0,vI 2] [(.ref u8),(.int 2),(.int 0),(.ref ar0b),(.ref b1),(.ref b1)] (fun _ k => st4 _ k) ?_
  obtain ⟨v5, _, ⟨T5, L5, k5, n5⟩, -, X5, ⟨Lc5, hQ5, l5, y5, z5⟩, st5⟩ := X4.specialBack hx (y := (⟨"java/lang/String", "<init>", "([BIILjava/nio/charset/Charset;)V"⟩ : MethodName)) rfl hown (mvT hZ (oH hw 57 rfl)) (mvT hZ (oH hw 58 rfl)) (mvT hZ (oH hw 59 rfl)) (by decide) (backOf (W := 1) (rmz38 l Z a0 hw [] b1 ar0b kr0b z0b_0 z0b_1 z0b_2 z0b_3 u8 zc fv h1 n0 Z1 A1 g_b1 F1_value F1_coder c1_Var0b g_ar0b c1_Ear0b (Ne.symm ne_ar0b_b1) c1_USS hq0 hq1 hq2) hZ (oH hw 59 rfl) (oH hw 54 rfl) (by decide) (by decide)) (g := (mkF m 15 #[vR ob0, vI 0, vI 2] [(.ref u8), (.int 2), (.int 0), (.ref ar0b), (.ref b1), (.ref b1)])) rfl (by rw [hml]; rfl) (Steps.refl _) (a := b1) (argsL := [(.ref ar0b), (.int 0), (.int 2), (.ref u8)]) (rest := [(.ref b1)]) (lenOf pd_310 rfl) rfl (by show 2 * 0 + _ ≤ _; exact Nat.le_of_eq rfl) (hb hby d10_15) (fun _ _ => ⟨rfl, e4, (by decide : 1 + 2 ≤ _), (by decide : 4 + 3 ≤ _)⟩)
  dsimp only [Pt.U, Pt.locs, Pt.cells, Pt.slots] at X5 l5 y5 z5 st5 hQ5
  subst l5 y5 z5
  obtain ⟨na5_0, ka5_0, rfl, Nq5, Kc5, sa5_0, va5_0, wo5_0_value, wo5_0_coder⟩ := hQ5
  have Kt5 := K1.trans Kc5 (fun x hx => by simp only [List.mem_cons, List.mem_singleton, List.not_mem_nil, or_false] at hx; rcases hx with rfl <;> first | (left; simp; done) | (right; assumption))
  have N5 := Fr.app N0 Nq5
  have Z5 : n0 ≤ T5.heap.size := Nat.le_trans Z1 Kc5.1
  have c5_Eob0 := c1_Eob0.keep Kc5
  have c5_Var0b := c1_Var0b.keep Kc5 (ninS ne_ar0b_b1 nin0)
  have c5_Ear0b := c1_Ear0b.keep Kc5
  have c5_Fob0_bytes := c1_Fob0_bytes.keep Kc5 (ninS ne_ob0_b1 nin0)
  have c5_USS := c1_USS.keep Kc5 (own_nsS (own_nsE A1) own_ns0)
  have c5_Eb1 := A1.keep Kc5
  refine oG m T5 18 #[vR ob0,vI 0,vI 2] [(.ref b1)] (fun _ k => st5.trans k) ?_
  have g_na5_0 : n0 ≤ na5_0 := Nat.le_trans Z1 sa5_0
  have sz_na5_0 : h0.size ≤ na5_0 := Nat.le_trans K1.1 sa5_0
  have ne_ob0_na5_0 : ob0 ≠ na5_0 := Nat.ne_of_lt (Nat.lt_of_lt_of_le c1_Eob0.lt sa5_0)
  have ne_ar0b_na5_0 : ar0b ≠ na5_0 := Nat.ne_of_lt (Nat.lt_of_lt_of_le c1_Ear0b.lt sa5_0)
  have ne_b1_na5_0 : b1 ≠ na5_0 := Nat.ne_of_lt (Nat.lt_of_lt_of_le A1.lt sa5_0)
  refine own_retA X5 hx hlk (rfl) rfl hrt (hb hby d10_18) (by decide) (by decide) ?_
  exact ⟨na5_0, ka5_0, b1, (by first | rfl | decide), N5, Kt5, sz_na5_0, va5_0, sz_b1, c5_Eb1, wo5_0_value, wo5_0_coder⟩
def Q_rmz40 (Z : State) (ob0 : Addr) (ar0b : Addr) (kr0b : ClassId) (z0b_0 : Int32) (z0b_1 : Int32) (z0b_2 : Int32) (z0b_3 : Int32) (u8 : Addr) (zc : Int32) (fv : Value) (h0 : Heap) (n0 : Nat) (v : Option Value) (h : Heap) (L : List Loc) : Prop := ∃ (NA0 : Addr) (KA0 : ClassId), ∃ NO0 : Addr, v = some (.ref NO0) ∧ Fr n0 L ∧ Keep h0 h [] ∧ h0.size ≤ NA0 ∧ Arv Z h NA0 KA0 .byte (1 : Int32) [(.int (nar .byte ((own_d2 z0b_0 z0b_1).toInt8.toInt32)))] (.int 0) ∧ h0.size ≤ NO0 ∧ Exa Z h NO0 "java/lang/String" ∧ Fld Z h NO0 "java/lang/String" "value" "[B" (.ref NA0) ∧ Fld Z h NO0 "java/lang/String" "coder" "B" (.int 0)
theorem rmz40 (l : Launch) (Z : State) (a0 : Array Value) (hw : oW a0 Z) (ws : List Jvm.Cond) (ob0 : Addr) (ar0b : Addr) (kr0b : ClassId) (z0b_0 : Int32) (z0b_1 : Int32) (z0b_2 : Int32) (z0b_3 : Int32) (u8 : Addr) (zc : Int32) (fv : Value) (h0 : Heap) (n0 : Nat) (Z0 : n0 ≤ h0.size) (E_ob0 : Exa Z h0 ob0 "clearcut/Text") (g_ob0 : n0 ≤ ob0) (V_ar0b : Arv Z h0 ar0b kr0b .byte (4 : Int32) [(.int z0b_0), (.int z0b_1), (.int z0b_2), (.int z0b_3)] (.int 0)) (g_ar0b : n0 ≤ ar0b) (E_ar0b : Exa Z h0 ar0b "[B") (F_ob0_bytes : Fld Z h0 ob0 "clearcut/Text" "bytes" "[B" (.ref ar0b)) (ne_ob0_ar0b : ob0 ≠ ar0b) (SS : own_Sx Z h0 u8 zc fv) (hq0 : z0b_0 < (0 : Int32)) (hq1 : (z0b_0 &&& (254 : Int32)) = (194 : Int32)) (hq2 : z0b_1 < (-64 : Int32)) : own_K l (⟨"clearcut/Text", "substring", "(II)Ljava/lang/String;"⟩ : MethodName) prog_60_method_13_code 4 (some (.object "java/lang/String")) ws ({ frames := 6, cells := 3, slots := 7, locals := 102 } : Room) Z h0 #[(.ref ob0), (.int 0), (.int 2)] (Q_rmz40 Z ob0 ar0b kr0b z0b_0 z0b_1 z0b_2 z0b_3 u8 zc fv h0 n0) := by
  refine own_met (plainFor_of_name pn_78) ?_
  intro p e s m below meth c s₁ hx hby hlk hml hown hnm hrt hZ hh X0 e0
  have N0 := Fr.nil n0
  refine oG m s₁ 0 #[vR ob0,vI 0,vI 2,oU] [] (fun _ k => castTop (by first | (simp [entryFrame,mkF,argsToLocals,Value.category]; done) | rfl) k) ?_
  have K0 := Keep.refl h0 []
  refine oG m s₁ 3 #[vR ob0,vI 0,vI 2,oU] [(.int ((2 : Int32) - (0 : Int32)))] (fun _ k => XS.iloadN X0.here hx rfl (hb hby d9_0) rfl (XS.iloadN X0.here hx rfl (hb hby d9_1) rfl (XS.isub X0.here hx rfl (hb hby d9_2) rfl k))) ?_
  rw [show ((2 : Int32) - (0 : Int32)) = (2 : Int32) from by decide]
  refine oG m s₁ 11 #[vR ob0,vI 0,vI 2,oU] [(.int 2),(.int 0),(.ref ob0)] (fun _ k => (X0.ldcInt hx hown (mvT hZ (oH hw 47 rfl)) (g := (mkF m 3 #[vR ob0,vI 0,vI 2,oU] [(.int 2)])) rfl (hb hby d9_3)) _ (XS.icmpNo X0.here hx rfl (hb hby d9_5) rfl (flt (by decide)).2.2.1 (XS.aloadN X0.here hx rfl (hb hby d9_8) rfl rfl (XS.iloadN X0.here hx rfl (hb hby d9_9) rfl (XS.iloadN X0.here hx rfl (hb hby d9_10) rfl k))))) ?_
  obtain ⟨cq1, qp1, qp1'⟩ := E_ob0.cell
  obtain ⟨v1, _, ⟨T1, L1, k1, n1⟩, -, X1, ⟨Lc1, hQ1, l1, y1, z1⟩, st1⟩ := X0.privateBack hx (y := (⟨"clearcut/Text", "decode", "(II)Ljava/lang/String;"⟩ : MethodName)) hown (mvT hZ (oH hw 48 rfl)) (mvT hZ (oH hw 49 rfl)) (own_selP (args := #[]) (mvT hZ (oH hw 13 rfl)) (mvP hZ (oH hw 50 rfl)) (mvT hZ (oH hw 49 rfl)) (by decide)) (Cond.privateMethod_at (mvP hZ (oH hw 50 rfl) (args := #[]))) (mvT hZ (oH hw 51 rfl)) (by decide) (backOf (W := 0) (rmz39 l Z a0 hw [] ob0 ar0b kr0b z0b_0 z0b_1 z0b_2 z0b_3 u8 zc fv h0 n0 Z0 E_ob0 g_ob0 V_ar0b g_ar0b E_ar0b F_ob0_bytes ne_ob0_ar0b SS hq0 hq1 hq2) hZ (oH hw 51 rfl) (oH hw 5 rfl) (by decide) (by decide)) (g := (mkF m 11 #[vR ob0, vI 0, vI 2, oU] [(.int 2), (.int 0), (.ref ob0)])) rfl (by rw [hml]; rfl) (Steps.refl _) (a := ob0) (by rw [e0]; exact qp1) qp1' (argsL := [(.int 0), (.int 2)]) (rest := []) (lenOf pd_313 rfl) rfl (by show 2 * 0 + _ ≤ _; exact Nat.le_of_eq rfl) (hb hby d9_11) (fun _ _ => ⟨rfl, e0, (by decide : 0 + 3 ≤ _), (by decide : 0 + 7 ≤ _)⟩)
  dsimp only [Pt.U, Pt.locs, Pt.cells, Pt.slots] at X1 l1 y1 z1 st1 hQ1
  subst l1 y1 z1
  obtain ⟨na1_0, ka1_0, no1_0, rfl, Nq1, Kc1, sa1_0, va1_0, so1_0, eo1_0, fo1_0_value, fo1_0_coder⟩ := hQ1
  have Kt1 := K0.trans Kc1 (fun x hx => nomatch hx)
  have N1 := Fr.app N0 Nq1
  have Z1 : n0 ≤ T1.heap.size := Nat.le_trans Z0 Kc1.1
  have c1_Eob0 := E_ob0.keep Kc1
  have c1_Var0b := V_ar0b.keep Kc1 nin0
  have c1_Ear0b := E_ar0b.keep Kc1
  have c1_Fob0_bytes := F_ob0_bytes.keep Kc1 nin0
  have c1_USS := SS.keep Kc1 own_ns0
  refine oG m T1 14 #[vR ob0,vI 0,vI 2,oU] [(.ref no1_0)] (fun _ k => st1.trans k) ?_
  have g_na1_0 : n0 ≤ na1_0 := Nat.le_trans Z0 sa1_0
  have sz_na1_0 : h0.size ≤ na1_0 := Nat.le_trans K0.1 sa1_0
  have ne_ob0_na1_0 : ob0 ≠ na1_0 := Nat.ne_of_lt (Nat.lt_of_lt_of_le E_ob0.lt sa1_0)
  have ne_ar0b_na1_0 : ar0b ≠ na1_0 := Nat.ne_of_lt (Nat.lt_of_lt_of_le E_ar0b.lt sa1_0)
  have g_no1_0 : n0 ≤ no1_0 := Nat.le_trans Z0 so1_0
  have sz_no1_0 : h0.size ≤ no1_0 := Nat.le_trans K0.1 so1_0
  have ne_ob0_no1_0 : ob0 ≠ no1_0 := Nat.ne_of_lt (Nat.lt_of_lt_of_le E_ob0.lt so1_0)
  have ne_ar0b_no1_0 : ar0b ≠ no1_0 := Nat.ne_of_lt (Nat.lt_of_lt_of_le E_ar0b.lt so1_0)
  refine own_retA X1 hx hlk (rfl) rfl hrt (hb hby d9_14) (by decide) (by decide) ?_
  exact ⟨na1_0, ka1_0, no1_0, (by first | rfl | decide), N1, Kt1, sz_na1_0, va1_0, sz_no1_0, eo1_0, fo1_0_value, fo1_0_coder⟩
theorem d49_184 : decode C49 184 = .ok (.iinc 7 (-1), 3) := by decide +kernel
theorem d49_187 : decode C49 187 = .ok (.goto 3, 3) := by decide +kernel
theorem d49_226 : decode C49 226 = .ok (.iload 4, 2) := by decide +kernel
theorem d27_0 : decode C27 0 = .ok (.iload_n 0, 1) := by decide +kernel
theorem d28_0 : decode C28 0 = .ok (.iload_n 0, 1) := by decide +kernel
theorem d28_1 : decode C28 1 = .ok (.ifCond .ge 11, 3) := by decide +kernel
theorem d28_12 : decode C28 12 = .ok (.iload_n 0, 1) := by decide +kernel
theorem d28_13 : decode C28 13 = .ok (.ldc 20, 2) := by decide +kernel
theorem d28_15 : decode C28 15 = .ok (.if_icmp .lt 40, 3) := by decide +kernel
theorem d28_55 : decode C28 55 = .ok (.iload_n 0, 1) := by decide +kernel
theorem d28_56 : decode C28 56 = .ok (.iconst 1, 1) := by decide +kernel
theorem d28_57 : decode C28 57 = .ok (.ishl, 1) := by decide +kernel
theorem d28_58 : decode C28 58 = .ok (.ireturn, 1) := by decide +kernel
theorem pn_537 : plainName "java/lang/StringUTF16" = true := by first | (simp [plainName, overriddenIn]; done) | decide +kernel
theorem rmz41 (l : Launch) (Z : State) (a0 : Array Value) (hw : oW a0 Z) (ws : List Jvm.Cond) (x0 : Int32) (u8 : Addr) (zc : Int32) (fv : Value) (h0 : Heap) (n0 : Nat) (Z0 : n0 ≤ h0.size)   (SS : own_Sx Z h0 u8 zc fv) (hq0 : ¬ x0 < (0 : Int32)) (hq1 : x0 < (1073741823 : Int32)) : own_K l (⟨"java/lang/StringUTF16", "newBytesLength", "(I)I"⟩ : MethodName) jdk_52_method_3_code 1 (some .int) ws ({ frames := 0, cells := 0, slots := 0, locals := 0 } : Room) Z h0 #[(.int x0)] (own_QP h0 (some (.int (x0 <<< ((1 : Int32) &&& 31))))) := by
  refine own_met (plainFor_of_name pn_537) ?_
  intro p e s m below meth c s₁ hx hby hlk hml hown hnm hrt hZ hh X0 e0
  have N0 := Fr.nil n0
  refine oG m s₁ 0 #[vI x0] [] (fun _ k => castTop (by first | (simp [entryFrame,mkF,argsToLocals,Value.category]; done) | rfl) k) ?_
  have K0 := Keep.refl h0 []
  refine oG m s₁ 13 #[vI x0] [(.int x0)] (fun _ k => XS.iloadN X0.here hx rfl (hb hby d28_0) rfl (XS.ifYes X0.here hx rfl (pc0 := 1) (pc' := 12) rfl (hb hby d28_1) rfl ((if0 _ _).trans (flt hq0).2.1) (by decide) (by decide) (XS.iloadN X0.here hx rfl (hb hby d28_12) rfl k))) ?_
  refine oG m s₁ 58 #[vI x0] [(.int (x0 <<< ((1 : Int32) &&& 31)))] (fun _ k => (X0.ldcInt hx hown (mvT hZ (oH hw 157 rfl)) (g := (mkF m 13 #[vI x0] [(.int x0)])) rfl (hb hby d28_13)) _ (XS.icmpYes X0.here hx rfl (pc0 := 15) (pc' := 55) rfl (hb hby d28_15) rfl (tlt hq1).1 (by decide) (by decide) (XS.iloadN X0.here hx rfl (hb hby d28_55) rfl (XS.iconst X0.here hx rfl (hb hby d28_56) (XS.ishl X0.here hx rfl (hb hby d28_57) rfl k))))) ?_
  refine own_retI X0 hx hlk hrt (hb hby d28_58) (by decide) (by decide) ?_
  exact ⟨by first | rfl | decide, e0, rfl⟩
theorem d27_1 : decode C27 1 = .ok (.invokestatic 11, 3) := by decide +kernel
theorem d27_4 : decode C27 4 = .ok (.newarray .byte, 2) := by decide +kernel
theorem d27_6 : decode C27 6 = .ok (.areturn, 1) := by decide +kernel
def Q_rmz42 (Z : State)  (u8 : Addr) (zc : Int32) (fv : Value) (h0 : Heap) (n0 : Nat) (v : Option Value) (h : Heap) (L : List Loc) : Prop := ∃ (NA0 : Addr) (KA0 : ClassId), v = some (.ref NA0) ∧ Fr n0 L ∧ Keep h0 h [] ∧ h0.size ≤ NA0 ∧ Arv Z h NA0 KA0 .byte (4 : Int32) [(.int 0), (.int 0), (.int 0), (.int 0)] (.int 0)
theorem rmz42 (l : Launch) (Z : State) (a0 : Array Value) (hw : oW a0 Z) (ws : List Jvm.Cond)  (u8 : Addr) (zc : Int32) (fv : Value) (h0 : Heap) (n0 : Nat) (Z0 : n0 ≤ h0.size)   (SS : own_Sx Z h0 u8 zc fv)  : own_K l (⟨"java/lang/StringUTF16", "newBytesFor", "(I)[B"⟩ : MethodName) jdk_52_method_2_code 1 (some (.array .byte)) ws ({ frames := 1, cells := 1, slots := 4, locals := 12 } : Room) Z h0 #[(.int 2)] (Q_rmz42 Z u8 zc fv h0 n0) := by
  refine own_met (plainFor_of_name pn_537) ?_
  intro p e s m below meth c s₁ hx hby hlk hml hown hnm hrt hZ hh X0 e0
  have N0 := Fr.nil n0
  refine oG m s₁ 0 #[vI 2] [] (fun _ k => castTop (by first | (simp [entryFrame,mkF,argsToLocals,Value.category]; done) | rfl) k) ?_
  have K0 := Keep.refl h0 []
  refine oG m s₁ 1 #[vI 2] [(.int 2)] (fun _ k => XS.iloadN X0.here hx rfl (hb hby d27_0) rfl k) ?_
  obtain ⟨T1, X1, e1, st1⟩ := own_cP X0 hx hZ hown (oH hw 154 rfl) (oH hw 155 rfl) (oH hw 152 rfl) (oH hw 156 rfl) (by decide) (rmz41 l Z a0 hw [] (2 : Int32) u8 zc fv h0 n0 Z0  SS (by decide) (by decide)) (W := 0) (by decide) (by decide) (g := (mkF m 1 #[vI 2] [(.int 2)])) rfl (by rw [hml]; rfl) (argsL := [(.int 2)]) (rest := []) (lenOf pd_79 rfl) rfl rfl rfl (hb hby d27_1) e0 rfl (by decide) (by decide) (by decide : 0 ≤ _) (by decide : 0 ≤ _)
  refine oG m T1 4 #[vI 2] [(.int ((2 : Int32) <<< ((1 : Int32) &&& 31)))] (fun _ k => st1 _ k) ?_
  rw [show ((2 : Int32) <<< ((1 : Int32) &&& 31)) = (4 : Int32) from by decide]
  obtain ⟨T2, h2, k2, X2, e2, E2, A2, st2⟩ := newP X1 hx hZ (oH hw 7 rfl) e1 (g := (mkF m 4 #[vI 2] [(.int 4)])) rfl (hb hby d27_4) rfl (by decide) (cap := 4) (by decide) (by decide) (by decide) (by decide)
  obtain ⟨b2, gz2⟩ : ∃ z, z = h0.size := ⟨_, rfl⟩
  rw [← gz2] at A2 st2
  have sz_b2 : h0.size ≤ b2 := Nat.le_trans K0.1 (Nat.le_of_eq gz2.symm)
  have c2_USS := SS.ext E2
  have K2 := K0.ext E2
  have g_b2 : n0 ≤ b2 := Nat.le_trans Z0 (Nat.le_of_eq gz2.symm)
  have V2 := Arv.new A2 (by decide)
  have Z2 : n0 ≤ h2.size := Nat.le_trans Z0 E2.1
  refine oG m T2 6 #[vI 2] [(.ref b2)] (fun _ k => st2 _ k) ?_
  have V3 : Arv Z h2 b2 k2 .byte (4 : Int32) [(.int 0), (.int 0), (.int 0), (.int 0)] (.int 0) := V2.pad (pad_rep [] (.int 0) 4)
  refine own_retA X2 hx hlk (rfl) rfl hrt (hb hby d27_6) (by decide) (by decide) ?_
  rw [e2]
  exact ⟨b2, k2, (by first | rfl | decide), N0, K2, sz_b2, V3⟩
theorem d49_228 : decode C49 228 = .ok (.invokestatic 60, 3) := by decide +kernel
theorem pd_542 : parseMethodDescriptor "(I)[B" = some ⟨[.int], some (.array .byte)⟩ := by decide +kernel
theorem d49_231 : decode C49 231 = .ok (.astore 8, 2) := by decide +kernel
theorem d49_233 : decode C49 233 = .ok (.aload 6, 2) := by decide +kernel
theorem d49_235 : decode C49 235 = .ok (.iconst 0, 1) := by decide +kernel
theorem d49_236 : decode C49 236 = .ok (.aload 8, 2) := by decide +kernel
theorem d49_238 : decode C49 238 = .ok (.iconst 0, 1) := by decide +kernel
theorem d49_239 : decode C49 239 = .ok (.iload 5, 2) := by decide +kernel
theorem d29_0 : decode C29 0 = .ok (.aload_n 0, 1) := by decide +kernel
theorem d29_1 : decode C29 1 = .ok (.iload_n 1, 1) := by decide +kernel
theorem d29_2 : decode C29 2 = .ok (.aload_n 2, 1) := by decide +kernel
theorem d29_3 : decode C29 3 = .ok (.iload_n 3, 1) := by decide +kernel
theorem d29_4 : decode C29 4 = .ok (.iload 4, 2) := by decide +kernel
theorem d30_0 : decode C30 0 = .ok (.iload_n 3, 1) := by decide +kernel
theorem d30_1 : decode C30 1 = .ok (.iload 4, 2) := by decide +kernel
theorem d30_3 : decode C30 3 = .ok (.aload_n 2, 1) := by decide +kernel
theorem d31_0 : decode C31 0 = .ok (.iload_n 0, 1) := by decide +kernel
theorem d31_1 : decode C31 1 = .ok (.iload_n 1, 1) := by decide +kernel
theorem d31_2 : decode C31 2 = .ok (.aload_n 2, 1) := by decide +kernel
theorem d32_0 : decode C32 0 = .ok (.aload_n 0, 1) := by decide +kernel
theorem d32_1 : decode C32 1 = .ok (.arraylength, 1) := by decide +kernel
theorem d32_2 : decode C32 2 = .ok (.iconst 1, 1) := by decide +kernel
theorem d32_3 : decode C32 3 = .ok (.ishr, 1) := by decide +kernel
theorem d32_4 : decode C32 4 = .ok (.ireturn, 1) := by decide +kernel
theorem rmz43 (l : Launch) (Z : State) (a0 : Array Value) (hw : oW a0 Z) (ws : List Jvm.Cond) (ar0 : Addr) (kr0 : ClassId) (z0_0 : Int32) (z0_1 : Int32) (z0_2 : Int32) (z0_3 : Int32) (u8 : Addr) (zc : Int32) (fv : Value) (h0 : Heap) (n0 : Nat) (Z0 : n0 ≤ h0.size) (V_ar0 : Arv Z h0 ar0 kr0 .byte (4 : Int32) [(.int z0_0), (.int z0_1), (.int z0_2), (.int z0_3)] (.int 0)) (g_ar0 : n0 ≤ ar0)  (SS : own_Sx Z h0 u8 zc fv)  : own_K l (⟨"java/lang/StringUTF16", "length", "([B)I"⟩ : MethodName) jdk_52_method_6_code 1 (some .int) ws ({ frames := 0, cells := 0, slots := 0, locals := 0 } : Room) Z h0 #[(.ref ar0)] (own_QP h0 (some (.int 2))) := by
  refine own_met (plainFor_of_name pn_537) ?_
  intro p e s m below meth c s₁ hx hby hlk hml hown hnm hrt hZ hh X0 e0
  have N0 := Fr.nil n0
  refine oG m s₁ 0 #[vR ar0] [] (fun _ k => castTop (by first | (simp [entryFrame,mkF,argsToLocals,Value.category]; done) | rfl) k) ?_
  have K0 := Keep.refl h0 []
  refine oG m s₁ 1 #[vR ar0] [(.ref ar0)] (fun _ k => XS.aloadN X0.here hx rfl (hb hby d32_0) rfl rfl k) ?_
  obtain ⟨cl1, Ar1, -, S1, M1, -, -⟩ := id V_ar0
  have ql1 := len_of S1 M1
  refine own_go (S' := (s₁.setTop (mkF m 2 #[vR ar0] [(.int 4)]))) (fun _ kont => X0.arraylength hx (by rw [e0]; exact Ar1.1) (State.isArrayOf_alike hZ.alike Ar1.2.1) (g := (mkF m 1 #[vR ar0] [(.ref ar0)])) rfl rfl (hb hby d32_1) _ (by rw [ql1]; exact kont)) ?_
  refine oG m s₁ 4 #[vR ar0] [(.int ((4 : Int32) >>> ((1 : Int32) &&& 31)))] (fun _ k => XS.iconst X0.here hx rfl (hb hby d32_2) (XS.ishr X0.here hx rfl (hb hby d32_3) rfl k)) ?_
  rw [show ((4 : Int32) >>> ((1 : Int32) &&& 31)) = (2 : Int32) from by decide]
  refine own_retI X0 hx hlk hrt (hb hby d32_4) (by decide) (by decide) ?_
  exact ⟨by first | rfl | decide, e0, rfl⟩
theorem d31_3 : decode C31 3 = .ok (.invokestatic 48, 3) := by decide +kernel
theorem pd_566 : parseMethodDescriptor "([B)I" = some ⟨[(.array .byte)], some .int⟩ := by decide +kernel
theorem d31_6 : decode C31 6 = .ok (.invokestatic 419, 3) := by decide +kernel
theorem d31_9 : decode C31 9 = .ok (.pop, 1) := by decide +kernel
theorem d31_10 : decode C31 10 = .ok (.return_, 1) := by decide +kernel
theorem rmz44 (l : Launch) (Z : State) (a0 : Array Value) (hw : oW a0 Z) (ws : List Jvm.Cond) (ar2 : Addr) (kr2 : ClassId) (z2_0 : Int32) (z2_1 : Int32) (z2_2 : Int32) (z2_3 : Int32) (u8 : Addr) (zc : Int32) (fv : Value) (h0 : Heap) (n0 : Nat) (Z0 : n0 ≤ h0.size) (V_ar2 : Arv Z h0 ar2 kr2 .byte (4 : Int32) [(.int z2_0), (.int z2_1), (.int z2_2), (.int z2_3)] (.int 0)) (g_ar2 : n0 ≤ ar2)  (SS : own_Sx Z h0 u8 zc fv)  : own_K l (⟨"java/lang/StringUTF16", "checkBoundsOffCount", "(II[B)V"⟩ : MethodName) jdk_52_method_94_code 3 none ws ({ frames := 2, cells := 0, slots := 0, locals := 29 } : Room) Z h0 #[(.int 0), (.int 0), (.ref ar2)] (own_QP h0 (none)) := by
  refine own_met (plainFor_of_name pn_537) ?_
  intro p e s m below meth c s₁ hx hby hlk hml hown hnm hrt hZ hh X0 e0
  have N0 := Fr.nil n0
  refine oG m s₁ 0 #[vI 0,vI 0,vR ar2] [] (fun _ k => castTop (by first | (simp [entryFrame,mkF,argsToLocals,Value.category]; done) | rfl) k) ?_
  have K0 := Keep.refl h0 []
  refine oG m s₁ 3 #[vI 0,vI 0,vR ar2] [(.ref ar2),(.int 0),(.int 0)] (fun _ k => XS.iloadN X0.here hx rfl (hb hby d31_0) rfl (XS.iloadN X0.here hx rfl (hb hby d31_1) rfl (XS.aloadN X0.here hx rfl (hb hby d31_2) rfl rfl k))) ?_
  obtain ⟨T1, X1, e1, st1⟩ := own_cP X0 hx hZ hown (oH hw 167 rfl) (oH hw 168 rfl) (oH hw 152 rfl) (oH hw 169 rfl) (by decide) (rmz43 l Z a0 hw [] ar2 kr2 z2_0 z2_1 z2_2 z2_3 u8 zc fv h0 n0 Z0 V_ar2 g_ar2 SS) (W := 2) (by decide) (by decide) (g := (mkF m 3 #[vI 0, vI 0, vR ar2] [(.ref ar2), (.int 0), (.int 0)])) rfl (by rw [hml]; rfl) (argsL := [(.ref ar2)]) (rest := [(.int 0), (.int 0)]) (lenOf pd_566 rfl) rfl rfl rfl (hb hby d31_3) e0 rfl (by decide) (by decide) (by decide : 0 ≤ _) (by decide : 0 ≤ _)
  refine oG m T1 6 #[vI 0,vI 0,vR ar2] [(.int 2),(.int 0),(.int 0)] (fun _ k => st1 _ k) ?_
  obtain ⟨T2, X2, e2, st2⟩ := own_cP X1 hx hZ hown (oH hw 170 rfl) (oH hw 67 rfl) (oH hw 54 rfl) (oH hw 68 rfl) (by decide) (rmz10 l Z a0 hw [] (0 : Int32) (0 : Int32) (2 : Int32) u8 zc fv h0 n0 Z0  SS (by decide) (by decide)) (W := 0) (by decide) (by decide) (g := (mkF m 6 #[vI 0, vI 0, vR ar2] [(.int 2), (.int 0), (.int 0)])) rfl (by rw [hml]; rfl) (argsL := [(.int 0), (.int 0), (.int 2)]) (rest := []) (lenOf pd_209 rfl) rfl rfl rfl (hb hby d31_6) e1 rfl (by decide) (by decide) (by decide : 0 ≤ _) (by decide : 0 ≤ _)
  refine oG m T2 10 #[vI 0,vI 0,vR ar2] [] (fun _ k => st2 _ (XS.pop X2.here hx rfl (hb hby d31_9) rfl rfl k)) ?_
  refine own_ret0 X2 hx hlk hrt (hb hby d31_10) (by decide) (by decide) ?_
  exact ⟨by first | rfl | decide, e2, rfl⟩
theorem d30_4 : decode C30 4 = .ok (.invokestatic 173, 3) := by decide +kernel
theorem pd_571 : parseMethodDescriptor "(II[B)V" = some ⟨[.int, .int, (.array .byte)], none⟩ := by decide +kernel
theorem d30_7 : decode C30 7 = .ok (.iconst 0, 1) := by decide +kernel
theorem d30_8 : decode C30 8 = .ok (.istore 5, 2) := by decide +kernel
theorem d30_10 : decode C30 10 = .ok (.iload 5, 2) := by decide +kernel
theorem d30_12 : decode C30 12 = .ok (.iload 4, 2) := by decide +kernel
theorem d30_14 : decode C30 14 = .ok (.if_icmp .ge 27, 3) := by decide +kernel
theorem d30_41 : decode C30 41 = .ok (.return_, 1) := by decide +kernel
theorem rmz45 (l : Launch) (Z : State) (a0 : Array Value) (hw : oW a0 Z) (ws : List Jvm.Cond) (ar0 : Addr) (kr0 : ClassId) (z0_0 : Int32) (z0_1 : Int32) (ar2 : Addr) (kr2 : ClassId) (z2_0 : Int32) (z2_1 : Int32) (z2_2 : Int32) (z2_3 : Int32) (u8 : Addr) (zc : Int32) (fv : Value) (h0 : Heap) (n0 : Nat) (Z0 : n0 ≤ h0.size) (V_ar0 : Arv Z h0 ar0 kr0 .byte (2 : Int32) [(.int z0_0), (.int z0_1)] (.int 0)) (g_ar0 : n0 ≤ ar0) (V_ar2 : Arv Z h0 ar2 kr2 .byte (4 : Int32) [(.int z2_0), (.int z2_1), (.int z2_2), (.int z2_3)] (.int 0)) (g_ar2 : n0 ≤ ar2) (ne_ar0_ar2 : ar0 ≠ ar2) (SS : own_Sx Z h0 u8 zc fv)  : own_K l (⟨"java/lang/StringUTF16", "inflate", "([BI[BII)V"⟩ : MethodName) jdk_52_method_86_code 6 none ws ({ frames := 3, cells := 0, slots := 0, locals := 43 } : Room) Z h0 #[(.ref ar0), (.int 0), (.ref ar2), (.int 0), (.int 0)] (own_QP h0 (none)) := by
  refine own_met (plainFor_of_name pn_537) ?_
  intro p e s m below meth c s₁ hx hby hlk hml hown hnm hrt hZ hh X0 e0
  have N0 := Fr.nil n0
  refine oG m s₁ 0 #[vR ar0,vI 0,vR ar2,vI 0,vI 0,oU] [] (fun _ k => castTop (by first | (simp [entryFrame,mkF,argsToLocals,Value.category]; done) | rfl) k) ?_
  have K0 := Keep.refl h0 []
  refine oG m s₁ 4 #[vR ar0,vI 0,vR ar2,vI 0,vI 0,oU] [(.ref ar2),(.int 0),(.int 0)] (fun _ k => XS.iloadN X0.here hx rfl (hb hby d30_0) rfl (XS.iload X0.here hx rfl (hb hby d30_1) rfl (XS.aloadN X0.here hx rfl (hb hby d30_3) rfl rfl k))) ?_
  obtain ⟨T1, X1, e1, st1⟩ := own_cP X0 hx hZ hown (oH hw 164 rfl) (oH hw 165 rfl) (oH hw 152 rfl) (oH hw 166 rfl) (by decide) (rmz44 l Z a0 hw [] ar2 kr2 z2_0 z2_1 z2_2 z2_3 u8 zc fv h0 n0 Z0 V_ar2 g_ar2 SS) (W := 0) (by decide) (by decide) (g := (mkF m 4 #[vR ar0, vI 0, vR ar2, vI 0, vI 0, oU] [(.ref ar2), (.int 0), (.int 0)])) rfl (by rw [hml]; rfl) (argsL := [(.int 0), (.int 0), (.ref ar2)]) (rest := []) (lenOf pd_571 rfl) rfl rfl rfl (hb hby d30_4) e0 rfl (by decide) (by decide) (by decide : 0 ≤ _) (by decide : 0 ≤ _)
  refine oG m T1 41 #[vR ar0,vI 0,vR ar2,vI 0,vI 0,vI 0] [] (fun _ k => st1 _ (XS.iconst X1.here hx rfl (hb hby d30_7) (XS.istore X1.here hx rfl (hb hby d30_8) rfl (l' := #[vR ar0,vI 0,vR ar2,vI 0,vI 0,vI 0]) rfl (XS.iload X1.here hx rfl (hb hby d30_10) rfl (XS.iload X1.here hx rfl (hb hby d30_12) rfl (XS.icmpYes X1.here hx rfl (pc0 := 14) (pc' := 41) rfl (hb hby d30_14) rfl (flt (by decide)).2.1 (by decide) (by decide) k)))))) ?_
  refine own_ret0 X1 hx hlk hrt (hb hby d30_41) (by decide) (by decide) ?_
  exact ⟨by first | rfl | decide, e1, rfl⟩
theorem d29_6 : decode C29 6 = .ok (.invokestatic 240, 3) := by decide +kernel
theorem pd_579 : parseMethodDescriptor "([BI[BII)V" = some ⟨[(.array .byte), .int, (.array .byte), .int, .int], none⟩ := by decide +kernel
theorem d29_9 : decode C29 9 = .ok (.return_, 1) := by decide +kernel
theorem rmz46 (l : Launch) (Z : State) (a0 : Array Value) (hw : oW a0 Z) (ws : List Jvm.Cond) (ar0 : Addr) (kr0 : ClassId) (z0_0 : Int32) (z0_1 : Int32) (ar2 : Addr) (kr2 : ClassId) (z2_0 : Int32) (z2_1 : Int32) (z2_2 : Int32) (z2_3 : Int32) (u8 : Addr) (zc : Int32) (fv : Value) (h0 : Heap) (n0 : Nat) (Z0 : n0 ≤ h0.size) (V_ar0 : Arv Z h0 ar0 kr0 .byte (2 : Int32) [(.int z0_0), (.int z0_1)] (.int 0)) (g_ar0 : n0 ≤ ar0) (V_ar2 : Arv Z h0 ar2 kr2 .byte (4 : Int32) [(.int z2_0), (.int z2_1), (.int z2_2), (.int z2_3)] (.int 0)) (g_ar2 : n0 ≤ ar2) (ne_ar0_ar2 : ar0 ≠ ar2) (SS : own_Sx Z h0 u8 zc fv)  : own_K l (⟨"java/lang/StringLatin1", "inflate", "([BI[BII)V"⟩ : MethodName) jdk_43_method_50_code 5 none ws ({ frames := 4, cells := 0, slots := 0, locals := 60 } : Room) Z h0 #[(.ref ar0), (.int 0), (.ref ar2), (.int 0), (.int 0)] (own_QP h0 (none)) := by
  refine own_met (plainFor_of_name pn_370) ?_
  intro p e s m below meth c s₁ hx hby hlk hml hown hnm hrt hZ hh X0 e0
  have N0 := Fr.nil n0
  refine oG m s₁ 0 #[vR ar0,vI 0,vR ar2,vI 0,vI 0] [] (fun _ k => castTop (by first | (simp [entryFrame,mkF,argsToLocals,Value.category]; done) | rfl) k) ?_
  have K0 := Keep.refl h0 []
  refine oG m s₁ 6 #[vR ar0,vI 0,vR ar2,vI 0,vI 0] [(.int 0),(.int 0),(.ref ar2),(.int 0),(.ref ar0)] (fun _ k => XS.aloadN X0.here hx rfl (hb hby d29_0) rfl rfl (XS.iloadN X0.here hx rfl (hb hby d29_1) rfl (XS.aloadN X0.here hx rfl (hb hby d29_2) rfl rfl (XS.iloadN X0.here hx rfl (hb hby d29_3) rfl (XS.iload X0.here hx rfl (hb hby d29_4) rfl k))))) ?_
  obtain ⟨T1, X1, e1, st1⟩ := own_cP X0 hx hZ hown (oH hw 161 rfl) (oH hw 162 rfl) (oH hw 152 rfl) (oH hw 163 rfl) (by decide) (rmz45 l Z a0 hw [] ar0 kr0 z0_0 z0_1 ar2 kr2 z2_0 z2_1 z2_2 z2_3 u8 zc fv h0 n0 Z0 V_ar0 g_ar0 V_ar2 g_ar2 ne_ar0_ar2 SS) (W := 0) (by decide) (by decide) (g := (mkF m 6 #[vR ar0, vI 0, vR ar2, vI 0, vI 0] [(.int 0), (.int 0), (.ref ar2), (.int 0), (.ref ar0)])) rfl (by rw [hml]; rfl) (argsL := [(.ref ar0), (.int 0), (.ref ar2), (.int 0), (.int 0)]) (rest := []) (lenOf pd_579 rfl) rfl rfl rfl (hb hby d29_6) e0 rfl (by decide) (by decide) (by decide : 0 ≤ _) (by decide : 0 ≤ _)
  refine oG m T1 9 #[vR ar0,vI 0,vR ar2,vI 0,vI 0] [] (fun _ k => st1 _ k) ?_
  refine own_ret0 X1 hx hlk hrt (hb hby d29_9) (by decide) (by decide) ?_
  exact ⟨by first | rfl | decide, e1, rfl⟩
theorem d49_241 : decode C49 241 = .ok (.invokestatic 106, 3) := by decide +kernel
theorem d49_244 : decode C49 244 = .ok (.aload 6, 2) := by decide +kernel
theorem d49_246 : decode C49 246 = .ok (.iload 7, 2) := by decide +kernel
theorem d49_248 : decode C49 248 = .ok (.iload 4, 2) := by decide +kernel
theorem d49_250 : decode C49 250 = .ok (.aload 8, 2) := by decide +kernel
theorem d49_252 : decode C49 252 = .ok (.iload 5, 2) := by decide +kernel
theorem d49_254 : decode C49 254 = .ok (.iconst 1, 1) := by decide +kernel
theorem d33_0 : decode C33 0 = .ok (.iload_n 1, 1) := by decide +kernel
theorem d33_1 : decode C33 1 = .ok (.iload_n 2, 1) := by decide +kernel
theorem d33_2 : decode C33 2 = .ok (.if_icmp .ge 619, 3) := by decide +kernel
theorem d33_5 : decode C33 5 = .ok (.aload_n 0, 1) := by decide +kernel
theorem d33_6 : decode C33 6 = .ok (.iload_n 1, 1) := by decide +kernel
theorem d33_7 : decode C33 7 = .ok (.iinc 1 1, 3) := by decide +kernel
theorem d33_10 : decode C33 10 = .ok (.baload, 1) := by decide +kernel
theorem d33_11 : decode C33 11 = .ok (.istore 6, 2) := by decide +kernel
theorem d33_13 : decode C33 13 = .ok (.iload 6, 2) := by decide +kernel
theorem d33_15 : decode C33 15 = .ok (.ifCond .lt 18, 3) := by decide +kernel
theorem d33_33 : decode C33 33 = .ok (.iload 6, 2) := by decide +kernel
theorem d33_35 : decode C33 35 = .ok (.iconst 5, 1) := by decide +kernel
theorem d33_36 : decode C33 36 = .ok (.ishr, 1) := by decide +kernel
theorem d33_37 : decode C33 37 = .ok (.bipush (-2), 2) := by decide +kernel
theorem d33_39 : decode C33 39 = .ok (.if_icmp .ne 104, 3) := by decide +kernel
theorem d33_42 : decode C33 42 = .ok (.iload 6, 2) := by decide +kernel
theorem d33_44 : decode C33 44 = .ok (.bipush 30, 2) := by decide +kernel
theorem d33_46 : decode C33 46 = .ok (.iand, 1) := by decide +kernel
theorem d33_47 : decode C33 47 = .ok (.ifCond .eq 96, 3) := by decide +kernel
theorem d33_50 : decode C33 50 = .ok (.iload_n 1, 1) := by decide +kernel
theorem d33_51 : decode C33 51 = .ok (.iload_n 2, 1) := by decide +kernel
theorem d33_52 : decode C33 52 = .ok (.if_icmp .ge 67, 3) := by decide +kernel
theorem d33_55 : decode C33 55 = .ok (.aload_n 0, 1) := by decide +kernel
theorem d33_56 : decode C33 56 = .ok (.iload_n 1, 1) := by decide +kernel
theorem d33_57 : decode C33 57 = .ok (.iinc 1 1, 3) := by decide +kernel
theorem d33_60 : decode C33 60 = .ok (.baload, 1) := by decide +kernel
theorem d33_61 : decode C33 61 = .ok (.istore 7, 2) := by decide +kernel
theorem d33_63 : decode C33 63 = .ok (.iload 7, 2) := by decide +kernel
theorem d33_65 : decode C33 65 = .ok (.invokestatic 385, 3) := by decide +kernel
theorem pd_617 : parseMethodDescriptor "(I)Z" = some ⟨[.int], some .boolean⟩ := by decide +kernel
theorem d33_68 : decode C33 68 = .ok (.ifCond .eq 32, 3) := by decide +kernel
theorem d33_100 : decode C33 100 = .ok (.aload_n 3, 1) := by decide +kernel
theorem d33_101 : decode C33 101 = .ok (.iload 4, 2) := by decide +kernel
theorem d33_103 : decode C33 103 = .ok (.iinc 4 1, 3) := by decide +kernel
theorem d33_106 : decode C33 106 = .ok (.iload 6, 2) := by decide +kernel
theorem d33_108 : decode C33 108 = .ok (.iload 7, 2) := by decide +kernel
theorem d33_110 : decode C33 110 = .ok (.invokestatic 98, 3) := by decide +kernel
theorem d38_0 : decode C38 0 = .ok (.getstatic 44, 3) := by decide +kernel
theorem d38_3 : decode C38 3 = .ok (.ifCond .ne 25, 3) := by decide +kernel
theorem d38_28 : decode C38 28 = .ok (.iload_n 1, 1) := by decide +kernel
theorem d38_29 : decode C38 29 = .ok (.iconst 1, 1) := by decide +kernel
theorem d38_30 : decode C38 30 = .ok (.ishl, 1) := by decide +kernel
theorem d38_31 : decode C38 31 = .ok (.istore_n 1, 1) := by decide +kernel
theorem d38_32 : decode C38 32 = .ok (.aload_n 0, 1) := by decide +kernel
theorem d38_33 : decode C38 33 = .ok (.iload_n 1, 1) := by decide +kernel
theorem d38_34 : decode C38 34 = .ok (.iinc 1 1, 3) := by decide +kernel
theorem d38_37 : decode C38 37 = .ok (.iload_n 2, 1) := by decide +kernel
theorem d38_38 : decode C38 38 = .ok (.getstatic 59, 3) := by decide +kernel
theorem d38_41 : decode C38 41 = .ok (.ishr, 1) := by decide +kernel
theorem d38_42 : decode C38 42 = .ok (.i2b, 1) := by decide +kernel
theorem d38_43 : decode C38 43 = .ok (.bastore, 1) := by decide +kernel
theorem d38_44 : decode C38 44 = .ok (.aload_n 0, 1) := by decide +kernel
theorem d38_45 : decode C38 45 = .ok (.iload_n 1, 1) := by decide +kernel
theorem d38_46 : decode C38 46 = .ok (.iload_n 2, 1) := by decide +kernel
theorem d38_47 : decode C38 47 = .ok (.getstatic 63, 3) := by decide +kernel
theorem d38_50 : decode C38 50 = .ok (.ishr, 1) := by decide +kernel
theorem d38_51 : decode C38 51 = .ok (.i2b, 1) := by decide +kernel
theorem d38_52 : decode C38 52 = .ok (.bastore, 1) := by decide +kernel
theorem d38_53 : decode C38 53 = .ok (.return_, 1) := by decide +kernel
def Q_rmz47 (Z : State) (ar0 : Addr) (kr0 : ClassId) (z0_0 : Int32) (z0_1 : Int32) (z0_2 : Int32) (z0_3 : Int32) (x2 : Int32) (u8 : Addr) (zc : Int32) (fv : Value) (h0 : Heap) (n0 : Nat) (v : Option Value) (h : Heap) (L : List Loc) : Prop := v = none ∧ Fr n0 L ∧ Keep h0 h [ar0] ∧ Arv Z h ar0 kr0 .byte (4 : Int32) [(.int (own_hi x2)), (.int (own_lo x2)), (.int z0_2), (.int z0_3)] (.int 0)
theorem rmz47 (l : Launch) (Z : State) (a0 : Array Value) (hw : oW a0 Z) (ws : List Jvm.Cond) (ar0 : Addr) (kr0 : ClassId) (z0_0 : Int32) (z0_1 : Int32) (z0_2 : Int32) (z0_3 : Int32) (x2 : Int32) (u8 : Addr) (zc : Int32) (fv : Value) (h0 : Heap) (n0 : Nat) (Z0 : n0 ≤ h0.size) (V_ar0 : Arv Z h0 ar0 kr0 .byte (4 : Int32) [(.int z0_0), (.int z0_1), (.int z0_2), (.int z0_3)] (.int 0)) (g_ar0 : n0 ≤ ar0)  (SS : own_Sx Z h0 u8 zc fv)  : own_K l (⟨"java/lang/StringUTF16", "putChar", "([BII)V"⟩ : MethodName) jdk_52_method_4_code 3 none ws ({ frames := 0, cells := 0, slots := 0, locals := 0 } : Room) Z h0 #[(.ref ar0), (.int 0), (.int x2)] (Q_rmz47 Z ar0 kr0 z0_0 z0_1 z0_2 z0_3 x2 u8 zc fv h0 n0) := by
  refine own_met (plainFor_of_name pn_537) ?_
  intro p e s m below meth c s₁ hx hby hlk hml hown hnm hrt hZ hh X0 e0
  have N0 := Fr.nil n0
  refine oG m s₁ 0 #[vR ar0,vI 0,vI x2] [] (fun _ k => castTop (by first | (simp [entryFrame,mkF,argsToLocals,Value.category]; done) | rfl) k) ?_
  have K0 := Keep.refl h0 [ar0]
  have Sg1 := SS.sA
  obtain ⟨T2, X2, e2, st2⟩ := getS2 X0 hx hZ hown (host := "") (Or.inl (oH hw 194 rfl)) Via.refl e0 Sg1 (g := (mkF m 0 #[vR ar0, vI 0, vI x2] [])) rfl (hb hby d38_0)
  refine oG m T2 31 #[vR ar0,vI 0,vI x2] [(.int ((0 : Int32) <<< ((1 : Int32) &&& 31)))] (fun _ k => st2 _ (XS.ifYes X2.here hx rfl (pc0 := 3) (pc' := 28) rfl (hb hby d38_3) rfl ((if0 _ _).trans (feq (by decide)).2) (by decide) (by decide) (XS.iloadN X2.here hx rfl (hb hby d38_28) rfl (XS.iconst X2.here hx rfl (hb hby d38_29) (XS.ishl X2.here hx rfl (hb hby d38_30) rfl k))))) ?_
  rw [show ((0 : Int32) <<< ((1 : Int32) &&& 31)) = (0 : Int32) from by decide]
  refine oG m T2 37 #[vR ar0,vI ((0 : Int32) + (1 : Int32)),vI x2] [(.int 0),(.ref ar0)] (fun _ k => XS.istoreN X2.here hx rfl (hb hby d38_31) rfl (l' := #[vR ar0,vI 0,vI x2]) rfl (XS.aloadN X2.here hx rfl (hb hby d38_32) rfl rfl (XS.iloadN X2.here hx rfl (hb hby d38_33) rfl (XS.iinc X2.here hx rfl (hb hby d38_34) rfl (l' := #[vR ar0,vI ((0 : Int32) + (1 : Int32)),vI x2]) rfl k)))) ?_
  rw [show ((0 : Int32) + (1 : Int32)) = (1 : Int32) from by decide]
  refine oG m T2 38 #[vR ar0,vI 1,vI x2] [(.int x2),(.int 0),(.ref ar0)] (fun _ k => XS.iloadN X2.here hx rfl (hb hby d38_37) rfl k) ?_
  have Sg3 := SS.sH
  obtain ⟨T4, X4, e4, st4⟩ := getS2 X2 hx hZ hown (host := "") (Or.inl (oH hw 195 rfl)) Via.refl e2 Sg3 (g := (mkF m 38 #[vR ar0, vI 1, vI x2] [(.int x2), (.int 0), (.ref ar0)])) rfl (hb hby d38_38)
  refine oG m T4 43 #[vR ar0,vI 1,vI x2] [(.int ((x2 >>> ((0 : Int32) &&& 31)).toInt8.toInt32)),(.int 0),(.ref ar0)] (fun _ k => st4 _ (XS.ishr X4.here hx rfl (hb hby d38_41) rfl (XS.i2b X4.here hx rfl (hb hby d38_42) rfl k))) ?_
  obtain ⟨cl5, Ar5, qc5, S5, M5, Ha5, Ga5⟩ := id V_ar0
  obtain ⟨T5, h5, X5, e5, W5, st5⟩ := stB X4 hx hZ e4 Ar5 (j := (0 : Int32)) (inb_of S5 ⟨by decide, by decide⟩) (g := (mkF m 43 #[vR ar0, vI 1, vI x2] [(.int ((x2 >>> ((0 : Int32) &&& 31)).toInt8.toInt32)), (.int 0), (.ref ar0)])) rfl rfl (hb hby d38_43)
  have c5_USS := SS.wr W5
  have V5 : Arv Z h5 ar0 kr0 .byte (4 : Int32) [(.int (nar .byte ((x2 >>> ((0 : Int32) &&& 31)).toInt8.toInt32))), (.int z0_1), (.int z0_2), (.int z0_3)] (.int 0) := Arv.set Ar5 qc5 S5 M5 Ha5 Ga5 (fits_nar_byte _) W5 0 (by decide) (Nat.le_of_ble_eq_true rfl)
  have K5 := K0.wr W5 (Or.inl (List.mem_of_getElem? (i := 0) rfl))
  have N5 := Fr.snoc X5 N0 g_ar0
  have Z5 : n0 ≤ h5.size := Nat.le_trans Z0 (Nat.le_of_eq W5.size.symm)
  refine oG m T5 47 #[vR ar0,vI 1,vI x2] [(.int x2),(.int 1),(.ref ar0)] (fun _ k => st5 _ (XS.aloadN X5.here hx rfl (hb hby d38_44) rfl rfl (XS.iloadN X5.here hx rfl (hb hby d38_45) rfl (XS.iloadN X5.here hx rfl (hb hby d38_46) rfl k)))) ?_
  have Sg6 := c5_USS.sL
  obtain ⟨T7, X7, e7, st7⟩ := getS2 X5 hx hZ hown (host := "") (Or.inl (oH hw 196 rfl)) Via.refl e5 Sg6 (g := (mkF m 47 #[vR ar0, vI 1, vI x2] [(.int x2), (.int 1), (.ref ar0)])) rfl (hb hby d38_47)
  refine oG m T7 52 #[vR ar0,vI 1,vI x2] [(.int ((x2 >>> ((8 : Int32) &&& 31)).toInt8.toInt32)),(.int 1),(.ref ar0)] (fun _ k => st7 _ (XS.ishr X7.here hx rfl (hb hby d38_50) rfl (XS.i2b X7.here hx rfl (hb hby d38_51) rfl k))) ?_
  obtain ⟨cl8, Ar8, qc8, S8, M8, Ha8, Ga8⟩ := id V5
  obtain ⟨T8, h8, X8, e8, W8, st8⟩ := stB X7 hx hZ e7 Ar8 (j := (1 : Int32)) (inb_of S8 ⟨by decide, by decide⟩) (g := (mkF m 52 #[vR ar0, vI 1, vI x2] [(.int ((x2 >>> ((8 : Int32) &&& 31)).toInt8.toInt32)), (.int 1), (.ref ar0)])) rfl rfl (hb hby d38_52)
  have c8_USS := c5_USS.wr W8
  have V8 : Arv Z h8 ar0 kr0 .byte (4 : Int32) [(.int (nar .byte ((x2 >>> ((0 : Int32) &&& 31)).toInt8.toInt32))), (.int (nar .byte ((x2 >>> ((8 : Int32) &&& 31)).toInt8.toInt32))), (.int z0_2), (.int z0_3)] (.int 0) := Arv.set Ar8 qc8 S8 M8 Ha8 Ga8 (fits_nar_byte _) W8 1 (by decide) (Nat.le_of_ble_eq_true rfl)
  have K8 := K5.wr W8 (Or.inl (List.mem_of_getElem? (i := 0) rfl))
  have N8 := Fr.snoc X8 N5 g_ar0
  have Z8 : n0 ≤ h8.size := Nat.le_trans Z5 (Nat.le_of_eq W8.size.symm)
  refine oG m T8 53 #[vR ar0,vI 1,vI x2] [] (fun _ k => st8 _ k) ?_
  refine own_ret0 X8 hx hlk hrt (hb hby d38_53) (by decide) (by decide) ?_
  rw [e8]
  exact ⟨(by first | rfl | decide), N8, K8, V8⟩
theorem d33_113 : decode C33 113 = .ok (.invokestatic 64, 3) := by decide +kernel
theorem pd_648 : parseMethodDescriptor "([BII)V" = some ⟨[(.array .byte), .int, .int], none⟩ := by decide +kernel
theorem d33_116 : decode C33 116 = .ok (.goto (-116), 3) := by decide +kernel
theorem d33_621 : decode C33 621 = .ok (.iload 4, 2) := by decide +kernel
theorem d33_623 : decode C33 623 = .ok (.ireturn, 1) := by decide +kernel
def Q_rmz48 (Z : State) (ar0 : Addr) (kr0 : ClassId) (z0_0 : Int32) (z0_1 : Int32) (ar3 : Addr) (kr3 : ClassId) (z3_0 : Int32) (z3_1 : Int32) (z3_2 : Int32) (z3_3 : Int32) (u8 : Addr) (zc : Int32) (fv : Value) (h0 : Heap) (n0 : Nat) (v : Option Value) (h : Heap) (L : List Loc) : Prop := v = some (.int 1) ∧ Fr n0 L ∧ Keep h0 h [ar3] ∧ Arv Z h ar3 kr3 .byte (4 : Int32) [(.int (own_hi (own_d2 z0_0 z0_1))), (.int (own_lo (own_d2 z0_0 z0_1))), (.int z3_2), (.int z3_3)] (.int 0)
theorem rmz48 (l : Launch) (Z : State) (a0 : Array Value) (hw : oW a0 Z) (ws : List Jvm.Cond) (ar0 : Addr) (kr0 : ClassId) (z0_0 : Int32) (z0_1 : Int32) (ar3 : Addr) (kr3 : ClassId) (z3_0 : Int32) (z3_1 : Int32) (z3_2 : Int32) (z3_3 : Int32) (u8 : Addr) (zc : Int32) (fv : Value) (h0 : Heap) (n0 : Nat) (Z0 : n0 ≤ h0.size) (V_ar0 : Arv Z h0 ar0 kr0 .byte (2 : Int32) [(.int z0_0), (.int z0_1)] (.int 0)) (g_ar0 : n0 ≤ ar0) (V_ar3 : Arv Z h0 ar3 kr3 .byte (4 : Int32) [(.int z3_0), (.int z3_1), (.int z3_2), (.int z3_3)] (.int 0)) (g_ar3 : n0 ≤ ar3) (ne_ar0_ar3 : ar0 ≠ ar3) (SS : own_Sx Z h0 u8 zc fv) (hq0 : z0_0 < (0 : Int32)) (hq1 : (z0_0 >>> ((5 : Int32) &&& 31)) = (-2 : Int32)) (hq2 : ¬ (z0_0 &&& (30 : Int32)) = (0 : Int32)) (hq3 : (own_nc_0 z0_1) = (0 : Int32)) : own_K l (⟨"java/lang/String", "decodeUTF8_UTF16", "([BII[BIZ)I"⟩ : MethodName) jdk_42_method_38_code 11 (some .int) ws ({ frames := 1, cells := 0, slots := 0, locals := 15 } : Room) Z h0 #[(.ref ar0), (.int 0), (.int 2), (.ref ar3), (.int 0), (.int 1)] (Q_rmz48 Z ar0 kr0 z0_0 z0_1 ar3 kr3 z3_0 z3_1 z3_2 z3_3 u8 zc fv h0 n0) := by
  refine own_met (plainFor_of_name pn_22) ?_
  intro p e s m below meth c s₁ hx hby hlk hml hown hnm hrt hZ hh X0 e0
  have N0 := Fr.nil n0
  refine oG m s₁ 0 #[vR ar0,vI 0,vI 2,vR ar3,vI 0,vI 1,oU,oU,oU,oU,oU] [] (fun _ k => castTop (by first | (simp [entryFrame,mkF,argsToLocals,Value.category]; done) | rfl) k) ?_
  have K0 := Keep.refl h0 [ar3]
  refine oG m s₁ 10 #[vR ar0,vI ((0 : Int32) + (1 : Int32)),vI 2,vR ar3,vI 0,vI 1,oU,oU,oU,oU,oU] [(.int 0),(.ref ar0)] (fun _ k => XS.iloadN X0.here hx rfl (hb hby d33_0) rfl (XS.iloadN X0.here hx rfl (hb hby d33_1) rfl (XS.icmpNo X0.here hx rfl (hb hby d33_2) rfl (tlt (by decide)).2.1 (XS.aloadN X0.here hx rfl (hb hby d33_5) rfl rfl (XS.iloadN X0.here hx rfl (hb hby d33_6) rfl (XS.iinc X0.here hx rfl (hb hby d33_7) rfl (l' := #[vR ar0,vI ((0 : Int32) + (1 : Int32)),vI 2,vR ar3,vI 0,vI 1,oU,oU,oU,oU,oU]) rfl k)))))) ?_
  rw [show ((0 : Int32) + (1 : Int32)) = (1 : Int32) from by decide]
  obtain ⟨cl1, Ar1, -, S1, -, H1, -⟩ := id V_ar0
  have hin1 := inb_of (j := (0 : Int32)) S1 ⟨by decide, by decide⟩
  have hat1 := Has.at (v := (.int z0_0)) H1 hin1 (by first | rfl | decide)
  refine own_go (S' := (s₁.setTop (mkF m 11 #[vR ar0, vI 1, vI 2, vR ar3, vI 0, vI 1, oU, oU, oU, oU, oU] [(.int z0_0)]))) (fun _ kont => X0.baloadBytes hx (j := (0 : Int32)) (v := (.int z0_0)) (by rw [e0]; exact Ar1.1) (State.isArrayOf_alike hZ.alike Ar1.2.1) Ar1.2.2 hin1 hat1 (g := (mkF m 10 #[vR ar0, vI 1, vI 2, vR ar3, vI 0, vI 1, oU, oU, oU, oU, oU] [(.int 0), (.ref ar0)])) rfl rfl (hb hby d33_10) _ kont) ?_
  refine oG m s₁ 60 #[vR ar0,vI ((1 : Int32) + (1 : Int32)),vI 2,vR ar3,vI 0,vI 1,vI z0_0,oU,oU,oU,oU] [(.int 1),(.ref ar0)] (fun _ k => XS.istore X0.here hx rfl (hb hby d33_11) rfl (l' := #[vR ar0,vI 1,vI 2,vR ar3,vI 0,vI 1,vI z0_0,oU,oU,oU,oU]) rfl (XS.iload X0.here hx rfl (hb hby d33_13) rfl (XS.ifYes X0.here hx rfl (pc0 := 15) (pc' := 33) rfl (hb hby d33_15) rfl ((if0 _ _).trans (tlt hq0).1) (by decide) (by decide) (XS.iload X0.here hx rfl (hb hby d33_33) rfl (XS.iconst X0.here hx rfl (hb hby d33_35) (XS.ishr X0.here hx rfl (hb hby d33_36) rfl (XS.bipush X0.here hx rfl (hb hby d33_37) (XS.icmpNo X0.here hx rfl (hb hby d33_39) rfl (teq hq1).2 (XS.iload X0.here hx rfl (hb hby d33_42) rfl (XS.bipush X0.here hx rfl (hb hby d33_44) (XS.iand X0.here hx rfl (hb hby d33_46) rfl (XS.ifNo X0.here hx rfl (hb hby d33_47) rfl ((if0 _ _).trans (feq hq2).1) (XS.iloadN X0.here hx rfl (hb hby d33_50) rfl (XS.iloadN X0.here hx rfl (hb hby d33_51) rfl (XS.icmpNo X0.here hx rfl (hb hby d33_52) rfl (tlt (by decide)).2.1 (XS.aloadN X0.here hx rfl (hb hby d33_55) rfl rfl (XS.iloadN X0.here hx rfl (hb hby d33_56) rfl (XS.iinc X0.here hx rfl (hb hby d33_57) rfl (l' := #[vR ar0,vI ((1 : Int32) + (1 : Int32)),vI 2,vR ar3,vI 0,vI 1,vI z0_0,oU,oU,oU,oU]) rfl k)))))))))))))))))) ?_
  rw [show ((1 : Int32) + (1 : Int32)) = (2 : Int32) from by decide]
  obtain ⟨cl2, Ar2, -, S2, -, H2, -⟩ := id V_ar0
  have hin2 := inb_of (j := (1 : Int32)) S2 ⟨by decide, by decide⟩
  have hat2 := Has.at (v := (.int z0_1)) H2 hin2 (by first | rfl | decide)
  refine own_go (S' := (s₁.setTop (mkF m 61 #[vR ar0, vI 2, vI 2, vR ar3, vI 0, vI 1, vI z0_0, oU, oU, oU, oU] [(.int z0_1)]))) (fun _ kont => X0.baloadBytes hx (j := (1 : Int32)) (v := (.int z0_1)) (by rw [e0]; exact Ar2.1) (State.isArrayOf_alike hZ.alike Ar2.2.1) Ar2.2.2 hin2 hat2 (g := (mkF m 60 #[vR ar0, vI 2, vI 2, vR ar3, vI 0, vI 1, vI z0_0, oU, oU, oU, oU] [(.int 1), (.ref ar0)])) rfl rfl (hb hby d33_60) _ kont) ?_
  refine oG m s₁ 65 #[vR ar0,vI 2,vI 2,vR ar3,vI 0,vI 1,vI z0_0,vI z0_1,oU,oU,oU] [(.int z0_1)] (fun _ k => XS.istore X0.here hx rfl (hb hby d33_61) rfl (l' := #[vR ar0,vI 2,vI 2,vR ar3,vI 0,vI 1,vI z0_0,vI z0_1,oU,oU,oU]) rfl (XS.iload X0.here hx rfl (hb hby d33_63) rfl k)) ?_
  obtain ⟨T3, X3, e3, st3⟩ := own_cP X0 hx hZ hown (oH hw 230 rfl) (oH hw 231 rfl) (oH hw 54 rfl) (oH hw 232 rfl) (by decide) (rm48 l Z a0 hw [] z0_1 h0 n0 Z0) (W := 0) (by decide) (by decide) (g := (mkF m 65 #[vR ar0, vI 2, vI 2, vR ar3, vI 0, vI 1, vI z0_0, vI z0_1, oU, oU, oU] [(.int z0_1)])) rfl (by rw [hml]; rfl) (argsL := [(.int z0_1)]) (rest := []) (lenOf pd_617 rfl) rfl rfl rfl (hb hby d33_65) e0 rfl (by decide) (by decide) (by decide : 0 ≤ _) (by decide : 0 ≤ _)
  refine oG m T3 106 #[vR ar0,vI 2,vI 2,vR ar3,vI ((0 : Int32) + (1 : Int32)),vI 1,vI z0_0,vI z0_1,oU,oU,oU] [(.int 0),(.ref ar3)] (fun _ k => st3 _ (XS.ifYes X3.here hx rfl (pc0 := 68) (pc' := 100) rfl (hb hby d33_68) rfl ((if0 _ _).trans (teq hq3).1) (by decide) (by decide) (XS.aloadN X3.here hx rfl (hb hby d33_100) rfl rfl (XS.iload X3.here hx rfl (hb hby d33_101) rfl (XS.iinc X3.here hx rfl (hb hby d33_103) rfl (l' := #[vR ar0,vI 2,vI 2,vR ar3,vI ((0 : Int32) + (1 : Int32)),vI 1,vI z0_0,vI z0_1,oU,oU,oU]) rfl k))))) ?_
  rw [show ((0 : Int32) + (1 : Int32)) = (1 : Int32) from by decide]
  refine oG m T3 110 #[vR ar0,vI 2,vI 2,vR ar3,vI 1,vI 1,vI z0_0,vI z0_1,oU,oU,oU] [(.int z0_1),(.int z0_0),(.int 0),(.ref ar3)] (fun _ k => XS.iload X3.here hx rfl (hb hby d33_106) rfl (XS.iload X3.here hx rfl (hb hby d33_108) rfl k)) ?_
  obtain ⟨T4, X4, e4, st4⟩ := own_cP X3 hx hZ hown (oH hw 215 rfl) (oH hw 216 rfl) (oH hw 54 rfl) (oH hw 217 rfl) (by decide) (rmz35 l Z a0 hw [] z0_0 z0_1 u8 zc fv h0 n0 Z0  SS) (W := 2) (by decide) (by decide) (g := (mkF m 110 #[vR ar0, vI 2, vI 2, vR ar3, vI 1, vI 1, vI z0_0, vI z0_1, oU, oU, oU] [(.int z0_1), (.int z0_0), (.int 0), (.ref ar3)])) rfl (by rw [hml]; rfl) (argsL := [(.int z0_0), (.int z0_1)]) (rest := [(.int 0), (.ref ar3)]) (lenOf pd_482 rfl) rfl rfl rfl (hb hby d33_110) e3 rfl (by decide) (by decide) (by decide : 0 ≤ _) (by decide : 0 ≤ _)
  refine oG m T4 113 #[vR ar0,vI 2,vI 2,vR ar3,vI 1,vI 1,vI z0_0,vI z0_1,oU,oU,oU] [(.int (own_d2 z0_0 z0_1)),(.int 0),(.ref ar3)] (fun _ k => st4 _ k) ?_
  obtain ⟨v5, T5, Lc5, X5, hQ5, st5⟩ := own_cS X4 hx hZ hown (oH hw 191 rfl) (oH hw 192 rfl) (oH hw 152 rfl) (oH hw 193 rfl) (by decide) (rmz47 l Z a0 hw [] ar3 kr3 z3_0 z3_1 z3_2 z3_3 (own_d2 z0_0 z0_1) u8 zc fv h0 n0 Z0 V_ar3 g_ar3 SS) (W := 0) (by decide) (by decide) (g := (mkF m 113 #[vR ar0, vI 2, vI 2, vR ar3, vI 1, vI 1, vI z0_0, vI z0_1, oU, oU, oU] [(.int (own_d2 z0_0 z0_1)), (.int 0), (.ref ar3)])) rfl (by rw [hml]; rfl) (argsL := [(.ref ar3), (.int 0), (.int (own_d2 z0_0 z0_1))]) (rest := []) (lenOf pd_648 rfl) rfl rfl rfl (hb hby d33_113) e4 rfl (by decide : 0 + 0 ≤ _) (by decide : 0 + 0 ≤ _)
  obtain ⟨rfl, Nq5, Kc5, wa5_0⟩ := hQ5
  have Kt5 := K0.trans Kc5 (fun x hx => by simp only [List.mem_cons, List.mem_singleton, List.not_mem_nil, or_false] at hx; rcases hx with rfl <;> first | (left; simp; done) | (right; assumption))
  have N5 := Fr.app N0 Nq5
  have Z5 : n0 ≤ T5.heap.size := Nat.le_trans Z0 Kc5.1
  have c5_Var0 := V_ar0.keep Kc5 (ninS ne_ar0_ar3 nin0)
  have c5_USS := SS.keep Kc5 (own_nsS (own_nsA V_ar3) own_ns0)
  refine oG m T5 623 #[vR ar0,vI 2,vI 2,vR ar3,vI 1,vI 1,vI z0_0,vI z0_1,oU,oU,oU] [(.int 1)] (fun _ k => st5 _ (XS.goto X5.here hx rfl (pc0 := 116) (pc' := 0) rfl (hb hby d33_116) (by decide) (by decide) (XS.iloadN X5.here hx rfl (hb hby d33_0) rfl (XS.iloadN X5.here hx rfl (hb hby d33_1) rfl (XS.icmpYes X5.here hx rfl (pc0 := 2) (pc' := 621) rfl (hb hby d33_2) rfl (flt (by decide)).2.1 (by decide) (by decide) (XS.iload X5.here hx rfl (hb hby d33_621) rfl k)))))) ?_
  refine own_retI X5 hx hlk hrt (hb hby d33_623) (by decide) (by decide) ?_
  exact ⟨(by first | rfl | decide), N5, Kt5, wa5_0⟩
theorem d49_255 : decode C49 255 = .ok (.invokestatic 112, 3) := by decide +kernel
theorem pd_653 : parseMethodDescriptor "([BII[BIZ)I" = some ⟨[(.array .byte), .int, .int, (.array .byte), .int, .boolean], some .int⟩ := by decide +kernel
theorem d49_258 : decode C49 258 = .ok (.istore 5, 2) := by decide +kernel
theorem d49_260 : decode C49 260 = .ok (.iload 5, 2) := by decide +kernel
theorem d49_262 : decode C49 262 = .ok (.iload 4, 2) := by decide +kernel
theorem d49_264 : decode C49 264 = .ok (.if_icmp .eq 14, 3) := by decide +kernel
theorem d49_267 : decode C49 267 = .ok (.aload 8, 2) := by decide +kernel
theorem d49_269 : decode C49 269 = .ok (.iload 5, 2) := by decide +kernel
theorem d49_271 : decode C49 271 = .ok (.iconst 1, 1) := by decide +kernel
theorem d49_272 : decode C49 272 = .ok (.ishl, 1) := by decide +kernel
def Q_rmz49 (Z : State) (ar0 : Addr) (kr0 : ClassId) (z0_0 : Int32) (z0_1 : Int32) (z0_2 : Int32) (z0_3 : Int32) (u8 : Addr) (zc : Int32) (fv : Value) (h0 : Heap) (n0 : Nat) (v : Option Value) (h : Heap) (L : List Loc) : Prop := ∃ (NA0 : Addr) (KA0 : ClassId), v = some (.ref NA0) ∧ Fr n0 L ∧ Keep h0 h [] ∧ h0.size ≤ NA0 ∧ Arv Z h NA0 KA0 .byte (2 : Int32) [(.int z0_0), (.int z0_1)] (.int 0)
theorem rmz49 (l : Launch) (Z : State) (a0 : Array Value) (hw : oW a0 Z) (ws : List Jvm.Cond) (ar0 : Addr) (kr0 : ClassId) (z0_0 : Int32) (z0_1 : Int32) (z0_2 : Int32) (z0_3 : Int32) (u8 : Addr) (zc : Int32) (fv : Value) (h0 : Heap) (n0 : Nat) (Z0 : n0 ≤ h0.size) (V_ar0 : Arv Z h0 ar0 kr0 .byte (4 : Int32) [(.int z0_0), (.int z0_1), (.int z0_2), (.int z0_3)] (.int 0)) (g_ar0 : n0 ≤ ar0)  (SS : own_Sx Z h0 u8 zc fv)  : own_K l (⟨"java/util/Arrays", "copyOf", "([BI)[B"⟩ : MethodName) jdk_65_method_121_code 3 (some (.array .byte)) ws ({ frames := 1, cells := 1, slots := 2, locals := 18 } : Room) Z h0 #[(.ref ar0), (.int 2)] (Q_rmz49 Z ar0 kr0 z0_0 z0_1 z0_2 z0_3 u8 zc fv h0 n0) := by
  refine own_met (plainFor_of_name pn_268) ?_
  intro p e s m below meth c s₁ hx hby hlk hml hown hnm hrt hZ hh X0 e0
  have N0 := Fr.nil n0
  refine oG m s₁ 0 #[vR ar0,vI 2,oU] [] (fun _ k => castTop (by first | (simp [entryFrame,mkF,argsToLocals,Value.category]; done) | rfl) k) ?_
  have K0 := Keep.refl h0 []
  refine oG m s₁ 2 #[vR ar0,vI 2,oU] [(.ref ar0),(.int 2)] (fun _ k => XS.iloadN X0.here hx rfl (hb hby d40_0) rfl (XS.aloadN X0.here hx rfl (hb hby d40_1) rfl rfl k)) ?_
  obtain ⟨cl1, Ar1, -, S1, M1, -, -⟩ := id V_ar0
  have ql1 := len_of S1 M1
  refine own_go (S' := (s₁.setTop (mkF m 3 #[vR ar0, vI 2, oU] [(.int 4), (.int 2)]))) (fun _ kont => X0.arraylength hx (by rw [e0]; exact Ar1.1) (State.isArrayOf_alike hZ.alike Ar1.2.1) (g := (mkF m 2 #[vR ar0, vI 2, oU] [(.ref ar0), (.int 2)])) rfl rfl (hb hby d40_2) _ (by rw [ql1]; exact kont)) ?_
  refine oG m s₁ 15 #[vR ar0,vI 2,oU] [(.int 2)] (fun _ k => XS.icmpYes X0.here hx rfl (pc0 := 3) (pc' := 14) rfl (hb hby d40_3) rfl (feq (by decide)).2 (by decide) (by decide) (XS.iloadN X0.here hx rfl (hb hby d40_14) rfl k)) ?_
  obtain ⟨T2, h2, k2, X2, e2, E2, A2, st2⟩ := newP X0 hx hZ (oH hw 7 rfl) e0 (g := (mkF m 15 #[vR ar0, vI 2, oU] [(.int 2)])) rfl (hb hby d40_15) rfl (by decide) (cap := 2) (by decide) (by decide) (by decide) (by decide)
  obtain ⟨b2, gz2⟩ : ∃ z, z = h0.size := ⟨_, rfl⟩
  rw [← gz2] at A2 st2
  have sz_b2 : h0.size ≤ b2 := Nat.le_trans K0.1 (Nat.le_of_eq gz2.symm)
  have ne_ar0_b2 : ar0 ≠ b2 := Nat.ne_of_lt (by rw [gz2]; exact V_ar0.lt)
  have c2_Var0 := V_ar0.ext E2
  have c2_USS := SS.ext E2
  have K2 := K0.ext E2
  have g_b2 : n0 ≤ b2 := Nat.le_trans Z0 (Nat.le_of_eq gz2.symm)
  have V2 := Arv.new A2 (by decide)
  have Z2 : n0 ≤ h2.size := Nat.le_trans Z0 E2.1
  refine oG m T2 17 #[vR ar0,vI 2,oU] [(.ref b2)] (fun _ k => st2 _ k) ?_
  have V3 : Arv Z h2 b2 k2 .byte (2 : Int32) [(.int 0), (.int 0)] (.int 0) := V2.pad (pad_rep [] (.int 0) 2)
  refine oG m T2 23 #[vR ar0,vI 2,vR b2] [(.ref ar0),(.int 0),(.ref b2),(.int 0),(.ref ar0)] (fun _ k => XS.astoreN X2.here hx rfl (hb hby d40_17) rfl rfl (l' := #[vR ar0,vI 2,vR b2]) rfl (XS.aloadN X2.here hx rfl (hb hby d40_18) rfl rfl (XS.iconst X2.here hx rfl (hb hby d40_19) (XS.aloadN X2.here hx rfl (hb hby d40_20) rfl rfl (XS.iconst X2.here hx rfl (hb hby d40_21) (XS.aloadN X2.here hx rfl (hb hby d40_22) rfl rfl k)))))) ?_
  obtain ⟨cl4, Ar4, -, S4, M4, -, -⟩ := id c2_Var0
  have ql4 := len_of S4 M4
  refine own_go (S' := (T2.setTop (mkF m 24 #[vR ar0, vI 2, vR b2] [(.int 4), (.int 0), (.ref b2), (.int 0), (.ref ar0)]))) (fun _ kont => X2.arraylength hx (by rw [e2]; exact Ar4.1) (State.isArrayOf_alike hZ.alike Ar4.2.1) (g := (mkF m 23 #[vR ar0, vI 2, vR b2] [(.ref ar0), (.int 0), (.ref b2), (.int 0), (.ref ar0)])) rfl rfl (hb hby d40_23) _ (by rw [ql4]; exact kont)) ?_
  refine oG m T2 25 #[vR ar0,vI 2,vR b2] [(.int 2),(.int 4),(.int 0),(.ref b2),(.int 0),(.ref ar0)] (fun _ k => XS.iloadN X2.here hx rfl (hb hby d40_24) rfl k) ?_
  obtain ⟨T5, X5, e5, st5⟩ := own_cP X2 hx hZ hown (oH hw 96 rfl) (oH hw 97 rfl) (oH hw 98 rfl) (oH hw 99 rfl) (by decide) (rmz13 l Z a0 hw [] (4 : Int32) (2 : Int32) u8 zc fv h2 n0 Z2  c2_USS (by decide)) (W := 4) (by decide) (by decide) (g := (mkF m 25 #[vR ar0, vI 2, vR b2] [(.int 2), (.int 4), (.int 0), (.ref b2), (.int 0), (.ref ar0)])) rfl (by rw [hml]; rfl) (argsL := [(.int 4), (.int 2)]) (rest := [(.int 0), (.ref b2), (.int 0), (.ref ar0)]) (lenOf pd_293 rfl) rfl rfl rfl (hb hby d40_25) e2 rfl (by decide) (by decide) (by decide : 1 ≤ _) (by decide : 2 ≤ _)
  refine oG m T5 28 #[vR ar0,vI 2,vR b2] [(.int 2),(.int 0),(.ref b2),(.int 0),(.ref ar0)] (fun _ k => st5 _ k) ?_
  obtain ⟨T6, h6, L6, X6, e6, N6, Kc6, Vd6, st6⟩ := cpA X5 hx hZ hown (oH hw 100 rfl) (oH hw 103 rfl) (oH hw 101 rfl) (oH hw 102 rfl) e5 (us := [(.int z0_0), (.int z0_1)]) c2_Var0 V3 (Or.inl ⟨rfl, rfl⟩) (sp := (0 : Int32)) (dp := (0 : Int32)) (nn := (2 : Int32)) (by decide) (by decide) (by decide) (by decide) (by decide) (by first | rfl | simp) (by first | decide | exact Nat.le_of_ble_eq_true rfl) N0 g_b2 (g := (mkF m 28 #[vR ar0, vI 2, vR b2] [(.int 2), (.int 0), (.ref b2), (.int 0), (.ref ar0)])) rfl (by rw [hml]; rfl) rfl (hb hby d40_28) (by decide) (W := 0) (by show 2 * 0 + _ ≤ _; exact Nat.le_of_eq rfl) (by decide)
  have Vn6 : Arv Z h6 b2 k2 .byte (2 : Int32) [(.int z0_0), (.int z0_1)] (.int 0) := Vd6
  have Z6 : n0 ≤ h6.size := Nat.le_trans Z2 Kc6.1
  have Kt6 := K2.trans Kc6 (fun x hx => by cases List.mem_singleton.mp hx; first | (left; simp; done) | (right; assumption))
  have c6_Var0 := c2_Var0.keep Kc6 (ninS ne_ar0_b2 nin0)
  have c6_USS := c2_USS.keep Kc6 (own_nsS (own_nsA V3) own_ns0)
  refine oG m T6 32 #[vR ar0,vI 2,vR b2] [(.ref b2)] (fun _ k => st6 _ (XS.aloadN X6.here hx rfl (hb hby d40_31) rfl rfl k)) ?_
  refine own_retA X6 hx hlk (rfl) rfl hrt (hb hby d40_32) (by decide) (by decide) ?_
  rw [e6]
  exact ⟨b2, k2, (by first | rfl | decide), N6, Kt6, sz_b2, Vn6⟩
theorem d49_273 : decode C49 273 = .ok (.invokestatic 102, 3) := by decide +kernel
theorem d49_276 : decode C49 276 = .ok (.astore 8, 2) := by decide +kernel
theorem d49_278 : decode C49 278 = .ok (.aload_n 0, 1) := by decide +kernel
theorem d49_279 : decode C49 279 = .ok (.aload 8, 2) := by decide +kernel
theorem d49_281 : decode C49 281 = .ok (.putfield 9, 3) := by decide +kernel
theorem d49_284 : decode C49 284 = .ok (.aload_n 0, 1) := by decide +kernel
theorem d49_285 : decode C49 285 = .ok (.iconst 1, 1) := by decide +kernel
theorem d49_286 : decode C49 286 = .ok (.putfield 15, 3) := by decide +kernel
theorem d49_289 : decode C49 289 = .ok (.goto 590, 3) := by decide +kernel
theorem d49_879 : decode C49 879 = .ok (.return_, 1) := by decide +kernel
theorem ef_rmz50 (m : MethodId) (x0 : Addr) (x1 : Addr) (x2 : Addr) (x3 : Int32) (x4 : Int32) : entryFrame m #[(.ref x0), (.ref x1), (.ref x2), (.int x3), (.int x4)] 11 = mkF m 0 #[vR x0, vR x1, vR x2, vI x3, vI x4, oU, oU, oU, oU, oU, oU] [] := by first | (simp [entryFrame, mkF, argsToLocals, Value.category]; done) | rfl
def Q_rmz50 (Z : State) (ob0 : Addr) (ar2 : Addr) (kr2 : ClassId) (z2_0 : Int32) (z2_1 : Int32) (z2_2 : Int32) (z2_3 : Int32) (u8 : Addr) (zc : Int32) (fv : Value) (h0 : Heap) (n0 : Nat) (v : Option Value) (h : Heap) (L : List Loc) : Prop := ∃ (NA0 : Addr) (KA0 : ClassId), v = none ∧ Fr n0 L ∧ Keep h0 h [ob0] ∧ h0.size ≤ NA0 ∧ Arv Z h NA0 KA0 .byte (2 : Int32) [(.int (own_hi (own_d2 z2_0 z2_1))), (.int (own_lo (own_d2 z2_0 z2_1)))] (.int 0) ∧ Fld Z h ob0 "java/lang/String" "value" "[B" (.ref NA0) ∧ Fld Z h ob0 "java/lang/String" "coder" "B" (.int 1)
theorem rmz50 (l : Launch) (Z : State) (a0 : Array Value) (hw : ∀ d ∈ tables_1, d.before a0 Z = true) (ws : List Jvm.Cond) (ob0 : Addr) (ar2 : Addr) (kr2 : ClassId) (z2_0 : Int32) (z2_1 : Int32) (z2_2 : Int32) (z2_3 : Int32) (u8 : Addr) (zc : Int32) (fv : Value) (h0 : Heap) (n0 : Nat) (Z0 : n0 ≤ h0.size) (E_ob0 : Exa Z h0 ob0 "java/lang/String") (g_ob0 : n0 ≤ ob0) (F_ob0_value : Fld Z h0 ob0 "java/lang/String" "value" "[B" .null) (F_ob0_coder : Fld Z h0 ob0 "java/lang/String" "coder" "B" (.int 0)) (V_ar2 : Arv Z h0 ar2 kr2 .byte (4 : Int32) [(.int z2_0), (.int z2_1), (.int z2_2), (.int z2_3)] (.int 0)) (g_ar2 : n0 ≤ ar2) (E_ar2 : Exa Z h0 ar2 "[B") (ne_ob0_ar2 : ob0 ≠ ar2) (SS : own_Sx Z h0 u8 zc fv) (hq0 : z2_0 < (0 : Int32)) (hq1 : ¬ (z2_0 &&& (254 : Int32)) = (194 : Int32)) (hq2 : (z2_0 >>> ((5 : Int32) &&& 31)) = (-2 : Int32)) (hq3 : ¬ (z2_0 &&& (30 : Int32)) = (0 : Int32)) (hq4 : (own_nc_0 z2_1) = (0 : Int32)) :
    MetFree l (⟨"java/lang/String", "<init>", "(Ljava/nio/charset/Charset;[BII)V"⟩ : MethodName) (head1 (Jvm.Cond.codeWith (⟨"java/lang/String", "<init>", "(Ljava/nio/charset/Charset;[BII)V"⟩ : MethodName) jdk_42_method_11_code 11 none [(800, 813, 816, 202)] :: ws) ({ frames := 5, cells := 3, slots := 8, locals := 76 } : Room)) (fun a U => a = #[(.ref ob0), (.ref u8), (.ref ar2), (.int 0), (.int 2)] ∧ Z.Warmed39 U.vm ∧ U.heap = h0) (fun _ _ _ _ _ => True) (fun _ U o U' => ∃ v L, o = .returned v ∧ Q_rmz50 Z ob0 ar2 kr2 z2_0 z2_1 z2_2 z2_3 u8 zc fv h0 n0 v U'.heap L ∧ FrameEnd U o U' L ({ frames := 5, cells := 3, slots := 8, locals := 76 } : Room).cells ({ frames := 5, cells := 3, slots := 8, locals := 76 } : Room).slots) := by
  refine MetFree.of_bodySF (plainFor_of_name pn_22) hisWith ?_
  intro p e s m args below meth c s₁ Bd hml0 hP hK
  obtain ⟨rfl, hZ, hh⟩ := hP
  have hx := Bd.exec
  have hby := Bd.bytes
  have hlk := Bd.notSynchronized
  have hml : c.maxLocals = 11 := hml0
  have hown : s.vm.findClass "java/lang/String" = some m.cls := findClass_of_methodNamed Bd.named
  have hnm := (name_of_methodNamed Bd.named Bd.method).1
  have X0 : Stand p l e ({ frames := 5, cells := 3, slots := 8, locals := 76 } : Room) s m #[(.ref ob0), (.ref u8), (.ref ar2), (.int 0), (.int 2)] below meth c s₁ [] 0 0 := Stand.of_body Bd
  have e0 : s₁.heap = h0 := by rw [← hh, Bd.state]; rfl
  have N0 := Fr.nil n0
  change own_Go p e below s (Q_rmz50 Z ob0 ar2 kr2 z2_0 z2_1 z2_2 z2_3 u8 zc fv h0 n0) ({ frames := 5, cells := 3, slots := 8, locals := 76 } : Room).cells ({ frames := 5, cells := 3, slots := 8, locals := 76 } : Room).slots _
  refine own_go (S' := (s₁.setTop (mkF m 0 #[vR ob0, vR u8, vR ar2, vI 0, vI 2, oU, oU, oU, oU, oU, oU] []))) (fun _ kont => castTop (ef_rmz50 m ob0 u8 ar2 (0 : Int32) (2 : Int32)) kont) ?_
  have K0 := Keep.refl h0 [ob0]
  refine oG m s₁ 1 #[vR ob0,vR u8,vR ar2,vI 0,vI 2,oU,oU,oU,oU,oU,oU] [(.ref ob0)] (fun _ k => XS.aloadN X0.here hx rfl (hb hby d49_0) rfl rfl k) ?_
  obtain ⟨T1, X1, e1, st1⟩ := initO X0 hx hZ hown (oH hw 78 rfl) (oH hw 18 rfl) (oH hw 19 rfl) e0 (g := (mkF m 1 #[vR ob0, vR u8, vR ar2, vI 0, vI 2, oU, oU, oU, oU, oU, oU] [(.ref ob0)])) rfl (by rw [hml]; rfl) rfl (hb hby d49_1) (by decide) (W := 0) (by show 2 * 0 + _ ≤ _; exact Nat.le_of_eq rfl) (by decide)
  refine oG m T1 31 #[vR ob0,vR u8,vR ar2,vI 0,vI 2,oU,oU,oU,oU,oU,oU] [(.ref u8)] (fun _ k => st1 _ (XS.iload X1.here hx rfl (hb hby d49_4) rfl (XS.ifYes X1.here hx rfl (pc0 := 6) (pc' := 30) rfl (hb hby d49_6) rfl ((if0 _ _).trans (feq (by decide)).2) (by decide) (by decide) (XS.aloadN X1.here hx rfl (hb hby d49_30) rfl rfl k)))) ?_
  have Sg2 := SS.sI
  obtain ⟨T3, X3, e3, st3⟩ := getS2 X1 hx hZ hown (host := "") (Or.inl (oH hw 79 rfl)) Via.refl e1 Sg2 (g := (mkF m 31 #[vR ob0, vR u8, vR ar2, vI 0, vI 2, oU, oU, oU, oU, oU, oU] [(.ref u8)])) rfl (hb hby d49_31)
  refine oG m T3 37 #[vR ob0,vR u8,vR ar2,vI 0,vI 2,oU,oU,oU,oU,oU,oU] [] (fun _ k => st3 _ (Jvm.RoadKit.acmp (g := (mkF m 34 #[vR ob0,vR u8,vR ar2,vI 0,vI 2,oU,oU,oU,oU,oU,oU] [(.ref u8),(.ref u8)])) X3 hx rfl rfl rfl (pc0 := 34) (pc' := 37) (same := true) rfl (hb hby d49_34) rfl (decide_eq_true rfl) (by decide) (by decide) k)) ?_
  have Sg4 := SS.sC
  obtain ⟨T5, X5, e5, st5⟩ := getS2 X3 hx hZ hown (host := "") (Or.inl (oH hw 81 rfl)) Via.refl e3 Sg4 (g := (mkF m 37 #[vR ob0, vR u8, vR ar2, vI 0, vI 2, oU, oU, oU, oU, oU, oU] [])) rfl (hb hby d49_37)
  refine oG m T5 47 #[vR ob0,vR u8,vR ar2,vI 0,vI 2,oU,oU,oU,oU,oU,oU] [(.int 2),(.int 0),(.ref ar2)] (fun _ k => st5 _ (XS.ifNo X5.here hx rfl (hb hby d49_40) rfl ((if0 _ _).trans (feq SS.nz).1) (XS.aloadN X5.here hx rfl (hb hby d49_43) rfl rfl (XS.iloadN X5.here hx rfl (hb hby d49_44) rfl (XS.iload X5.here hx rfl (hb hby d49_45) rfl k))))) ?_
  obtain ⟨T6, X6, e6, st6⟩ := own_cP X5 hx hZ hown (oH hw 82 rfl) (oH hw 83 rfl) (oH hw 84 rfl) (oH hw 85 rfl) (by decide) (rmz32 l Z a0 hw [] ar2 kr2 z2_0 z2_1 z2_2 z2_3 u8 zc fv h0 n0 Z0 V_ar2 g_ar2 E_ar2 SS hq0) (W := 0) (by decide) (by decide) (g := (mkF m 47 #[vR ob0, vR u8, vR ar2, vI 0, vI 2, oU, oU, oU, oU, oU, oU] [(.int 2), (.int 0), (.ref ar2)])) rfl (by rw [hml]; rfl) (argsL := [(.ref ar2), (.int 0), (.int 2)]) (rest := []) (lenOf pd_242 rfl) rfl rfl rfl (hb hby d49_47) e5 rfl (by decide) (by decide) (by decide : 0 ≤ _) (by decide : 0 ≤ _)
  refine oG m T6 84 #[vR ob0,vR u8,vR ar2,vI 0,vI 2,vI 0,oU,oU,oU,oU,oU] [(.int ((0 : Int32) + (2 : Int32))),(.int 0),(.ref ar2)] (fun _ k => st6 _ (XS.istore X6.here hx rfl (hb hby d49_50) rfl (l' := #[vR ob0,vR u8,vR ar2,vI 0,vI 2,vI 0,oU,oU,oU,oU,oU]) rfl (XS.iload X6.here hx rfl (hb hby d49_52) rfl (XS.iload X6.here hx rfl (hb hby d49_54) rfl (XS.icmpYes X6.here hx rfl (pc0 := 56) (pc' := 78) rfl (hb hby d49_56) rfl (feq (by decide)).2 (by decide) (by decide) (XS.aloadN X6.here hx rfl (hb hby d49_78) rfl rfl (XS.iloadN X6.here hx rfl (hb hby d49_79) rfl (XS.iloadN X6.here hx rfl (hb hby d49_80) rfl (XS.iload X6.here hx rfl (hb hby d49_81) rfl (XS.iadd X6.here hx rfl (hb hby d49_83) rfl k)))))))))) ?_
  rw [show ((0 : Int32) + (2 : Int32)) = (2 : Int32) from by decide]
  obtain ⟨v7, T7, Lc7, X7, hQ7, st7⟩ := own_cS X6 hx hZ hown (oH hw 86 rfl) (oH hw 87 rfl) (oH hw 88 rfl) (oH hw 89 rfl) (by decide) (rmz34 l Z a0 hw [] ar2 kr2 z2_0 z2_1 z2_2 z2_3 u8 zc fv h0 n0 Z0 V_ar2 g_ar2 E_ar2 SS) (W := 0) (by decide) (by decide) (g := (mkF m 84 #[vR ob0, vR u8, vR ar2, vI 0, vI 2, vI 0, oU, oU, oU, oU, oU] [(.int 2), (.int 0), (.ref ar2)])) rfl (by rw [hml]; rfl) (argsL := [(.ref ar2), (.int 0), (.int 2)]) (rest := []) (lenOf pd_298 rfl) rfl rfl rfl (hb hby d49_84) e6 rfl (by decide : 0 + 1 ≤ _) (by decide : 0 + 2 ≤ _)
  obtain ⟨na7_0, ka7_0, rfl, Nq7, Kc7, sa7_0, va7_0⟩ := hQ7
  have Kt7 := K0.trans Kc7 (fun x hx => nomatch hx)
  have N7 := Fr.app N0 Nq7
  have Z7 : n0 ≤ T7.heap.size := Nat.le_trans Z0 Kc7.1
  have c7_Eob0 := E_ob0.keep Kc7
  have c7_Fob0_value := F_ob0_value.keep Kc7 nin0
  have c7_Fob0_coder := F_ob0_coder.keep Kc7 nin0
  have c7_Var2 := V_ar2.keep Kc7 nin0
  have c7_Ear2 := E_ar2.keep Kc7
  have c7_USS := SS.keep Kc7 own_ns0
  refine oG m T7 87 #[vR ob0,vR u8,vR ar2,vI 0,vI 2,vI 0,oU,oU,oU,oU,oU] [(.ref na7_0)] (fun _ k => st7 _ k) ?_
  have g_na7_0 : n0 ≤ na7_0 := Nat.le_trans Z0 sa7_0
  have sz_na7_0 : h0.size ≤ na7_0 := Nat.le_trans K0.1 sa7_0
  have ne_ob0_na7_0 : ob0 ≠ na7_0 := Nat.ne_of_lt (Nat.lt_of_lt_of_le E_ob0.lt sa7_0)
  have ne_ar2_na7_0 : ar2 ≠ na7_0 := Nat.ne_of_lt (Nat.lt_of_lt_of_le E_ar2.lt sa7_0)
  refine oG m T7 107 #[vR ob0,vR u8,vR ar2,vI 0,vI 2,vI 0,vR na7_0,vI ((0 : Int32) + (1 : Int32)),oU,oU,oU] [(.int 0),(.ref na7_0)] (fun _ k => XS.astore X7.here hx rfl (hb hby d49_87) rfl rfl (l' := #[vR ob0,vR u8,vR ar2,vI 0,vI 2,vI 0,vR na7_0,oU,oU,oU,oU]) rfl (XS.iload X7.here hx rfl (hb hby d49_89) rfl (XS.istore X7.here hx rfl (hb hby d49_91) rfl (l' := #[vR ob0,vR u8,vR ar2,vI 0,vI 2,vI 0,vR na7_0,vI 0,oU,oU,oU]) rfl (XS.iload X7.here hx rfl (hb hby d49_93) rfl (XS.iload X7.here hx rfl (hb hby d49_95) rfl (XS.icmpNo X7.here hx rfl (hb hby d49_97) rfl (tlt (by decide)).2.1 (XS.aload X7.here hx rfl (hb hby d49_100) rfl rfl (XS.iload X7.here hx rfl (hb hby d49_102) rfl (XS.iinc X7.here hx rfl (hb hby d49_104) rfl (l' := #[vR ob0,vR u8,vR ar2,vI 0,vI 2,vI 0,vR na7_0,vI ((0 : Int32) + (1 : Int32)),oU,oU,oU]) rfl k))))))))) ?_
  rw [show ((0 : Int32) + (1 : Int32)) = (1 : Int32) from by decide]
  obtain ⟨cl8, Ar8, -, S8, -, H8, -⟩ := id va7_0
  have hin8 := inb_of (j := (0 : Int32)) S8 ⟨by decide, by decide⟩
  have hat8 := Has.at (v := (.int z2_0)) H8 hin8 (by first | rfl | decide)
  refine own_go (S' := (T7.setTop (mkF m 108 #[vR ob0, vR u8, vR ar2, vI 0, vI 2, vI 0, vR na7_0, vI 1, oU, oU, oU] [(.int z2_0)]))) (fun _ kont => X7.baloadBytes hx (j := (0 : Int32)) (v := (.int z2_0)) Ar8.1 (State.isArrayOf_alike hZ.alike Ar8.2.1) Ar8.2.2 hin8 hat8 (g := (mkF m 107 #[vR ob0, vR u8, vR ar2, vI 0, vI 2, vI 0, vR na7_0, vI 1, oU, oU, oU] [(.int 0), (.ref na7_0)])) rfl rfl (hb hby d49_107) _ kont) ?_
  refine oG m T7 187 #[vR ob0,vR u8,vR ar2,vI 0,vI 2,vI 0,vR na7_0,vI ((1 : Int32) + (-1 : Int32)),vI z2_0,oU,oU] [] (fun _ k => XS.istore X7.here hx rfl (hb hby d49_108) rfl (l' := #[vR ob0,vR u8,vR ar2,vI 0,vI 2,vI 0,vR na7_0,vI 1,vI z2_0,oU,oU]) rfl (XS.iload X7.here hx rfl (hb hby d49_110) rfl (XS.ifYes X7.here hx rfl (pc0 := 112) (pc' := 129) rfl (hb hby d49_112) rfl ((if0 _ _).trans (tlt hq0).1) (by decide) (by decide) (XS.iload X7.here hx rfl (hb hby d49_129) rfl (XS.sipush X7.here hx rfl (hb hby d49_131) (XS.iand X7.here hx rfl (hb hby d49_134) rfl (XS.sipush X7.here hx rfl (hb hby d49_135) (XS.icmpYes X7.here hx rfl (pc0 := 138) (pc' := 184) rfl (hb hby d49_138) rfl (feq hq1).2 (by decide) (by decide) (XS.iinc X7.here hx rfl (hb hby d49_184) rfl (l' := #[vR ob0,vR u8,vR ar2,vI 0,vI 2,vI 0,vR na7_0,vI ((1 : Int32) + (-1 : Int32)),vI z2_0,oU,oU]) rfl k))))))))) ?_
  rw [show ((1 : Int32) + (-1 : Int32)) = (0 : Int32) from by decide]
  refine oG m T7 228 #[vR ob0,vR u8,vR ar2,vI 0,vI 2,vI 0,vR na7_0,vI 0,vI z2_0,oU,oU] [(.int 2)] (fun _ k => XS.goto X7.here hx rfl (pc0 := 187) (pc' := 190) rfl (hb hby d49_187) (by decide) (by decide) (XS.iload X7.here hx rfl (hb hby d49_190) rfl (XS.iload X7.here hx rfl (hb hby d49_192) rfl (XS.icmpYes X7.here hx rfl (pc0 := 194) (pc' := 226) rfl (hb hby d49_194) rfl (feq (by decide)).2 (by decide) (by decide) (XS.iload X7.here hx rfl (hb hby d49_226) rfl k))))) ?_
  obtain ⟨v9, T9, Lc9, X9, hQ9, st9⟩ := own_cS X7 hx hZ hown (oH hw 150 rfl) (oH hw 151 rfl) (oH hw 152 rfl) (oH hw 153 rfl) (by decide) (rmz42 l Z a0 hw []  u8 zc fv T7.heap n0 Z7  c7_USS) (W := 0) (by decide) (by decide) (g := (mkF m 228 #[vR ob0, vR u8, vR ar2, vI 0, vI 2, vI 0, vR na7_0, vI 0, vI z2_0, oU, oU] [(.int 2)])) rfl (by rw [hml]; rfl) (argsL := [(.int 2)]) (rest := []) (lenOf pd_542 rfl) rfl rfl rfl (hb hby d49_228) rfl rfl (by decide : 1 + 1 ≤ _) (by decide : 2 + 4 ≤ _)
  obtain ⟨na9_0, ka9_0, rfl, Nq9, Kc9, sa9_0, va9_0⟩ := hQ9
  have Kt9 := Kt7.trans Kc9 (fun x hx => nomatch hx)
  have N9 := Fr.app N7 Nq9
  have Z9 : n0 ≤ T9.heap.size := Nat.le_trans Z7 Kc9.1
  have c9_Eob0 := c7_Eob0.keep Kc9
  have c9_Fob0_value := c7_Fob0_value.keep Kc9 nin0
  have c9_Fob0_coder := c7_Fob0_coder.keep Kc9 nin0
  have c9_Var2 := c7_Var2.keep Kc9 nin0
  have c9_Ear2 := c7_Ear2.keep Kc9
  have c9_USS := c7_USS.keep Kc9 own_ns0
  have c9_Vna7_0 := va7_0.keep Kc9 nin0
  refine oG m T9 231 #[vR ob0,vR u8,vR ar2,vI 0,vI 2,vI 0,vR na7_0,vI 0,vI z2_0,oU,oU] [(.ref na9_0)] (fun _ k => st9 _ k) ?_
  have g_na9_0 : n0 ≤ na9_0 := Nat.le_trans Z7 sa9_0
  have sz_na9_0 : h0.size ≤ na9_0 := Nat.le_trans Kt7.1 sa9_0
  have ne_ob0_na9_0 : ob0 ≠ na9_0 := Nat.ne_of_lt (Nat.lt_of_lt_of_le c7_Eob0.lt sa9_0)
  have ne_ar2_na9_0 : ar2 ≠ na9_0 := Nat.ne_of_lt (Nat.lt_of_lt_of_le c7_Ear2.lt sa9_0)
  have ne_na7_0_na9_0 : na7_0 ≠ na9_0 := Nat.ne_of_lt (Nat.lt_of_lt_of_le va7_0.lt sa9_0)
  refine oG m T9 241 #[vR ob0,vR u8,vR ar2,vI 0,vI 2,vI 0,vR na7_0,vI 0,vR na9_0,oU,oU] [(.int 0),(.int 0),(.ref na9_0),(.int 0),(.ref na7_0)] (fun _ k => XS.astore X9.here hx rfl (hb hby d49_231) rfl rfl (l' := #[vR ob0,vR u8,vR ar2,vI 0,vI 2,vI 0,vR na7_0,vI 0,vR na9_0,oU,oU]) rfl (XS.aload X9.here hx rfl (hb hby d49_233) rfl rfl (XS.iconst X9.here hx rfl (hb hby d49_235) (XS.aload X9.here hx rfl (hb hby d49_236) rfl rfl (XS.iconst X9.here hx rfl (hb hby d49_238) (XS.iload X9.here hx rfl (hb hby d49_239) rfl k)))))) ?_
  obtain ⟨T10, X10, e10, st10⟩ := own_cP X9 hx hZ hown (oH hw 158 rfl) (oH hw 159 rfl) (oH hw 131 rfl) (oH hw 160 rfl) (by decide) (rmz46 l Z a0 hw [] na7_0 ka7_0 z2_0 z2_1 na9_0 ka9_0 (0 : Int32) (0 : Int32) (0 : Int32) (0 : Int32) u8 zc fv T9.heap n0 Z9 c9_Vna7_0 g_na7_0 va9_0 g_na9_0 ne_na7_0_na9_0 c9_USS) (W := 0) (by decide) (by decide) (g := (mkF m 241 #[vR ob0, vR u8, vR ar2, vI 0, vI 2, vI 0, vR na7_0, vI 0, vR na9_0, oU, oU] [(.int 0), (.int 0), (.ref na9_0), (.int 0), (.ref na7_0)])) rfl (by rw [hml]; rfl) (argsL := [(.ref na7_0), (.int 0), (.ref na9_0), (.int 0), (.int 0)]) (rest := []) (lenOf pd_579 rfl) rfl rfl rfl (hb hby d49_241) rfl rfl (by decide) (by decide) (by decide : 2 ≤ _) (by decide : 6 ≤ _)
  refine oG m T10 255 #[vR ob0,vR u8,vR ar2,vI 0,vI 2,vI 0,vR na7_0,vI 0,vR na9_0,oU,oU] [(.int 1),(.int 0),(.ref na9_0),(.int 2),(.int 0),(.ref na7_0)] (fun _ k => st10 _ (XS.aload X10.here hx rfl (hb hby d49_244) rfl rfl (XS.iload X10.here hx rfl (hb hby d49_246) rfl (XS.iload X10.here hx rfl (hb hby d49_248) rfl (XS.aload X10.here hx rfl (hb hby d49_250) rfl rfl (XS.iload X10.here hx rfl (hb hby d49_252) rfl (XS.iconst X10.here hx rfl (hb hby d49_254) k))))))) ?_
  obtain ⟨v11, T11, Lc11, X11, hQ11, st11⟩ := own_cS X10 hx hZ hown (oH hw 171 rfl) (oH hw 172 rfl) (oH hw 54 rfl) (oH hw 173 rfl) (by decide) (rmz48 l Z a0 hw [] na7_0 ka7_0 z2_0 z2_1 na9_0 ka9_0 (0 : Int32) (0 : Int32) (0 : Int32) (0 : Int32) u8 zc fv T9.heap n0 Z9 c9_Vna7_0 g_na7_0 va9_0 g_na9_0 ne_na7_0_na9_0 c9_USS hq0 hq2 hq3 hq4) (W := 0) (by decide) (by decide) (g := (mkF m 255 #[vR ob0, vR u8, vR ar2, vI 0, vI 2, vI 0, vR na7_0, vI 0, vR na9_0, oU, oU] [(.int 1), (.int 0), (.ref na9_0), (.int 2), (.int 0), (.ref na7_0)])) rfl (by rw [hml]; rfl) (argsL := [(.ref na7_0), (.int 0), (.int 2), (.ref na9_0), (.int 0), (.int 1)]) (rest := []) (lenOf pd_653 rfl) rfl rfl rfl (hb hby d49_255) e10 rfl (by decide : 2 + 0 ≤ _) (by decide : 6 + 0 ≤ _)
  obtain ⟨rfl, Nq11, Kc11, wa11_0⟩ := hQ11
  have Kt11 := Kt9.trans Kc11 (fun x hx => by simp only [List.mem_cons, List.mem_singleton, List.not_mem_nil, or_false] at hx; rcases hx with rfl <;> first | (left; simp; done) | (right; assumption))
  have N11 := Fr.app N9 Nq11
  have Z11 : n0 ≤ T11.heap.size := Nat.le_trans Z9 Kc11.1
  have c11_Eob0 := c9_Eob0.keep Kc11
  have c11_Fob0_value := c9_Fob0_value.keep Kc11 (ninS ne_ob0_na9_0 nin0)
  have c11_Fob0_coder := c9_Fob0_coder.keep Kc11 (ninS ne_ob0_na9_0 nin0)
  have c11_Var2 := c9_Var2.keep Kc11 (ninS ne_ar2_na9_0 nin0)
  have c11_Ear2 := c9_Ear2.keep Kc11
  have c11_USS := c9_USS.keep Kc11 (own_nsS (own_nsA va9_0) own_ns0)
  have c11_Vna7_0 := c9_Vna7_0.keep Kc11 (ninS ne_na7_0_na9_0 nin0)
  refine oG m T11 273 #[vR ob0,vR u8,vR ar2,vI 0,vI 2,vI 1,vR na7_0,vI 0,vR na9_0,oU,oU] [(.int ((1 : Int32) <<< ((1 : Int32) &&& 31))),(.ref na9_0)] (fun _ k => st11 _ (XS.istore X11.here hx rfl (hb hby d49_258) rfl (l' := #[vR ob0,vR u8,vR ar2,vI 0,vI 2,vI 1,vR na7_0,vI 0,vR na9_0,oU,oU]) rfl (XS.iload X11.here hx rfl (hb hby d49_260) rfl (XS.iload X11.here hx rfl (hb hby d49_262) rfl (XS.icmpNo X11.here hx rfl (hb hby d49_264) rfl (feq (by decide)).1 (XS.aload X11.here hx rfl (hb hby d49_267) rfl rfl (XS.iload X11.here hx rfl (hb hby d49_269) rfl (XS.iconst X11.here hx rfl (hb hby d49_271) (XS.ishl X11.here hx rfl (hb hby d49_272) rfl k))))))))) ?_
  rw [show ((1 : Int32) <<< ((1 : Int32) &&& 31)) = (2 : Int32) from by decide]
  obtain ⟨v12, T12, Lc12, X12, hQ12, st12⟩ := own_cS X11 hx hZ hown (oH hw 201 rfl) (oH hw 202 rfl) (oH hw 88 rfl) (oH hw 203 rfl) (by decide) (rmz49 l Z a0 hw [] na9_0 ka9_0 (own_hi (own_d2 z2_0 z2_1)) (own_lo (own_d2 z2_0 z2_1)) (0 : Int32) (0 : Int32) u8 zc fv T11.heap n0 Z11 wa11_0 g_na9_0 c11_USS) (W := 0) (by decide) (by decide) (g := (mkF m 273 #[vR ob0, vR u8, vR ar2, vI 0, vI 2, vI 1, vR na7_0, vI 0, vR na9_0, oU, oU] [(.int 2), (.ref na9_0)])) rfl (by rw [hml]; rfl) (argsL := [(.ref na9_0), (.int 2)]) (rest := []) (lenOf pd_515 rfl) rfl rfl rfl (hb hby d49_273) rfl rfl (by decide : 2 + 1 ≤ _) (by decide : 6 + 2 ≤ _)
  obtain ⟨na12_0, ka12_0, rfl, Nq12, Kc12, sa12_0, va12_0⟩ := hQ12
  have Kt12 := Kt11.trans Kc12 (fun x hx => nomatch hx)
  have N12 := Fr.app N11 Nq12
  have Z12 : n0 ≤ T12.heap.size := Nat.le_trans Z11 Kc12.1
  have c12_Eob0 := c11_Eob0.keep Kc12
  have c12_Fob0_value := c11_Fob0_value.keep Kc12 nin0
  have c12_Fob0_coder := c11_Fob0_coder.keep Kc12 nin0
  have c12_Var2 := c11_Var2.keep Kc12 nin0
  have c12_Ear2 := c11_Ear2.keep Kc12
  have c12_USS := c11_USS.keep Kc12 own_ns0
  have c12_Vna7_0 := c11_Vna7_0.keep Kc12 nin0
  have c12_Vna9_0 := wa11_0.keep Kc12 nin0
  refine oG m T12 276 #[vR ob0,vR u8,vR ar2,vI 0,vI 2,vI 1,vR na7_0,vI 0,vR na9_0,oU,oU] [(.ref na12_0)] (fun _ k => st12 _ k) ?_
  have g_na12_0 : n0 ≤ na12_0 := Nat.le_trans Z11 sa12_0
  have sz_na12_0 : h0.size ≤ na12_0 := Nat.le_trans Kt11.1 sa12_0
  have ne_ob0_na12_0 : ob0 ≠ na12_0 := Nat.ne_of_lt (Nat.lt_of_lt_of_le c11_Eob0.lt sa12_0)
  have ne_ar2_na12_0 : ar2 ≠ na12_0 := Nat.ne_of_lt (Nat.lt_of_lt_of_le c11_Ear2.lt sa12_0)
  have ne_na7_0_na12_0 : na7_0 ≠ na12_0 := Nat.ne_of_lt (Nat.lt_of_lt_of_le c11_Vna7_0.lt sa12_0)
  have ne_na9_0_na12_0 : na9_0 ≠ na12_0 := Nat.ne_of_lt (Nat.lt_of_lt_of_le wa11_0.lt sa12_0)
  refine oG m T12 281 #[vR ob0,vR u8,vR ar2,vI 0,vI 2,vI 1,vR na7_0,vI 0,vR na12_0,oU,oU] [(.ref na12_0),(.ref ob0)] (fun _ k => XS.astore X12.here hx rfl (hb hby d49_276) rfl rfl (l' := #[vR ob0,vR u8,vR ar2,vI 0,vI 2,vI 1,vR na7_0,vI 0,vR na12_0,oU,oU]) rfl (XS.aloadN X12.here hx rfl (hb hby d49_278) rfl rfl (XS.aload X12.here hx rfl (hb hby d49_279) rfl rfl k))) ?_
  obtain ⟨T13, h13, X13, e13, W13, st13⟩ := putF X12 hx hZ hown (host := "") (Or.inl (oH hw 104 rfl)) Via.refl rfl c12_Fob0_value c12_Eob0 (Or.inr ⟨(oH hw 105 rfl), rfl, hnm⟩) (oH hw 53 rfl) (ty := (.array .byte)) (by decide) rfl rfl (g := (mkF m 281 #[vR ob0, vR u8, vR ar2, vI 0, vI 2, vI 1, vR na7_0, vI 0, vR na12_0, oU, oU] [(.ref na12_0), (.ref ob0)])) rfl rfl (hb hby d49_281)
  have c13_Eob0 := c12_Eob0.wr W13
  have c13_Fob0_value := c12_Fob0_value.same W13
  have c13_Fob0_coder := c12_Fob0_coder.other W13 (Or.inr (slot_ne (Or.inr (oH hw 107 rfl)) (Or.inr (oH hw 105 rfl)) (by decide) (by decide : parseFieldDescriptor "B" = some .byte) (by decide : parseFieldDescriptor "[B" = some (.array .byte))))
  have c13_Var2 := c12_Var2.other W13 (Ne.symm ne_ob0_ar2)
  have c13_Ear2 := c12_Ear2.wr W13
  have c13_USS := c12_USS.wr W13
  have c13_Vna7_0 := c12_Vna7_0.other W13 (Ne.symm ne_ob0_na7_0)
  have c13_Vna9_0 := c12_Vna9_0.other W13 (Ne.symm ne_ob0_na9_0)
  have c13_Vna12_0 := va12_0.other W13 (Ne.symm ne_ob0_na12_0)
  have K13 := Kt12.wr W13 (Or.inl (List.mem_of_getElem? (i := 0) rfl))
  have N13 := Fr.snoc X13 N12 g_ob0
  have Z13 : n0 ≤ h13.size := Nat.le_trans Z12 (Nat.le_of_eq W13.size.symm)
  refine oG m T13 286 #[vR ob0,vR u8,vR ar2,vI 0,vI 2,vI 1,vR na7_0,vI 0,vR na12_0,oU,oU] [(.int 1),(.ref ob0)] (fun _ k => st13 _ (XS.aloadN X13.here hx rfl (hb hby d49_284) rfl rfl (XS.iconst X13.here hx rfl (hb hby d49_285) k))) ?_
  obtain ⟨T14, h14, X14, e14, W14, st14⟩ := putFN X13 hx hZ hown (oH hw 106 rfl) Via.refl e13 c13_Fob0_coder c13_Eob0 (Or.inr ⟨(oH hw 107 rfl), rfl, hnm⟩) (oH hw 53 rfl) (ty := .byte) (v' := (.int 1)) (by decide) rfl (by first | exact fits_nar_byte _ | rfl | decide) (g := (mkF m 286 #[vR ob0, vR u8, vR ar2, vI 0, vI 2, vI 1, vR na7_0, vI 0, vR na12_0, oU, oU] [(.int 1), (.ref ob0)])) rfl rfl (hb hby d49_286)
  have c14_Eob0 := c13_Eob0.wr W14
  have c14_Fob0_value := c13_Fob0_value.other W14 (Or.inr (slot_ne (Or.inr (oH hw 105 rfl)) (Or.inr (oH hw 107 rfl)) (by decide) (by decide : parseFieldDescriptor "[B" = some (.array .byte)) (by decide : parseFieldDescriptor "B" = some .byte)))
  have c14_Fob0_coder := c13_Fob0_coder.same W14
  have c14_Var2 := c13_Var2.other W14 (Ne.symm ne_ob0_ar2)
  have c14_Ear2 := c13_Ear2.wr W14
  have c14_USS := c13_USS.wr W14
  have c14_Vna7_0 := c13_Vna7_0.other W14 (Ne.symm ne_ob0_na7_0)
  have c14_Vna9_0 := c13_Vna9_0.other W14 (Ne.symm ne_ob0_na9_0)
  have c14_Vna12_0 := c13_Vna12_0.other W14 (Ne.symm ne_ob0_na12_0)
  have K14 := K13.wr W14 (Or.inl (List.mem_of_getElem? (i := 0) rfl))
  have N14 := Fr.snoc X14 N13 g_ob0
  have Z14 : n0 ≤ h14.size := Nat.le_trans Z13 (Nat.le_of_eq W14.size.symm)
  refine oG m T14 879 #[vR ob0,vR u8,vR ar2,vI 0,vI 2,vI 1,vR na7_0,vI 0,vR na12_0,oU,oU] [] (fun _ k => st14 _ (XS.goto X14.here hx rfl (pc0 := 289) (pc' := 879) rfl (hb hby d49_289) (by decide) (by decide) k)) ?_
  refine own_ret0 X14 hx hlk Bd.returns (hb hby d49_879) (by decide) (by decide) ?_
  rw [e14]
  exact ⟨na12_0, ka12_0, (by first | rfl | decide), N14, K14, sz_na12_0, c14_Vna12_0, c14_Fob0_value, c14_Fob0_coder⟩
def Q_rmz51 (Z : State) (ob0 : Addr) (ar1 : Addr) (kr1 : ClassId) (z1_0 : Int32) (z1_1 : Int32) (z1_2 : Int32) (z1_3 : Int32) (u8 : Addr) (zc : Int32) (fv : Value) (h0 : Heap) (n0 : Nat) (v : Option Value) (h : Heap) (L : List Loc) : Prop := ∃ (NA0 : Addr) (KA0 : ClassId), v = none ∧ Fr n0 L ∧ Keep h0 h [ob0] ∧ h0.size ≤ NA0 ∧ Arv Z h NA0 KA0 .byte (2 : Int32) [(.int (own_hi (own_d2 z1_0 z1_1))), (.int (own_lo (own_d2 z1_0 z1_1)))] (.int 0) ∧ Fld Z h ob0 "java/lang/String" "value" "[B" (.ref NA0) ∧ Fld Z h ob0 "java/lang/String" "coder" "B" (.int 1)
theorem rmz51 (l : Launch) (Z : State) (a0 : Array Value) (hw : oW a0 Z) (ws : List Jvm.Cond) (ob0 : Addr) (ar1 : Addr) (kr1 : ClassId) (z1_0 : Int32) (z1_1 : Int32) (z1_2 : Int32) (z1_3 : Int32) (u8 : Addr) (zc : Int32) (fv : Value) (h0 : Heap) (n0 : Nat) (Z0 : n0 ≤ h0.size) (E_ob0 : Exa Z h0 ob0 "java/lang/String") (g_ob0 : n0 ≤ ob0) (F_ob0_value : Fld Z h0 ob0 "java/lang/String" "value" "[B" .null) (F_ob0_coder : Fld Z h0 ob0 "java/lang/String" "coder" "B" (.int 0)) (V_ar1 : Arv Z h0 ar1 kr1 .byte (4 : Int32) [(.int z1_0), (.int z1_1), (.int z1_2), (.int z1_3)] (.int 0)) (g_ar1 : n0 ≤ ar1) (E_ar1 : Exa Z h0 ar1 "[B") (ne_ob0_ar1 : ob0 ≠ ar1) (SS : own_Sx Z h0 u8 zc fv) (hq0 : z1_0 < (0 : Int32)) (hq1 : ¬ (z1_0 &&& (254 : Int32)) = (194 : Int32)) (hq2 : (z1_0 >>> ((5 : Int32) &&& 31)) = (-2 : Int32)) (hq3 : ¬ (z1_0 &&& (30 : Int32)) = (0 : Int32)) (hq4 : (own_nc_0 z1_1) = (0 : Int32)) : own_K l (⟨"java/lang/String", "<init>", "([BIILjava/nio/charset/Charset;)V"⟩ : MethodName) jdk_42_method_10_code 5 none ws ({ frames := 6, cells := 3, slots := 8, locals := 98 } : Room) Z h0 #[(.ref ob0), (.ref ar1), (.int 0), (.int 2), (.ref u8)] (Q_rmz51 Z ob0 ar1 kr1 z1_0 z1_1 z1_2 z1_3 u8 zc fv h0 n0) := by
  refine own_met (plainFor_of_name pn_22) ?_
  intro p e s m below meth c s₁ hx hby hlk hml hown hnm hrt hZ hh X0 e0
  have N0 := Fr.nil n0
  refine oG m s₁ 0 #[vR ob0,vR ar1,vI 0,vI 2,vR u8] [] (fun _ k => castTop (by first | (simp [entryFrame,mkF,argsToLocals,Value.category]; done) | rfl) k) ?_
  have K0 := Keep.refl h0 [ob0]
  refine oG m s₁ 3 #[vR ob0,vR ar1,vI 0,vI 2,vR u8] [(.ref u8),(.ref ob0)] (fun _ k => XS.aloadN X0.here hx rfl (hb hby d11_0) rfl rfl (XS.aload X0.here hx rfl (hb hby d11_1) rfl rfl k)) ?_
  obtain ⟨T1, X1, e1, st1⟩ := own_cP X0 hx hZ hown (oH hw 60 rfl) (oH hw 61 rfl) (oH hw 62 rfl) (oH hw 63 rfl) (by decide) (rmz8 l Z a0 hw []  u8 zc fv h0 n0 Z0  SS) (W := 1) (by decide) (by decide) (g := (mkF m 3 #[vR ob0, vR ar1, vI 0, vI 2, vR u8] [(.ref u8), (.ref ob0)])) rfl (by rw [hml]; rfl) (argsL := [(.ref u8)]) (rest := [(.ref ob0)]) (lenOf pd_180 rfl) rfl rfl rfl (hb hby d11_3) e0 rfl (by decide) (by decide) (by decide : 0 ≤ _) (by decide : 0 ≤ _)
  refine oG m T1 6 #[vR ob0,vR ar1,vI 0,vI 2,vR u8] [(.ref u8),(.ref ob0)] (fun _ k => st1 _ k) ?_
  obtain ⟨T2, X2, e2, st2⟩ := castY X1 hx hZ hown (oH hw 64 rfl) e1 (Ins.of_exa SS.eu (oH hw 65 rfl)) (g := (mkF m 6 #[vR ob0, vR ar1, vI 0, vI 2, vR u8] [(.ref u8), (.ref ob0)])) rfl rfl (hb hby d11_6)
  refine oG m T2 13 #[vR ob0,vR ar1,vI 0,vI 2,vR u8] [(.ref ar1),(.int 2),(.int 0),(.ref ar1),(.ref u8),(.ref ob0)] (fun _ k => st2 _ (XS.aloadN X2.here hx rfl (hb hby d11_9) rfl rfl (XS.iloadN X2.here hx rfl (hb hby d11_10) rfl (XS.iloadN X2.here hx rfl (hb hby d11_11) rfl (XS.aloadN X2.here hx rfl (hb hby d11_12) rfl rfl k))))) ?_
  obtain ⟨cl3, Ar3, -, S3, M3, -, -⟩ := id V_ar1
  have ql3 := len_of S3 M3
  refine own_go (S' := (T2.setTop (mkF m 14 #[vR ob0, vR ar1, vI 0, vI 2, vR u8] [(.int 4), (.int 2), (.int 0), (.ref ar1), (.ref u8), (.ref ob0)]))) (fun _ kont => X2.arraylength hx (by rw [e2]; exact Ar3.1) (State.isArrayOf_alike hZ.alike Ar3.2.1) (g := (mkF m 13 #[vR ob0, vR ar1, vI 0, vI 2, vR u8] [(.ref ar1), (.int 2), (.int 0), (.ref ar1), (.ref u8), (.ref ob0)])) rfl rfl (hb hby d11_13) _ (by rw [ql3]; exact kont)) ?_
  obtain ⟨T4, X4, e4, st4⟩ := own_cP X2 hx hZ hown (oH hw 66 rfl) (oH hw 67 rfl) (oH hw 54 rfl) (oH hw 68 rfl) (by decide) (rmz10 l Z a0 hw [] (0 : Int32) (2 : Int32) (4 : Int32) u8 zc fv h0 n0 Z0  SS (by decide) (by decide)) (W := 3) (by decide) (by decide) (g := (mkF m 14 #[vR ob0, vR ar1, vI 0, vI 2, vR u8] [(.int 4), (.int 2), (.int 0), (.ref ar1), (.ref u8), (.ref ob0)])) rfl (by rw [hml]; rfl) (argsL := [(.int 0), (.int 2), (.int 4)]) (rest := [(.ref ar1), (.ref u8), (.ref ob0)]) (lenOf pd_209 rfl) rfl rfl rfl (hb hby d11_14) e2 rfl (by decide) (by decide) (by decide : 0 ≤ _) (by decide : 0 ≤ _)
  refine oG m T4 18 #[vR ob0,vR ar1,vI 0,vI 2,vR u8] [(.int 2),(.int 0),(.ref ar1),(.ref u8),(.ref ob0)] (fun _ k => st4 _ (XS.iloadN X4.here hx rfl (hb hby d11_17) rfl k)) ?_
  obtain ⟨v5, _, ⟨T5, L5, k5, n5⟩, -, X5, ⟨Lc5, hQ5, l5, y5, z5⟩, st5⟩ := X4.specialBackH hx (y := (⟨"java/lang/String", "<init>", "(Ljava/nio/charset/Charset;[BII)V"⟩ : MethodName)) rfl hown (mvT hZ (oH hw 74 rfl)) (mvT hZ (oH hw 75 rfl)) (mvT hZ (oH hw 77 rfl)) (by decide) (backOfWith (W := 0) (rmz50 l Z a0 hw [] ob0 ar1 kr1 z1_0 z1_1 z1_2 z1_3 u8 zc fv h0 n0 Z0 E_ob0 g_ob0 F_ob0_value F_ob0_coder V_ar1 g_ar1 E_ar1 ne_ob0_ar1 SS hq0 hq1 hq2 hq3 hq4) hZ (oH hw 77 rfl) (oH hw 54 rfl) (by decide) (by decide)) (g := (mkF m 18 #[vR ob0, vR ar1, vI 0, vI 2, vR u8] [(.int 2), (.int 0), (.ref ar1), (.ref u8), (.ref ob0)])) rfl (by rw [hml]; rfl) (Steps.refl _) (a := ob0) (argsL := [(.ref u8), (.ref ar1), (.int 0), (.int 2)]) (rest := []) (lenOf pd_307 rfl) rfl (by show 2 * 0 + _ ≤ _; exact Nat.le_of_eq rfl) (hb hby d11_18) (fun _ _ => ⟨rfl, e4, (by decide : 0 + 3 ≤ _), (by decide : 0 + 8 ≤ _)⟩)
  dsimp only [Pt.U, Pt.locs, Pt.cells, Pt.slots] at X5 l5 y5 z5 st5 hQ5
  subst l5 y5 z5
  obtain ⟨na5_0, ka5_0, rfl, Nq5, Kc5, sa5_0, va5_0, wo5_0_value, wo5_0_coder⟩ := hQ5
  have Kt5 := K0.trans Kc5 (fun x hx => by simp only [List.mem_cons, List.mem_singleton, List.not_mem_nil, or_false] at hx; rcases hx with rfl <;> first | (left; simp; done) | (right; assumption))
  have N5 := Fr.app N0 Nq5
  have Z5 : n0 ≤ T5.heap.size := Nat.le_trans Z0 Kc5.1
  have c5_Eob0 := E_ob0.keep Kc5
  have c5_Var1 := V_ar1.keep Kc5 (ninS (Ne.symm ne_ob0_ar1) nin0)
  have c5_Ear1 := E_ar1.keep Kc5
  have c5_USS := SS.keep Kc5 (own_nsS (own_nsE E_ob0) own_ns0)
  refine oG m T5 21 #[vR ob0,vR ar1,vI 0,vI 2,vR u8] [] (fun _ k => st5.trans k) ?_
  have g_na5_0 : n0 ≤ na5_0 := Nat.le_trans Z0 sa5_0
  have sz_na5_0 : h0.size ≤ na5_0 := Nat.le_trans K0.1 sa5_0
  have ne_ob0_na5_0 : ob0 ≠ na5_0 := Nat.ne_of_lt (Nat.lt_of_lt_of_le E_ob0.lt sa5_0)
  have ne_ar1_na5_0 : ar1 ≠ na5_0 := Nat.ne_of_lt (Nat.lt_of_lt_of_le E_ar1.lt sa5_0)
  refine own_ret0 X5 hx hlk hrt (hb hby d11_21) (by decide) (by decide) ?_
  exact ⟨na5_0, ka5_0, (by first | rfl | decide), N5, Kt5, sz_na5_0, va5_0, wo5_0_value, wo5_0_coder⟩
def Q_rmz52 (Z : State) (ob0 : Addr) (ar0b : Addr) (kr0b : ClassId) (z0b_0 : Int32) (z0b_1 : Int32) (z0b_2 : Int32) (z0b_3 : Int32) (u8 : Addr) (zc : Int32) (fv : Value) (h0 : Heap) (n0 : Nat) (v : Option Value) (h : Heap) (L : List Loc) : Prop := ∃ (NA0 : Addr) (KA0 : ClassId), ∃ NO0 : Addr, v = some (.ref NO0) ∧ Fr n0 L ∧ Keep h0 h [] ∧ h0.size ≤ NA0 ∧ Arv Z h NA0 KA0 .byte (2 : Int32) [(.int (own_hi (own_d2 z0b_0 z0b_1))), (.int (own_lo (own_d2 z0b_0 z0b_1)))] (.int 0) ∧ h0.size ≤ NO0 ∧ Exa Z h NO0 "java/lang/String" ∧ Fld Z h NO0 "java/lang/String" "value" "[B" (.ref NA0) ∧ Fld Z h NO0 "java/lang/String" "coder" "B" (.int 1)
theorem rmz52 (l : Launch) (Z : State) (a0 : Array Value) (hw : oW a0 Z) (ws : List Jvm.Cond) (ob0 : Addr) (ar0b : Addr) (kr0b : ClassId) (z0b_0 : Int32) (z0b_1 : Int32) (z0b_2 : Int32) (z0b_3 : Int32) (u8 : Addr) (zc : Int32) (fv : Value) (h0 : Heap) (n0 : Nat) (Z0 : n0 ≤ h0.size) (E_ob0 : Exa Z h0 ob0 "clearcut/Text") (g_ob0 : n0 ≤ ob0) (V_ar0b : Arv Z h0 ar0b kr0b .byte (4 : Int32) [(.int z0b_0), (.int z0b_1), (.int z0b_2), (.int z0b_3)] (.int 0)) (g_ar0b : n0 ≤ ar0b) (E_ar0b : Exa Z h0 ar0b "[B") (F_ob0_bytes : Fld Z h0 ob0 "clearcut/Text" "bytes" "[B" (.ref ar0b)) (ne_ob0_ar0b : ob0 ≠ ar0b) (SS : own_Sx Z h0 u8 zc fv) (hq0 : z0b_0 < (0 : Int32)) (hq1 : ¬ (z0b_0 &&& (254 : Int32)) = (194 : Int32)) (hq2 : (z0b_0 >>> ((5 : Int32) &&& 31)) = (-2 : Int32)) (hq3 : ¬ (z0b_0 &&& (30 : Int32)) = (0 : Int32)) (hq4 : (own_nc_0 z0b_1) = (0 : Int32)) : own_K l (⟨"clearcut/Text", "decode", "(II)Ljava/lang/String;"⟩ : MethodName) prog_60_method_17_code 3 (some (.object "java/lang/String")) ws ({ frames := 7, cells := 4, slots := 12, locals := 115 } : Room) Z h0 #[(.ref ob0), (.int 0), (.int 2)] (Q_rmz52 Z ob0 ar0b kr0b z0b_0 z0b_1 z0b_2 z0b_3 u8 zc fv h0 n0) := by
  refine own_met (plainFor_of_name pn_78) ?_
  intro p e s m below meth c s₁ hx hby hlk hml hown hnm hrt hZ hh X0 e0
  have N0 := Fr.nil n0
  refine oG m s₁ 0 #[vR ob0,vI 0,vI 2] [] (fun _ k => castTop (by first | (simp [entryFrame,mkF,argsToLocals,Value.category]; done) | rfl) k) ?_
  have K0 := Keep.refl h0 []
  obtain ⟨T1, h1, X1, e1, E1, A1, D1, -, st1⟩ := newO X0 hx hZ hown (oH hw 52 rfl) (oH hw 53 rfl) (oH hw 54 rfl) e0 (g := (mkF m 0 #[vR ob0, vI 0, vI 2] [])) rfl (hb hby d10_0) (by decide) (by decide)
  obtain ⟨b1, gz1⟩ : ∃ z, z = h0.size := ⟨_, rfl⟩
  rw [← gz1] at A1 D1 st1
  have sz_b1 : h0.size ≤ b1 := Nat.le_trans K0.1 (Nat.le_of_eq gz1.symm)
  have ne_ob0_b1 : ob0 ≠ b1 := Nat.ne_of_lt (by rw [gz1]; exact E_ob0.lt)
  have ne_ar0b_b1 : ar0b ≠ b1 := Nat.ne_of_lt (by rw [gz1]; exact V_ar0b.lt)
  have c1_Eob0 := E_ob0.ext E1
  have c1_Var0b := V_ar0b.ext E1
  have c1_Ear0b := E_ar0b.ext E1
  have c1_Fob0_bytes := F_ob0_bytes.ext E1
  have c1_USS := SS.ext E1
  have K1 := K0.ext E1
  have g_b1 : n0 ≤ b1 := Nat.le_trans Z0 (Nat.le_of_eq gz1.symm)
  have F1_value : Fld Z h1 b1 "java/lang/String" "value" "[B" .null := D1 (Or.inr (oH hw 105 rfl)) (ty := (.array .byte)) (by decide)
  have F1_coder : Fld Z h1 b1 "java/lang/String" "coder" "B" (.int 0) := D1 (Or.inr (oH hw 107 rfl)) (ty := .byte) (by decide)
  have Z1 : n0 ≤ h1.size := Nat.le_trans Z0 E1.1
  refine oG m T1 5 #[vR ob0,vI 0,vI 2] [(.ref ob0),(.ref b1),(.ref b1)] (fun _ k => st1 _ (XS.dup X1.here hx rfl (hb hby d10_3) rfl rfl (XS.aloadN X1.here hx rfl (hb hby d10_4) rfl rfl k))) ?_
  obtain ⟨T2, X2, e2, st2⟩ := getF X1 hx hZ hown (host := "") (Or.inl (oH hw 20 rfl)) Via.refl e1 c1_Fob0_bytes (g := (mkF m 5 #[vR ob0, vI 0, vI 2] [(.ref ob0), (.ref b1), (.ref b1)])) rfl rfl (hb hby d10_5)
  refine oG m T2 12 #[vR ob0,vI 0,vI 2] [(.int ((2 : Int32) - (0 : Int32))),(.int 0),(.ref ar0b),(.ref b1),(.ref b1)] (fun _ k => st2 _ (XS.iloadN X2.here hx rfl (hb hby d10_8) rfl (XS.iloadN X2.here hx rfl (hb hby d10_9) rfl (XS.iloadN X2.here hx rfl (hb hby d10_10) rfl (XS.isub X2.here hx rfl (hb hby d10_11) rfl k))))) ?_
  rw [show ((2 : Int32) - (0 : Int32)) = (2 : Int32) from by decide]
  have Sg3 := c1_USS.sU
  obtain ⟨T4, X4, e4, st4⟩ := getS2 X2 hx hZ hown (host := "") (Or.inl (oH hw 55 rfl)) Via.refl e2 Sg3 (g := (mkF m 12 #[vR ob0, vI 0, vI 2] [(.int 2), (.int 0), (.ref ar0b), (.ref b1), (.ref b1)])) rfl (hb hby d10_12)
  refine oG m T4 15 #[vR ob0,vI 0,vI 2] [(.ref u8),(.int 2),(.int 0),(.ref ar0b),(.ref b1),(.ref b1)] (fun _ k => st4 _ k) ?_
  obtain ⟨v5, _, ⟨T5, L5, k5, n5⟩, -, X5, ⟨Lc5, hQ5, l5, y5, z5⟩, st5⟩ := X4.specialBack hx (y := (⟨"java/lang/String", "<init>", "([BIILjava/nio/charset/Charset;)V"⟩ : MethodName)) rfl hown (mvT hZ (oH hw 57 rfl)) (mvT hZ (oH hw 58 rfl)) (mvT hZ (oH hw 59 rfl)) (by decide) (backOf (W := 1) (rmz51 l Z a0 hw [] b1 ar0b kr0b z0b_0 z0b_1 z0b_2 z0b_3 u8 zc fv h1 n0 Z1 A1 g_b1 F1_value F1_coder c1_Var0b g_ar0b c1_Ear0b (Ne.symm ne_ar0b_b1) c1_USS hq0 hq1 hq2 hq3 hq4) hZ (oH hw 59 rfl) (oH hw 54 rfl) (by decide) (by decide)) (g := (mkF m 15 #[vR ob0, vI 0, vI 2] [(.ref u8), (.int 2), (.int 0), (.ref ar0b), (.ref b1), (.ref b1)])) rfl (by rw [hml]; rfl) (Steps.refl _) (a := b1) (argsL := [(.ref ar0b), (.int 0), (.int 2), (.ref u8)]) (rest := [(.ref b1)]) (lenOf pd_310 rfl) rfl (by show 2 * 0 + _ ≤ _; exact Nat.le_of_eq rfl) (hb hby d10_15) (fun _ _ => ⟨rfl, e4, (by decide : 1 + 3 ≤ _), (by decide : 4 + 8 ≤ _)⟩)
  dsimp only [Pt.U, Pt.locs, Pt.cells, Pt.slots] at X5 l5 y5 z5 st5 hQ5
  subst l5 y5 z5
  obtain ⟨na5_0, ka5_0, rfl, Nq5, Kc5, sa5_0, va5_0, wo5_0_value, wo5_0_coder⟩ := hQ5
  have Kt5 := K1.trans Kc5 (fun x hx => by simp only [List.mem_cons, List.mem_singleton, List.not_mem_nil, or_false] at hx; rcases hx with rfl <;> first | (left; simp; done) | (right; assumption))
  have N5 := Fr.app N0 Nq5
  have Z5 : n0 ≤ T5.heap.size := Nat.le_trans Z1 Kc5.1
  have c5_Eob0 := c1_Eob0.keep Kc5
  have c5_Var0b := c1_Var0b.keep Kc5 (ninS ne_ar0b_b1 nin0)
  have c5_Ear0b := c1_Ear0b.keep Kc5
  have c5_Fob0_bytes := c1_Fob0_bytes.keep Kc5 (ninS ne_ob0_b1 nin0)
  have c5_USS := c1_USS.keep Kc5 (own_nsS (own_nsE A1) own_ns0)
  have c5_Eb1 := A1.keep Kc5
  refine oG m T5 18 #[vR ob0,vI 0,vI 2] [(.ref b1)] (fun _ k => st5.trans k) ?_
  have g_na5_0 : n0 ≤ na5_0 := Nat.le_trans Z1 sa5_0
  have sz_na5_0 : h0.size ≤ na5_0 := Nat.le_trans K1.1 sa5_0
  have ne_ob0_na5_0 : ob0 ≠ na5_0 := Nat.ne_of_lt (Nat.lt_of_lt_of_le c1_Eob0.lt sa5_0)
  have ne_ar0b_na5_0 : ar0b ≠ na5_0 := Nat.ne_of_lt (Nat.lt_of_lt_of_le c1_Ear0b.lt sa5_0)
  have ne_b1_na5_0 : b1 ≠ na5_0 := Nat.ne_of_lt (Nat.lt_of_lt_of_le A1.lt sa5_0)
  refine own_retA X5 hx hlk (rfl) rfl hrt (hb hby d10_18) (by decide) (by decide) ?_
  exact ⟨na5_0, ka5_0, b1, (by first | rfl | decide), N5, Kt5, sz_na5_0, va5_0, sz_b1, c5_Eb1, wo5_0_value, wo5_0_coder⟩
def Q_rmz53 (Z : State) (ob0 : Addr) (ar0b : Addr) (kr0b : ClassId) (z0b_0 : Int32) (z0b_1 : Int32) (z0b_2 : Int32) (z0b_3 : Int32) (u8 : Addr) (zc : Int32) (fv : Value) (h0 : Heap) (n0 : Nat) (v : Option Value) (h : Heap) (L : List Loc) : Prop := ∃ (NA0 : Addr) (KA0 : ClassId), ∃ NO0 : Addr, v = some (.ref NO0) ∧ Fr n0 L ∧ Keep h0 h [] ∧ h0.size ≤ NA0 ∧ Arv Z h NA0 KA0 .byte (2 : Int32) [(.int (own_hi (own_d2 z0b_0 z0b_1))), (.int (own_lo (own_d2 z0b_0 z0b_1)))] (.int 0) ∧ h0.size ≤ NO0 ∧ Exa Z h NO0 "java/lang/String" ∧ Fld Z h NO0 "java/lang/String" "value" "[B" (.ref NA0) ∧ Fld Z h NO0 "java/lang/String" "coder" "B" (.int 1)
theorem rmz53 (l : Launch) (Z : State) (a0 : Array Value) (hw : oW a0 Z) (ws : List Jvm.Cond) (ob0 : Addr) (ar0b : Addr) (kr0b : ClassId) (z0b_0 : Int32) (z0b_1 : Int32) (z0b_2 : Int32) (z0b_3 : Int32) (u8 : Addr) (zc : Int32) (fv : Value) (h0 : Heap) (n0 : Nat) (Z0 : n0 ≤ h0.size) (E_ob0 : Exa Z h0 ob0 "clearcut/Text") (g_ob0 : n0 ≤ ob0) (V_ar0b : Arv Z h0 ar0b kr0b .byte (4 : Int32) [(.int z0b_0), (.int z0b_1), (.int z0b_2), (.int z0b_3)] (.int 0)) (g_ar0b : n0 ≤ ar0b) (E_ar0b : Exa Z h0 ar0b "[B") (F_ob0_bytes : Fld Z h0 ob0 "clearcut/Text" "bytes" "[B" (.ref ar0b)) (ne_ob0_ar0b : ob0 ≠ ar0b) (SS : own_Sx Z h0 u8 zc fv) (hq0 : z0b_0 < (0 : Int32)) (hq1 : ¬ (z0b_0 &&& (254 : Int32)) = (194 : Int32)) (hq2 : (z0b_0 >>> ((5 : Int32) &&& 31)) = (-2 : Int32)) (hq3 : ¬ (z0b_0 &&& (30 : Int32)) = (0 : Int32)) (hq4 : (own_nc_0 z0b_1) = (0 : Int32)) : own_K l (⟨"clearcut/Text", "substring", "(II)Ljava/lang/String;"⟩ : MethodName) prog_60_method_13_code 4 (some (.object "java/lang/String")) ws ({ frames := 8, cells := 4, slots := 12, locals := 129 } : Room) Z h0 #[(.ref ob0), (.int 0), (.int 2)] (Q_rmz53 Z ob0 ar0b kr0b z0b_0 z0b_1 z0b_2 z0b_3 u8 zc fv h0 n0) := by
  refine own_met (plainFor_of_name pn_78) ?_
  intro p e s m below meth c s₁ hx hby hlk hml hown hnm hrt hZ hh X0 e0
  have N0 := Fr.nil n0
  refine oG m s₁ 0 #[vR ob0,vI 0,vI 2,oU] [] (fun _ k => castTop (by first | (simp [entryFrame,mkF,argsToLocals,Value.category]; done) | rfl) k) ?_
  have K0 := Keep.refl h0 []
  refine oG m s₁ 3 #[vR ob0,vI 0,vI 2,oU] [(.int ((2 : Int32) - (0 : Int32)))] (fun _ k => XS.iloadN X0.here hx rfl (hb hby d9_0) rfl (XS.iloadN X0.here hx rfl (hb hby d9_1) rfl (XS.isub X0.here hx rfl (hb hby d9_2) rfl k))) ?_
  rw [show ((2 : Int32) - (0 : Int32)) = (2 : Int32) from by decide]
  refine oG m s₁ 11 #[vR ob0,vI 0,vI 2,oU] [(.int 2),(.int 0),(.ref ob0)] (fun _ k => (X0.ldcInt hx hown (mvT hZ (oH hw 47 rfl)) (g := (mkF m 3 #[vR ob0,vI 0,vI 2,oU] [(.int 2)])) rfl (hb hby d9_3)) _ (XS.icmpNo X0.here hx rfl (hb hby d9_5) rfl (flt (by decide)).2.2.1 (XS.aloadN X0.here hx rfl (hb hby d9_8) rfl rfl (XS.iloadN X0.here hx rfl (hb hby d9_9) rfl (XS.iloadN X0.here hx rfl (hb hby d9_10) rfl k))))) ?_
  obtain ⟨cq1, qp1, qp1'⟩ := E_ob0.cell
  obtain ⟨v1, _, ⟨T1, L1, k1, n1⟩, -, X1, ⟨Lc1, hQ1, l1, y1, z1⟩, st1⟩ := X0.privateBack hx (y := (⟨"clearcut/Text", "decode", "(II)Ljava/lang/String;"⟩ : MethodName)) hown (mvT hZ (oH hw 48 rfl)) (mvT hZ (oH hw 49 rfl)) (own_selP (args := #[]) (mvT hZ (oH hw 13 rfl)) (mvP hZ (oH hw 50 rfl)) (mvT hZ (oH hw 49 rfl)) (by decide)) (Cond.privateMethod_at (mvP hZ (oH hw 50 rfl) (args := #[]))) (mvT hZ (oH hw 51 rfl)) (by decide) (backOf (W := 0) (rmz52 l Z a0 hw [] ob0 ar0b kr0b z0b_0 z0b_1 z0b_2 z0b_3 u8 zc fv h0 n0 Z0 E_ob0 g_ob0 V_ar0b g_ar0b E_ar0b F_ob0_bytes ne_ob0_ar0b SS hq0 hq1 hq2 hq3 hq4) hZ (oH hw 51 rfl) (oH hw 5 rfl) (by decide) (by decide)) (g := (mkF m 11 #[vR ob0, vI 0, vI 2, oU] [(.int 2), (.int 0), (.ref ob0)])) rfl (by rw [hml]; rfl) (Steps.refl _) (a := ob0) (by rw [e0]; exact qp1) qp1' (argsL := [(.int 0), (.int 2)]) (rest := []) (lenOf pd_313 rfl) rfl (by show 2 * 0 + _ ≤ _; exact Nat.le_of_eq rfl) (hb hby d9_11) (fun _ _ => ⟨rfl, e0, (by decide : 0 + 4 ≤ _), (by decide : 0 + 12 ≤ _)⟩)
  dsimp only [Pt.U, Pt.locs, Pt.cells, Pt.slots] at X1 l1 y1 z1 st1 hQ1
  subst l1 y1 z1
  obtain ⟨na1_0, ka1_0, no1_0, rfl, Nq1, Kc1, sa1_0, va1_0, so1_0, eo1_0, fo1_0_value, fo1_0_coder⟩ := hQ1
  have Kt1 := K0.trans Kc1 (fun x hx => nomatch hx)
  have N1 := Fr.app N0 Nq1
  have Z1 : n0 ≤ T1.heap.size := Nat.le_trans Z0 Kc1.1
  have c1_Eob0 := E_ob0.keep Kc1
  have c1_Var0b := V_ar0b.keep Kc1 nin0
  have c1_Ear0b := E_ar0b.keep Kc1
  have c1_Fob0_bytes := F_ob0_bytes.keep Kc1 nin0
  have c1_USS := SS.keep Kc1 own_ns0
  refine oG m T1 14 #[vR ob0,vI 0,vI 2,oU] [(.ref no1_0)] (fun _ k => st1.trans k) ?_
  have g_na1_0 : n0 ≤ na1_0 := Nat.le_trans Z0 sa1_0
  have sz_na1_0 : h0.size ≤ na1_0 := Nat.le_trans K0.1 sa1_0
  have ne_ob0_na1_0 : ob0 ≠ na1_0 := Nat.ne_of_lt (Nat.lt_of_lt_of_le E_ob0.lt sa1_0)
  have ne_ar0b_na1_0 : ar0b ≠ na1_0 := Nat.ne_of_lt (Nat.lt_of_lt_of_le E_ar0b.lt sa1_0)
  have g_no1_0 : n0 ≤ no1_0 := Nat.le_trans Z0 so1_0
  have sz_no1_0 : h0.size ≤ no1_0 := Nat.le_trans K0.1 so1_0
  have ne_ob0_no1_0 : ob0 ≠ no1_0 := Nat.ne_of_lt (Nat.lt_of_lt_of_le E_ob0.lt so1_0)
  have ne_ar0b_no1_0 : ar0b ≠ no1_0 := Nat.ne_of_lt (Nat.lt_of_lt_of_le E_ar0b.lt so1_0)
  refine own_retA X1 hx hlk (rfl) rfl hrt (hb hby d9_14) (by decide) (by decide) ?_
  exact ⟨na1_0, ka1_0, no1_0, (by first | rfl | decide), N1, Kt1, sz_na1_0, va1_0, sz_no1_0, eo1_0, fo1_0_value, fo1_0_coder⟩
theorem rmz54 (l : Launch) (Z : State) (a0 : Array Value) (hw : oW a0 Z) (ws : List Jvm.Cond) (ob0 : Addr) (ar0v : Addr) (kr0v : ClassId) (z0v_0 : Int32) (z0v_1 : Int32) (u8 : Addr) (zc : Int32) (fv : Value) (h0 : Heap) (n0 : Nat) (Z0 : n0 ≤ h0.size) (E_ob0 : Exa Z h0 ob0 "java/lang/String") (g_ob0 : n0 ≤ ob0) (V_ar0v : Arv Z h0 ar0v kr0v .byte (2 : Int32) [(.int z0v_0), (.int z0v_1)] (.int 0)) (g_ar0v : n0 ≤ ar0v) (F_ob0_value : Fld Z h0 ob0 "java/lang/String" "value" "[B" (.ref ar0v)) (F_ob0_coder : Fld Z h0 ob0 "java/lang/String" "coder" "B" (.int 1)) (ne_ob0_ar0v : ob0 ≠ ar0v) (SS : own_Sx Z h0 u8 zc fv)  : own_K l (⟨"java/lang/String", "coder", "()B"⟩ : MethodName) jdk_42_method_152_code 1 (some .byte) ws ({ frames := 0, cells := 0, slots := 0, locals := 0 } : Room) Z h0 #[(.ref ob0)] (own_QP h0 (some (.int 1))) := by
  refine own_met (plainFor_of_name pn_22) ?_
  intro p e s m below meth c s₁ hx hby hlk hml hown hnm hrt hZ hh X0 e0
  have N0 := Fr.nil n0
  refine oG m s₁ 0 #[vR ob0] [] (fun _ k => castTop (by first | (simp [entryFrame,mkF,argsToLocals,Value.category]; done) | rfl) k) ?_
  have K0 := Keep.refl h0 []
  have Sg1 := SS.sC
  obtain ⟨T2, X2, e2, st2⟩ := getS2 X0 hx hZ hown (host := "") (Or.inl (oH hw 81 rfl)) Via.refl e0 Sg1 (g := (mkF m 0 #[vR ob0] [])) rfl (hb hby d21_0)
  refine oG m T2 7 #[vR ob0] [(.ref ob0)] (fun _ k => st2 _ (XS.ifNo X2.here hx rfl (hb hby d21_3) rfl ((if0 _ _).trans (feq SS.nz).1) (XS.aloadN X2.here hx rfl (hb hby d21_6) rfl rfl k))) ?_
  obtain ⟨T3, X3, e3, st3⟩ := getF X2 hx hZ hown (host := "") (Or.inl (oH hw 106 rfl)) Via.refl e2 F_ob0_coder (g := (mkF m 7 #[vR ob0] [(.ref ob0)])) rfl rfl (hb hby d21_7)
  refine oG m T3 14 #[vR ob0] [(.int 1)] (fun _ k => st3 _ (XS.goto X3.here hx rfl (pc0 := 10) (pc' := 14) rfl (hb hby d21_10) (by decide) (by decide) k)) ?_
  refine own_retN (t := .byte) X3 hx hlk (by simp) hrt (hb hby d21_14) (by decide) (by decide) ?_
  exact ⟨by first | rfl | decide, e3, rfl⟩
theorem rmz55 (l : Launch) (Z : State) (a0 : Array Value) (hw : oW a0 Z) (ws : List Jvm.Cond) (ob0 : Addr) (ar0v : Addr) (kr0v : ClassId) (z0v_0 : Int32) (z0v_1 : Int32) (u8 : Addr) (zc : Int32) (fv : Value) (h0 : Heap) (n0 : Nat) (Z0 : n0 ≤ h0.size) (E_ob0 : Exa Z h0 ob0 "java/lang/String") (g_ob0 : n0 ≤ ob0) (V_ar0v : Arv Z h0 ar0v kr0v .byte (2 : Int32) [(.int z0v_0), (.int z0v_1)] (.int 0)) (g_ar0v : n0 ≤ ar0v) (F_ob0_value : Fld Z h0 ob0 "java/lang/String" "value" "[B" (.ref ar0v)) (F_ob0_coder : Fld Z h0 ob0 "java/lang/String" "coder" "B" (.int 1)) (ne_ob0_ar0v : ob0 ≠ ar0v) (SS : own_Sx Z h0 u8 zc fv)  : own_K l (⟨"java/lang/String", "length", "()I"⟩ : MethodName) jdk_42_method_54_code 1 (some .int) ws ({ frames := 1, cells := 0, slots := 0, locals := 13 } : Room) Z h0 #[(.ref ob0)] (own_QP h0 (some (.int 1))) := by
  refine own_met (plainFor_of_name pn_22) ?_
  intro p e s m below meth c s₁ hx hby hlk hml hown hnm hrt hZ hh X0 e0
  have N0 := Fr.nil n0
  refine oG m s₁ 0 #[vR ob0] [] (fun _ k => castTop (by first | (simp [entryFrame,mkF,argsToLocals,Value.category]; done) | rfl) k) ?_
  have K0 := Keep.refl h0 []
  refine oG m s₁ 1 #[vR ob0] [(.ref ob0)] (fun _ k => XS.aloadN X0.here hx rfl (hb hby d20_0) rfl rfl k) ?_
  obtain ⟨T1, X1, e1, st1⟩ := getF X0 hx hZ hown (host := "") (Or.inl (oH hw 104 rfl)) Via.refl e0 F_ob0_value (g := (mkF m 1 #[vR ob0] [(.ref ob0)])) rfl rfl (hb hby d20_1)
  refine oG m T1 4 #[vR ob0] [(.ref ar0v)] (fun _ k => st1 _ k) ?_
  obtain ⟨cl2, Ar2, -, S2, M2, -, -⟩ := id V_ar0v
  have ql2 := len_of S2 M2
  refine own_go (S' := (T1.setTop (mkF m 5 #[vR ob0] [(.int 2)]))) (fun _ kont => X1.arraylength hx (by rw [e1]; exact Ar2.1) (State.isArrayOf_alike hZ.alike Ar2.2.1) (g := (mkF m 4 #[vR ob0] [(.ref ar0v)])) rfl rfl (hb hby d20_4) _ (by rw [ql2]; exact kont)) ?_
  refine oG m T1 6 #[vR ob0] [(.ref ob0),(.int 2)] (fun _ k => XS.aloadN X1.here hx rfl (hb hby d20_5) rfl rfl k) ?_
  obtain ⟨cq3, kq3, q3a, q3b, q3c⟩ := isOf hZ e1 E_ob0
  obtain ⟨v3, _, ⟨T3, L3, k3, n3⟩, -, X3, ⟨Lc3, hQ3, l3, y3, z3⟩, st3⟩ := X1.virtualBack hx (y := (⟨"java/lang/String", "coder", "()B"⟩ : MethodName)) (z := (⟨"java/lang/String", "coder", "()B"⟩ : MethodName)) hown (mvT hZ (oH hw 114 rfl)) (mvT hZ (oH hw 115 rfl)) (notFace_of_selects (args := #[]) (mvT hZ (oH hw 117 rfl))) (mvT hZ (oH hw 117 rfl)) (mvT hZ (oH hw 116 rfl)) (by decide) (backOf (W := 1) (rmz54 l Z a0 hw [] ob0 ar0v kr0v z0v_0 z0v_1 u8 zc fv h0 n0 Z0 E_ob0 g_ob0 V_ar0v g_ar0v F_ob0_value F_ob0_coder ne_ob0_ar0v SS) hZ (oH hw 118 rfl) (oH hw 54 rfl) (by decide) (by decide)) q3a q3c (g := (mkF m 6 #[vR ob0] [(.ref ob0), (.int 2)])) rfl (by rw [hml]; rfl) (Steps.refl _) (argsL := []) (rest := [(.int 2)]) (lenOf pd_326 rfl) rfl (by show 2 * 0 + _ ≤ _; exact Nat.le_of_eq rfl) (hb hby d20_6) (fun _ _ => ⟨rfl, e1, (by decide : 0 + 0 ≤ _), (by decide : 0 + 0 ≤ _)⟩)
  dsimp only [Pt.U, Pt.locs, Pt.cells, Pt.slots] at X3 l3 y3 z3 st3 hQ3
  subst l3 y3 z3
  obtain ⟨rfl, eh3, rfl⟩ := hQ3
  have N3 := Fr.app N0 (Fr.nil n0)
  refine oG m T3 10 #[vR ob0] [(.int ((2 : Int32) >>> ((1 : Int32) &&& 31)))] (fun _ k => st3.trans (XS.ishr X3.here hx rfl (hb hby d20_9) rfl k)) ?_
  rw [show ((2 : Int32) >>> ((1 : Int32) &&& 31)) = (1 : Int32) from by decide]
  refine own_retI X3 hx hlk hrt (hb hby d20_10) (by decide) (by decide) ?_
  exact ⟨by first | rfl | decide, eh3, rfl⟩
theorem d23_17 : decode C23 17 = .ok (.iconst 0, 1) := by decide +kernel
theorem rmz56 (l : Launch) (Z : State) (a0 : Array Value) (hw : oW a0 Z) (ws : List Jvm.Cond) (ob0 : Addr) (ar0v : Addr) (kr0v : ClassId) (z0v_0 : Int32) (z0v_1 : Int32) (u8 : Addr) (zc : Int32) (fv : Value) (h0 : Heap) (n0 : Nat) (Z0 : n0 ≤ h0.size) (E_ob0 : Exa Z h0 ob0 "java/lang/String") (g_ob0 : n0 ≤ ob0) (V_ar0v : Arv Z h0 ar0v kr0v .byte (2 : Int32) [(.int z0v_0), (.int z0v_1)] (.int 0)) (g_ar0v : n0 ≤ ar0v) (F_ob0_value : Fld Z h0 ob0 "java/lang/String" "value" "[B" (.ref ar0v)) (F_ob0_coder : Fld Z h0 ob0 "java/lang/String" "coder" "B" (.int 1)) (ne_ob0_ar0v : ob0 ≠ ar0v) (SS : own_Sx Z h0 u8 zc fv)  : own_K l (⟨"java/lang/String", "isLatin1", "()Z"⟩ : MethodName) jdk_42_method_154_code 1 (some .boolean) ws ({ frames := 0, cells := 0, slots := 0, locals := 0 } : Room) Z h0 #[(.ref ob0)] (own_QP h0 (some (.int 0))) := by
  refine own_met (plainFor_of_name pn_22) ?_
  intro p e s m below meth c s₁ hx hby hlk hml hown hnm hrt hZ hh X0 e0
  have N0 := Fr.nil n0
  refine oG m s₁ 0 #[vR ob0] [] (fun _ k => castTop (by first | (simp [entryFrame,mkF,argsToLocals,Value.category]; done) | rfl) k) ?_
  have K0 := Keep.refl h0 []
  have Sg1 := SS.sC
  obtain ⟨T2, X2, e2, st2⟩ := getS2 X0 hx hZ hown (host := "") (Or.inl (oH hw 81 rfl)) Via.refl e0 Sg1 (g := (mkF m 0 #[vR ob0] [])) rfl (hb hby d23_0)
  refine oG m T2 7 #[vR ob0] [(.ref ob0)] (fun _ k => st2 _ (XS.ifNo X2.here hx rfl (hb hby d23_3) rfl ((if0 _ _).trans (feq SS.nz).1) (XS.aloadN X2.here hx rfl (hb hby d23_6) rfl rfl k))) ?_
  obtain ⟨T3, X3, e3, st3⟩ := getF X2 hx hZ hown (host := "") (Or.inl (oH hw 106 rfl)) Via.refl e2 F_ob0_coder (g := (mkF m 7 #[vR ob0] [(.ref ob0)])) rfl rfl (hb hby d23_7)
  refine oG m T3 18 #[vR ob0] [(.int 0)] (fun _ k => st3 _ (XS.ifYes X3.here hx rfl (pc0 := 10) (pc' := 17) rfl (hb hby d23_10) rfl ((if0 _ _).trans (feq (by decide)).2) (by decide) (by decide) (XS.iconst X3.here hx rfl (hb hby d23_17) k))) ?_
  refine own_retN (t := .boolean) X3 hx hlk (by simp) hrt (hb hby d23_18) (by decide) (by decide) ?_
  exact ⟨by first | rfl | decide, e3, rfl⟩
theorem d22_16 : decode C22 16 = .ok (.aload_n 0, 1) := by decide +kernel
theorem d22_17 : decode C22 17 = .ok (.getfield 9, 3) := by decide +kernel
theorem d22_20 : decode C22 20 = .ok (.iload_n 1, 1) := by decide +kernel
theorem d41_0 : decode C41 0 = .ok (.iload_n 1, 1) := by decide +kernel
theorem d41_1 : decode C41 1 = .ok (.aload_n 0, 1) := by decide +kernel
theorem d42_0 : decode C42 0 = .ok (.iload_n 0, 1) := by decide +kernel
theorem d42_1 : decode C42 1 = .ok (.aload_n 1, 1) := by decide +kernel
theorem rmz57 (l : Launch) (Z : State) (a0 : Array Value) (hw : oW a0 Z) (ws : List Jvm.Cond) (ar0 : Addr) (kr0 : ClassId) (z0_0 : Int32) (z0_1 : Int32) (u8 : Addr) (zc : Int32) (fv : Value) (h0 : Heap) (n0 : Nat) (Z0 : n0 ≤ h0.size) (V_ar0 : Arv Z h0 ar0 kr0 .byte (2 : Int32) [(.int z0_0), (.int z0_1)] (.int 0)) (g_ar0 : n0 ≤ ar0)  (SS : own_Sx Z h0 u8 zc fv)  : own_K l (⟨"java/lang/StringUTF16", "length", "([B)I"⟩ : MethodName) jdk_52_method_6_code 1 (some .int) ws ({ frames := 0, cells := 0, slots := 0, locals := 0 } : Room) Z h0 #[(.ref ar0)] (own_QP h0 (some (.int 1))) := by
  refine own_met (plainFor_of_name pn_537) ?_
  intro p e s m below meth c s₁ hx hby hlk hml hown hnm hrt hZ hh X0 e0
  have N0 := Fr.nil n0
  refine oG m s₁ 0 #[vR ar0] [] (fun _ k => castTop (by first | (simp [entryFrame,mkF,argsToLocals,Value.category]; done) | rfl) k) ?_
  have K0 := Keep.refl h0 []
  refine oG m s₁ 1 #[vR ar0] [(.ref ar0)] (fun _ k => XS.aloadN X0.here hx rfl (hb hby d32_0) rfl rfl k) ?_
  obtain ⟨cl1, Ar1, -, S1, M1, -, -⟩ := id V_ar0
  have ql1 := len_of S1 M1
  refine own_go (S' := (s₁.setTop (mkF m 2 #[vR ar0] [(.int 2)]))) (fun _ kont => X0.arraylength hx (by rw [e0]; exact Ar1.1) (State.isArrayOf_alike hZ.alike Ar1.2.1) (g := (mkF m 1 #[vR ar0] [(.ref ar0)])) rfl rfl (hb hby d32_1) _ (by rw [ql1]; exact kont)) ?_
  refine oG m s₁ 4 #[vR ar0] [(.int ((2 : Int32) >>> ((1 : Int32) &&& 31)))] (fun _ k => XS.iconst X0.here hx rfl (hb hby d32_2) (XS.ishr X0.here hx rfl (hb hby d32_3) rfl k)) ?_
  rw [show ((2 : Int32) >>> ((1 : Int32) &&& 31)) = (1 : Int32) from by decide]
  refine own_retI X0 hx hlk hrt (hb hby d32_4) (by decide) (by decide) ?_
  exact ⟨by first | rfl | decide, e0, rfl⟩
theorem d42_2 : decode C42 2 = .ok (.invokestatic 48, 3) := by decide +kernel
theorem d42_5 : decode C42 5 = .ok (.invokestatic 414, 3) := by decide +kernel
theorem d42_8 : decode C42 8 = .ok (.return_, 1) := by decide +kernel
theorem rmz58 (l : Launch) (Z : State) (a0 : Array Value) (hw : oW a0 Z) (ws : List Jvm.Cond) (ar1 : Addr) (kr1 : ClassId) (z1_0 : Int32) (z1_1 : Int32) (u8 : Addr) (zc : Int32) (fv : Value) (h0 : Heap) (n0 : Nat) (Z0 : n0 ≤ h0.size) (V_ar1 : Arv Z h0 ar1 kr1 .byte (2 : Int32) [(.int z1_0), (.int z1_1)] (.int 0)) (g_ar1 : n0 ≤ ar1)  (SS : own_Sx Z h0 u8 zc fv)  : own_K l (⟨"java/lang/StringUTF16", "checkIndex", "(I[B)V"⟩ : MethodName) jdk_52_method_91_code 2 none ws ({ frames := 2, cells := 0, slots := 0, locals := 27 } : Room) Z h0 #[(.int 0), (.ref ar1)] (own_QP h0 (none)) := by
  refine own_met (plainFor_of_name pn_537) ?_
  intro p e s m below meth c s₁ hx hby hlk hml hown hnm hrt hZ hh X0 e0
  have N0 := Fr.nil n0
  refine oG m s₁ 0 #[vI 0,vR ar1] [] (fun _ k => castTop (by first | (simp [entryFrame,mkF,argsToLocals,Value.category]; done) | rfl) k) ?_
  have K0 := Keep.refl h0 []
  refine oG m s₁ 2 #[vI 0,vR ar1] [(.ref ar1),(.int 0)] (fun _ k => XS.iloadN X0.here hx rfl (hb hby d42_0) rfl (XS.aloadN X0.here hx rfl (hb hby d42_1) rfl rfl k)) ?_
  obtain ⟨T1, X1, e1, st1⟩ := own_cP X0 hx hZ hown (oH hw 167 rfl) (oH hw 168 rfl) (oH hw 152 rfl) (oH hw 169 rfl) (by decide) (rmz57 l Z a0 hw [] ar1 kr1 z1_0 z1_1 u8 zc fv h0 n0 Z0 V_ar1 g_ar1 SS) (W := 1) (by decide) (by decide) (g := (mkF m 2 #[vI 0, vR ar1] [(.ref ar1), (.int 0)])) rfl (by rw [hml]; rfl) (argsL := [(.ref ar1)]) (rest := [(.int 0)]) (lenOf pd_566 rfl) rfl rfl rfl (hb hby d42_2) e0 rfl (by decide) (by decide) (by decide : 0 ≤ _) (by decide : 0 ≤ _)
  refine oG m T1 5 #[vI 0,vR ar1] [(.int 1),(.int 0)] (fun _ k => st1 _ k) ?_
  obtain ⟨T2, X2, e2, st2⟩ := own_cP X1 hx hZ hown (oH hw 211 rfl) (oH hw 134 rfl) (oH hw 54 rfl) (oH hw 135 rfl) (by decide) (rmz24 l Z a0 hw [] (0 : Int32) (1 : Int32) u8 zc fv h0 n0 Z0  SS (by decide) (by decide)) (W := 0) (by decide) (by decide) (g := (mkF m 5 #[vI 0, vR ar1] [(.int 1), (.int 0)])) rfl (by rw [hml]; rfl) (argsL := [(.int 0), (.int 1)]) (rest := []) (lenOf pd_270 rfl) rfl rfl rfl (hb hby d42_5) e1 rfl (by decide) (by decide) (by decide : 0 ≤ _) (by decide : 0 ≤ _)
  refine oG m T2 8 #[vI 0,vR ar1] [] (fun _ k => st2 _ k) ?_
  refine own_ret0 X2 hx hlk hrt (hb hby d42_8) (by decide) (by decide) ?_
  exact ⟨by first | rfl | decide, e2, rfl⟩
theorem d41_2 : decode C41 2 = .ok (.invokestatic 67, 3) := by decide +kernel
theorem pd_684 : parseMethodDescriptor "(I[B)V" = some ⟨[.int, (.array .byte)], none⟩ := by decide +kernel
theorem d41_5 : decode C41 5 = .ok (.aload_n 0, 1) := by decide +kernel
theorem d41_6 : decode C41 6 = .ok (.iload_n 1, 1) := by decide +kernel
theorem d43_0 : decode C43 0 = .ok (.getstatic 44, 3) := by decide +kernel
theorem d43_3 : decode C43 3 = .ok (.ifCond .ne 25, 3) := by decide +kernel
theorem d43_28 : decode C43 28 = .ok (.iload_n 1, 1) := by decide +kernel
theorem d43_29 : decode C43 29 = .ok (.iconst 1, 1) := by decide +kernel
theorem d43_30 : decode C43 30 = .ok (.ishl, 1) := by decide +kernel
theorem d43_31 : decode C43 31 = .ok (.istore_n 1, 1) := by decide +kernel
theorem d43_32 : decode C43 32 = .ok (.aload_n 0, 1) := by decide +kernel
theorem d43_33 : decode C43 33 = .ok (.iload_n 1, 1) := by decide +kernel
theorem d43_34 : decode C43 34 = .ok (.iinc 1 1, 3) := by decide +kernel
theorem d43_37 : decode C43 37 = .ok (.baload, 1) := by decide +kernel
theorem d43_38 : decode C43 38 = .ok (.sipush 255, 3) := by decide +kernel
theorem d43_41 : decode C43 41 = .ok (.iand, 1) := by decide +kernel
theorem d43_42 : decode C43 42 = .ok (.getstatic 59, 3) := by decide +kernel
theorem d43_45 : decode C43 45 = .ok (.ishl, 1) := by decide +kernel
theorem d43_46 : decode C43 46 = .ok (.aload_n 0, 1) := by decide +kernel
theorem d43_47 : decode C43 47 = .ok (.iload_n 1, 1) := by decide +kernel
theorem d43_48 : decode C43 48 = .ok (.baload, 1) := by decide +kernel
theorem d43_49 : decode C43 49 = .ok (.sipush 255, 3) := by decide +kernel
theorem d43_52 : decode C43 52 = .ok (.iand, 1) := by decide +kernel
theorem d43_53 : decode C43 53 = .ok (.getstatic 63, 3) := by decide +kernel
theorem d43_56 : decode C43 56 = .ok (.ishl, 1) := by decide +kernel
theorem d43_57 : decode C43 57 = .ok (.ior, 1) := by decide +kernel
theorem d43_58 : decode C43 58 = .ok (.i2c, 1) := by decide +kernel
theorem d43_59 : decode C43 59 = .ok (.ireturn, 1) := by decide +kernel
theorem rmz59 (l : Launch) (Z : State) (a0 : Array Value) (hw : oW a0 Z) (ws : List Jvm.Cond) (ar0 : Addr) (kr0 : ClassId) (z0_0 : Int32) (z0_1 : Int32) (u8 : Addr) (zc : Int32) (fv : Value) (h0 : Heap) (n0 : Nat) (Z0 : n0 ≤ h0.size) (V_ar0 : Arv Z h0 ar0 kr0 .byte (2 : Int32) [(.int z0_0), (.int z0_1)] (.int 0)) (g_ar0 : n0 ≤ ar0)  (SS : own_Sx Z h0 u8 zc fv)  : own_K l (⟨"java/lang/StringUTF16", "getChar", "([BI)C"⟩ : MethodName) jdk_52_method_5_code 2 (some .char) ws ({ frames := 0, cells := 0, slots := 0, locals := 0 } : Room) Z h0 #[(.ref ar0), (.int 0)] (own_QP h0 (some (.int (nar .char ((((z0_0 &&& (255 : Int32)) <<< ((0 : Int32) &&& 31)) ||| ((z0_1 &&& (255 : Int32)) <<< ((8 : Int32) &&& 31))).toUInt32.toUInt16.toUInt32.toInt32))))) := by
  refine own_met (plainFor_of_name pn_537) ?_
  intro p e s m below meth c s₁ hx hby hlk hml hown hnm hrt hZ hh X0 e0
  have N0 := Fr.nil n0
  refine oG m s₁ 0 #[vR ar0,vI 0] [] (fun _ k => castTop (by first | (simp [entryFrame,mkF,argsToLocals,Value.category]; done) | rfl) k) ?_
  have K0 := Keep.refl h0 []
  have Sg1 := SS.sA
  obtain ⟨T2, X2, e2, st2⟩ := getS2 X0 hx hZ hown (host := "") (Or.inl (oH hw 194 rfl)) Via.refl e0 Sg1 (g := (mkF m 0 #[vR ar0, vI 0] [])) rfl (hb hby d43_0)
  refine oG m T2 31 #[vR ar0,vI 0] [(.int ((0 : Int32) <<< ((1 : Int32) &&& 31)))] (fun _ k => st2 _ (XS.ifYes X2.here hx rfl (pc0 := 3) (pc' := 28) rfl (hb hby d43_3) rfl ((if0 _ _).trans (feq (by decide)).2) (by decide) (by decide) (XS.iloadN X2.here hx rfl (hb hby d43_28) rfl (XS.iconst X2.here hx rfl (hb hby d43_29) (XS.ishl X2.here hx rfl (hb hby d43_30) rfl k))))) ?_
  rw [show ((0 : Int32) <<< ((1 : Int32) &&& 31)) = (0 : Int32) from by decide]
  refine oG m T2 37 #[vR ar0,vI ((0 : Int32) + (1 : Int32))] [(.int 0),(.ref ar0)] (fun _ k => XS.istoreN X2.here hx rfl (hb hby d43_31) rfl (l' := #[vR ar0,vI 0]) rfl (XS.aloadN X2.here hx rfl (hb hby d43_32) rfl rfl (XS.iloadN X2.here hx rfl (hb hby d43_33) rfl (XS.iinc X2.here hx rfl (hb hby d43_34) rfl (l' := #[vR ar0,vI ((0 : Int32) + (1 : Int32))]) rfl k)))) ?_
  rw [show ((0 : Int32) + (1 : Int32)) = (1 : Int32) from by decide]
  obtain ⟨cl3, Ar3, -, S3, -, H3, -⟩ := id V_ar0
  have hin3 := inb_of (j := (0 : Int32)) S3 ⟨by decide, by decide⟩
  have hat3 := Has.at (v := (.int z0_0)) H3 hin3 (by first | rfl | decide)
  refine own_go (S' := (T2.setTop (mkF m 38 #[vR ar0, vI 1] [(.int z0_0)]))) (fun _ kont => X2.baloadBytes hx (j := (0 : Int32)) (v := (.int z0_0)) (by rw [e2]; exact Ar3.1) (State.isArrayOf_alike hZ.alike Ar3.2.1) Ar3.2.2 hin3 hat3 (g := (mkF m 37 #[vR ar0, vI 1] [(.int 0), (.ref ar0)])) rfl rfl (hb hby d43_37) _ kont) ?_
  refine oG m T2 42 #[vR ar0,vI 1] [(.int (z0_0 &&& (255 : Int32)))] (fun _ k => XS.sipush X2.here hx rfl (hb hby d43_38) (XS.iand X2.here hx rfl (hb hby d43_41) rfl k)) ?_
  have Sg4 := SS.sH
  obtain ⟨T5, X5, e5, st5⟩ := getS2 X2 hx hZ hown (host := "") (Or.inl (oH hw 195 rfl)) Via.refl e2 Sg4 (g := (mkF m 42 #[vR ar0, vI 1] [(.int (z0_0 &&& (255 : Int32)))])) rfl (hb hby d43_42)
  refine oG m T5 48 #[vR ar0,vI 1] [(.int 1),(.ref ar0),(.int ((z0_0 &&& (255 : Int32)) <<< ((0 : Int32) &&& 31)))] (fun _ k => st5 _ (XS.ishl X5.here hx rfl (hb hby d43_45) rfl (XS.aloadN X5.here hx rfl (hb hby d43_46) rfl rfl (XS.iloadN X5.here hx rfl (hb hby d43_47) rfl k)))) ?_
  obtain ⟨cl6, Ar6, -, S6, -, H6, -⟩ := id V_ar0
  have hin6 := inb_of (j := (1 : Int32)) S6 ⟨by decide, by decide⟩
  have hat6 := Has.at (v := (.int z0_1)) H6 hin6 (by first | rfl | decide)
  refine own_go (S' := (T5.setTop (mkF m 49 #[vR ar0, vI 1] [(.int z0_1), (.int ((z0_0 &&& (255 : Int32)) <<< ((0 : Int32) &&& 31)))]))) (fun _ kont => X5.baloadBytes hx (j := (1 : Int32)) (v := (.int z0_1)) (by rw [e5]; exact Ar6.1) (State.isArrayOf_alike hZ.alike Ar6.2.1) Ar6.2.2 hin6 hat6 (g := (mkF m 48 #[vR ar0, vI 1] [(.int 1), (.ref ar0), (.int ((z0_0 &&& (255 : Int32)) <<< ((0 : Int32) &&& 31)))])) rfl rfl (hb hby d43_48) _ kont) ?_
  refine oG m T5 53 #[vR ar0,vI 1] [(.int (z0_1 &&& (255 : Int32))),(.int ((z0_0 &&& (255 : Int32)) <<< ((0 : Int32) &&& 31)))] (fun _ k => XS.sipush X5.here hx rfl (hb hby d43_49) (XS.iand X5.here hx rfl (hb hby d43_52) rfl k)) ?_
  have Sg7 := SS.sL
  obtain ⟨T8, X8, e8, st8⟩ := getS2 X5 hx hZ hown (host := "") (Or.inl (oH hw 196 rfl)) Via.refl e5 Sg7 (g := (mkF m 53 #[vR ar0, vI 1] [(.int (z0_1 &&& (255 : Int32))), (.int ((z0_0 &&& (255 : Int32)) <<< ((0 : Int32) &&& 31)))])) rfl (hb hby d43_53)
  refine oG m T8 59 #[vR ar0,vI 1] [(.int ((((z0_0 &&& (255 : Int32)) <<< ((0 : Int32) &&& 31)) ||| ((z0_1 &&& (255 : Int32)) <<< ((8 : Int32) &&& 31))).toUInt32.toUInt16.toUInt32.toInt32))] (fun _ k => st8 _ (XS.ishl X8.here hx rfl (hb hby d43_56) rfl (XS.ior X8.here hx rfl (hb hby d43_57) rfl (XS.i2c X8.here hx rfl (hb hby d43_58) rfl k)))) ?_
  refine own_retN (t := .char) X8 hx hlk (by simp) hrt (hb hby d43_59) (by decide) (by decide) ?_
  exact ⟨by first | rfl | decide, e8, rfl⟩
theorem d41_7 : decode C41 7 = .ok (.invokestatic 71, 3) := by decide +kernel
theorem d41_10 : decode C41 10 = .ok (.ireturn, 1) := by decide +kernel
theorem rmz60 (l : Launch) (Z : State) (a0 : Array Value) (hw : oW a0 Z) (ws : List Jvm.Cond) (ar0 : Addr) (kr0 : ClassId) (z0_0 : Int32) (z0_1 : Int32) (u8 : Addr) (zc : Int32) (fv : Value) (h0 : Heap) (n0 : Nat) (Z0 : n0 ≤ h0.size) (V_ar0 : Arv Z h0 ar0 kr0 .byte (2 : Int32) [(.int z0_0), (.int z0_1)] (.int 0)) (g_ar0 : n0 ≤ ar0)  (SS : own_Sx Z h0 u8 zc fv)  : own_K l (⟨"java/lang/StringUTF16", "charAt", "([BI)C"⟩ : MethodName) jdk_52_method_83_code 2 (some .char) ws ({ frames := 3, cells := 0, slots := 0, locals := 40 } : Room) Z h0 #[(.ref ar0), (.int 0)] (own_QP h0 (some (.int (nar .char (nar .char ((((z0_0 &&& (255 : Int32)) <<< ((0 : Int32) &&& 31)) ||| ((z0_1 &&& (255 : Int32)) <<< ((8 : Int32) &&& 31))).toUInt32.toUInt16.toUInt32.toInt32)))))) := by
  refine own_met (plainFor_of_name pn_537) ?_
  intro p e s m below meth c s₁ hx hby hlk hml hown hnm hrt hZ hh X0 e0
  have N0 := Fr.nil n0
  refine oG m s₁ 0 #[vR ar0,vI 0] [] (fun _ k => castTop (by first | (simp [entryFrame,mkF,argsToLocals,Value.category]; done) | rfl) k) ?_
  have K0 := Keep.refl h0 []
  refine oG m s₁ 2 #[vR ar0,vI 0] [(.ref ar0),(.int 0)] (fun _ k => XS.iloadN X0.here hx rfl (hb hby d41_0) rfl (XS.aloadN X0.here hx rfl (hb hby d41_1) rfl rfl k)) ?_
  obtain ⟨T1, X1, e1, st1⟩ := own_cP X0 hx hZ hown (oH hw 208 rfl) (oH hw 209 rfl) (oH hw 152 rfl) (oH hw 210 rfl) (by decide) (rmz58 l Z a0 hw [] ar0 kr0 z0_0 z0_1 u8 zc fv h0 n0 Z0 V_ar0 g_ar0 SS) (W := 0) (by decide) (by decide) (g := (mkF m 2 #[vR ar0, vI 0] [(.ref ar0), (.int 0)])) rfl (by rw [hml]; rfl) (argsL := [(.int 0), (.ref ar0)]) (rest := []) (lenOf pd_684 rfl) rfl rfl rfl (hb hby d41_2) e0 rfl (by decide) (by decide) (by decide : 0 ≤ _) (by decide : 0 ≤ _)
  refine oG m T1 7 #[vR ar0,vI 0] [(.int 0),(.ref ar0)] (fun _ k => st1 _ (XS.aloadN X1.here hx rfl (hb hby d41_5) rfl rfl (XS.iloadN X1.here hx rfl (hb hby d41_6) rfl k))) ?_
  obtain ⟨T2, X2, e2, st2⟩ := own_cP X1 hx hZ hown (oH hw 212 rfl) (oH hw 213 rfl) (oH hw 152 rfl) (oH hw 214 rfl) (by decide) (rmz59 l Z a0 hw [] ar0 kr0 z0_0 z0_1 u8 zc fv h0 n0 Z0 V_ar0 g_ar0 SS) (W := 0) (by decide) (by decide) (g := (mkF m 7 #[vR ar0, vI 0] [(.int 0), (.ref ar0)])) rfl (by rw [hml]; rfl) (argsL := [(.ref ar0), (.int 0)]) (rest := []) (lenOf pd_372 rfl) rfl rfl rfl (hb hby d41_7) e1 rfl (by decide) (by decide) (by decide : 0 ≤ _) (by decide : 0 ≤ _)
  refine oG m T2 10 #[vR ar0,vI 0] [(.int (nar .char ((((z0_0 &&& (255 : Int32)) <<< ((0 : Int32) &&& 31)) ||| ((z0_1 &&& (255 : Int32)) <<< ((8 : Int32) &&& 31))).toUInt32.toUInt16.toUInt32.toInt32)))] (fun _ k => st2 _ k) ?_
  refine own_retN (t := .char) X2 hx hlk (by simp) hrt (hb hby d41_10) (by decide) (by decide) ?_
  exact ⟨by first | rfl | decide, e2, rfl⟩
theorem d22_21 : decode C22 21 = .ok (.invokestatic 498, 3) := by decide +kernel
theorem d22_24 : decode C22 24 = .ok (.ireturn, 1) := by decide +kernel
theorem rmz61 (l : Launch) (Z : State) (a0 : Array Value) (hw : oW a0 Z) (ws : List Jvm.Cond) (ob0 : Addr) (ar0v : Addr) (kr0v : ClassId) (z0v_0 : Int32) (z0v_1 : Int32) (u8 : Addr) (zc : Int32) (fv : Value) (h0 : Heap) (n0 : Nat) (Z0 : n0 ≤ h0.size) (E_ob0 : Exa Z h0 ob0 "java/lang/String") (g_ob0 : n0 ≤ ob0) (V_ar0v : Arv Z h0 ar0v kr0v .byte (2 : Int32) [(.int z0v_0), (.int z0v_1)] (.int 0)) (g_ar0v : n0 ≤ ar0v) (F_ob0_value : Fld Z h0 ob0 "java/lang/String" "value" "[B" (.ref ar0v)) (F_ob0_coder : Fld Z h0 ob0 "java/lang/String" "coder" "B" (.int 1)) (ne_ob0_ar0v : ob0 ≠ ar0v) (SS : own_Sx Z h0 u8 zc fv)  : own_K l (⟨"java/lang/String", "charAt", "(I)C"⟩ : MethodName) jdk_42_method_56_code 2 (some .char) ws ({ frames := 4, cells := 0, slots := 0, locals := 53 } : Room) Z h0 #[(.ref ob0), (.int 0)] (own_QP h0 (some (.int (nar .char (nar .char (nar .char ((((z0v_0 &&& (255 : Int32)) <<< ((0 : Int32) &&& 31)) ||| ((z0v_1 &&& (255 : Int32)) <<< ((8 : Int32) &&& 31))).toUInt32.toUInt16.toUInt32.toInt32))))))) := by
  refine own_met (plainFor_of_name pn_22) ?_
  intro p e s m below meth c s₁ hx hby hlk hml hown hnm hrt hZ hh X0 e0
  have N0 := Fr.nil n0
  refine oG m s₁ 0 #[vR ob0,vI 0] [] (fun _ k => castTop (by first | (simp [entryFrame,mkF,argsToLocals,Value.category]; done) | rfl) k) ?_
  have K0 := Keep.refl h0 []
  refine oG m s₁ 1 #[vR ob0,vI 0] [(.ref ob0)] (fun _ k => XS.aloadN X0.here hx rfl (hb hby d22_0) rfl rfl k) ?_
  obtain ⟨cq1, kq1, q1a, q1b, q1c⟩ := isOf hZ e0 E_ob0
  obtain ⟨v1, _, ⟨T1, L1, k1, n1⟩, -, X1, ⟨Lc1, hQ1, l1, y1, z1⟩, st1⟩ := X0.virtualBack hx (y := (⟨"java/lang/String", "isLatin1", "()Z"⟩ : MethodName)) (z := (⟨"java/lang/String", "isLatin1", "()Z"⟩ : MethodName)) hown (mvT hZ (oH hw 124 rfl)) (mvT hZ (oH hw 125 rfl)) (notFace_of_selects (args := #[]) (mvT hZ (oH hw 127 rfl))) (mvT hZ (oH hw 127 rfl)) (mvT hZ (oH hw 126 rfl)) (by decide) (backOf (W := 0) (rmz56 l Z a0 hw [] ob0 ar0v kr0v z0v_0 z0v_1 u8 zc fv h0 n0 Z0 E_ob0 g_ob0 V_ar0v g_ar0v F_ob0_value F_ob0_coder ne_ob0_ar0v SS) hZ (oH hw 128 rfl) (oH hw 54 rfl) (by decide) (by decide)) q1a q1c (g := (mkF m 1 #[vR ob0, vI 0] [(.ref ob0)])) rfl (by rw [hml]; rfl) (Steps.refl _) (argsL := []) (rest := []) (lenOf pd_340 rfl) rfl (by show 2 * 0 + _ ≤ _; exact Nat.le_of_eq rfl) (hb hby d22_1) (fun _ _ => ⟨rfl, e0, (by decide : 0 + 0 ≤ _), (by decide : 0 + 0 ≤ _)⟩)
  dsimp only [Pt.U, Pt.locs, Pt.cells, Pt.slots] at X1 l1 y1 z1 st1 hQ1
  subst l1 y1 z1
  obtain ⟨rfl, eh1, rfl⟩ := hQ1
  have N1 := Fr.app N0 (Fr.nil n0)
  refine oG m T1 17 #[vR ob0,vI 0] [(.ref ob0)] (fun _ k => st1.trans (XS.ifYes X1.here hx rfl (pc0 := 4) (pc' := 16) rfl (hb hby d22_4) rfl ((if0 _ _).trans (teq (by decide)).1) (by decide) (by decide) (XS.aloadN X1.here hx rfl (hb hby d22_16) rfl rfl k))) ?_
  obtain ⟨T2, X2, e2, st2⟩ := getF X1 hx hZ hown (host := "") (Or.inl (oH hw 104 rfl)) Via.refl eh1 F_ob0_value (g := (mkF m 17 #[vR ob0, vI 0] [(.ref ob0)])) rfl rfl (hb hby d22_17)
  refine oG m T2 21 #[vR ob0,vI 0] [(.int 0),(.ref ar0v)] (fun _ k => st2 _ (XS.iloadN X2.here hx rfl (hb hby d22_20) rfl k)) ?_
  obtain ⟨T3, X3, e3, st3⟩ := own_cP X2 hx hZ hown (oH hw 205 rfl) (oH hw 206 rfl) (oH hw 152 rfl) (oH hw 207 rfl) (by decide) (rmz60 l Z a0 hw [] ar0v kr0v z0v_0 z0v_1 u8 zc fv h0 n0 Z0 V_ar0v g_ar0v SS) (W := 0) (by decide) (by decide) (g := (mkF m 21 #[vR ob0, vI 0] [(.int 0), (.ref ar0v)])) rfl (by rw [hml]; rfl) (argsL := [(.ref ar0v), (.int 0)]) (rest := []) (lenOf pd_372 rfl) rfl rfl rfl (hb hby d22_21) e2 rfl (by decide) (by decide) (by decide : 0 ≤ _) (by decide : 0 ≤ _)
  refine oG m T3 24 #[vR ob0,vI 0] [(.int (nar .char (nar .char ((((z0v_0 &&& (255 : Int32)) <<< ((0 : Int32) &&& 31)) ||| ((z0v_1 &&& (255 : Int32)) <<< ((8 : Int32) &&& 31))).toUInt32.toUInt16.toUInt32.toInt32))))] (fun _ k => st3 _ k) ?_
  refine own_retN (t := .char) X3 hx hlk (by simp) hrt (hb hby d22_24) (by decide) (by decide) ?_
  exact ⟨by first | rfl | decide, e3, rfl⟩
theorem d1_22 : decode C1 22 = .ok (.iload_n 0, 1) := by decide +kernel
theorem d1_23 : decode C1 23 = .ok (.ldc 36, 2) := by decide +kernel
theorem d1_25 : decode C1 25 = .ok (.if_icmp .ge 7, 3) := by decide +kernel
theorem d1_28 : decode C1 28 = .ok (.iconst 3, 1) := by decide +kernel
theorem d1_29 : decode C1 29 = .ok (.goto 4, 3) := by decide +kernel
theorem rmz62 (l : Launch) (Z : State) (a0 : Array Value) (hw : oW a0 Z) (ws : List Jvm.Cond) (x0 : Int32) (u8 : Addr) (zc : Int32) (fv : Value) (h0 : Heap) (n0 : Nat) (Z0 : n0 ≤ h0.size)   (SS : own_Sx Z h0 u8 zc fv) (hq0 : ¬ x0 < (128 : Int32)) (hq1 : ¬ x0 < (2048 : Int32)) (hq2 : x0 < (65536 : Int32)) : own_K l (⟨"clearcut/Text", "encodedSize", "(I)I"⟩ : MethodName) prog_60_method_9_code 1 (some .int) ws ({ frames := 0, cells := 0, slots := 0, locals := 0 } : Room) Z h0 #[(.int x0)] (own_QP h0 (some (.int 3))) := by
  refine own_met (plainFor_of_name pn_78) ?_
  intro p e s m below meth c s₁ hx hby hlk hml hown hnm hrt hZ hh X0 e0
  have N0 := Fr.nil n0
  refine oG m s₁ 0 #[vI x0] [] (fun _ k => castTop (by first | (simp [entryFrame,mkF,argsToLocals,Value.category]; done) | rfl) k) ?_
  have K0 := Keep.refl h0 []
  refine oG m s₁ 23 #[vI x0] [(.int x0)] (fun _ k => XS.iloadN X0.here hx rfl (hb hby d1_0) rfl (XS.sipush X0.here hx rfl (hb hby d1_1) (XS.icmpYes X0.here hx rfl (pc0 := 4) (pc' := 11) rfl (hb hby d1_4) rfl (flt hq0).2.1 (by decide) (by decide) (XS.iloadN X0.here hx rfl (hb hby d1_11) rfl (XS.sipush X0.here hx rfl (hb hby d1_12) (XS.icmpYes X0.here hx rfl (pc0 := 15) (pc' := 22) rfl (hb hby d1_15) rfl (flt hq1).2.1 (by decide) (by decide) (XS.iloadN X0.here hx rfl (hb hby d1_22) rfl k))))))) ?_
  refine oG m s₁ 33 #[vI x0] [(.int 3)] (fun _ k => (X0.ldcInt hx hown (mvT hZ (oH hw 47 rfl)) (g := (mkF m 23 #[vI x0] [(.int x0)])) rfl (hb hby d1_23)) _ (XS.icmpNo X0.here hx rfl (hb hby d1_25) rfl (tlt hq2).2.1 (XS.iconst X0.here hx rfl (hb hby d1_28) (XS.goto X0.here hx rfl (pc0 := 29) (pc' := 33) rfl (hb hby d1_29) (by decide) (by decide) k)))) ?_
  refine own_retI X0 hx hlk hrt (hb hby d1_33) (by decide) (by decide) ?_
  exact ⟨by first | rfl | decide, e0, rfl⟩
def Q_rmz63 (Z : State) (x0 : Int32) (ar1 : Addr) (kr1 : ClassId) (z1_0 : Int32) (z1_1 : Int32) (z1_2 : Int32) (z1_3 : Int32) (u8 : Addr) (zc : Int32) (fv : Value) (h0 : Heap) (n0 : Nat) (v : Option Value) (h : Heap) (L : List Loc) : Prop := v = some (.int 3) ∧ Fr n0 L ∧ Keep h0 h [ar1] ∧ Arv Z h ar1 kr1 .byte (4 : Int32) [(.int (nar .byte (((8160 : Int32) ||| ((x0 >>> ((6 : Int32) &&& 31)) >>> ((6 : Int32) &&& 31))).toInt8.toInt32))), (.int (nar .byte (((128 : Int32) ||| ((x0 >>> ((6 : Int32) &&& 31)) &&& (63 : Int32))).toInt8.toInt32))), (.int (nar .byte (((128 : Int32) ||| (x0 &&& (63 : Int32))).toInt8.toInt32))), (.int z1_3)] (.int 0)
theorem rmz63 (l : Launch) (Z : State) (a0 : Array Value) (hw : oW a0 Z) (ws : List Jvm.Cond) (x0 : Int32) (ar1 : Addr) (kr1 : ClassId) (z1_0 : Int32) (z1_1 : Int32) (z1_2 : Int32) (z1_3 : Int32) (u8 : Addr) (zc : Int32) (fv : Value) (h0 : Heap) (n0 : Nat) (Z0 : n0 ≤ h0.size) (V_ar1 : Arv Z h0 ar1 kr1 .byte (4 : Int32) [(.int z1_0), (.int z1_1), (.int z1_2), (.int z1_3)] (.int 0)) (g_ar1 : n0 ≤ ar1) (E_ar1 : Exa Z h0 ar1 "[B")  (SS : own_Sx Z h0 u8 zc fv) (hq0 : ¬ x0 < (128 : Int32)) (hq1 : ¬ x0 < (2048 : Int32)) (hq2 : x0 < (65536 : Int32)) : own_K l (⟨"clearcut/Text", "encode", "(I[BI)I"⟩ : MethodName) prog_60_method_10_code 6 (some .int) ws ({ frames := 1, cells := 0, slots := 0, locals := 12 } : Room) Z h0 #[(.int x0), (.ref ar1), (.int 0)] (Q_rmz63 Z x0 ar1 kr1 z1_0 z1_1 z1_2 z1_3 u8 zc fv h0 n0) := by
  refine own_met (plainFor_of_name pn_78) ?_
  intro p e s m below meth c s₁ hx hby hlk hml hown hnm hrt hZ hh X0 e0
  have N0 := Fr.nil n0
  refine oG m s₁ 0 #[vI x0,vR ar1,vI 0,oU,oU,oU] [] (fun _ k => castTop (by first | (simp [entryFrame,mkF,argsToLocals,Value.category]; done) | rfl) k) ?_
  have K0 := Keep.refl h0 [ar1]
  refine oG m s₁ 1 #[vI x0,vR ar1,vI 0,oU,oU,oU] [(.int x0)] (fun _ k => XS.iloadN X0.here hx rfl (hb hby d2_0) rfl k) ?_
  obtain ⟨T1, X1, e1, st1⟩ := own_cP X0 hx hZ hown (oH hw 11 rfl) (oH hw 4 rfl) (oH hw 5 rfl) (oH hw 6 rfl) (by decide) (rmz62 l Z a0 hw [] x0 u8 zc fv h0 n0 Z0  SS hq0 hq1 hq2) (W := 0) (by decide) (by decide) (g := (mkF m 1 #[vI x0, vR ar1, vI 0, oU, oU, oU] [(.int x0)])) rfl (by rw [hml]; rfl) (argsL := [(.int x0)]) (rest := []) (lenOf pd_79 rfl) rfl rfl rfl (hb hby d2_1) e0 rfl (by decide) (by decide) (by decide : 0 ≤ _) (by decide : 0 ≤ _)
  refine oG m T1 11 #[vI x0,vR ar1,vI 0,vI 3,vI x0,oU] [(.int ((3 : Int32) - (1 : Int32)))] (fun _ k => st1 _ (XS.istoreN X1.here hx rfl (hb hby d2_4) rfl (l' := #[vI x0,vR ar1,vI 0,vI 3,oU,oU]) rfl (XS.iloadN X1.here hx rfl (hb hby d2_5) rfl (XS.istore X1.here hx rfl (hb hby d2_6) rfl (l' := #[vI x0,vR ar1,vI 0,vI 3,vI x0,oU]) rfl (XS.iloadN X1.here hx rfl (hb hby d2_8) rfl (XS.iconst X1.here hx rfl (hb hby d2_9) (XS.isub X1.here hx rfl (hb hby d2_10) rfl k))))))) ?_
  rw [show ((3 : Int32) - (1 : Int32)) = (2 : Int32) from by decide]
  refine oG m T1 23 #[vI x0,vR ar1,vI 0,vI 3,vI x0,vI 2] [(.int ((0 : Int32) + (2 : Int32))),(.ref ar1)] (fun _ k => XS.istore X1.here hx rfl (hb hby d2_11) rfl (l' := #[vI x0,vR ar1,vI 0,vI 3,vI x0,vI 2]) rfl (XS.iload X1.here hx rfl (hb hby d2_13) rfl (XS.ifNo X1.here hx rfl (hb hby d2_15) rfl ((if0 _ _).trans (tlt (by decide)).2.2.2) (XS.aloadN X1.here hx rfl (hb hby d2_18) rfl rfl (XS.iloadN X1.here hx rfl (hb hby d2_19) rfl (XS.iload X1.here hx rfl (hb hby d2_20) rfl (XS.iadd X1.here hx rfl (hb hby d2_22) rfl k))))))) ?_
  rw [show ((0 : Int32) + (2 : Int32)) = (2 : Int32) from by decide]
  refine oG m T1 33 #[vI x0,vR ar1,vI 0,vI 3,vI x0,vI 2] [(.int (((128 : Int32) ||| (x0 &&& (63 : Int32))).toInt8.toInt32)),(.int 2),(.ref ar1)] (fun _ k => XS.sipush X1.here hx rfl (hb hby d2_23) (XS.iload X1.here hx rfl (hb hby d2_26) rfl (XS.bipush X1.here hx rfl (hb hby d2_28) (XS.iand X1.here hx rfl (hb hby d2_30) rfl (XS.ior X1.here hx rfl (hb hby d2_31) rfl (XS.i2b X1.here hx rfl (hb hby d2_32) rfl k)))))) ?_
  obtain ⟨cl2, Ar2, qc2, S2, M2, Ha2, Ga2⟩ := id V_ar1
  obtain ⟨T2, h2, X2, e2, W2, st2⟩ := stB X1 hx hZ e1 Ar2 (j := (2 : Int32)) (inb_of S2 ⟨by decide, by decide⟩) (g := (mkF m 33 #[vI x0, vR ar1, vI 0, vI 3, vI x0, vI 2] [(.int (((128 : Int32) ||| (x0 &&& (63 : Int32))).toInt8.toInt32)), (.int 2), (.ref ar1)])) rfl rfl (hb hby d2_33)
  have c2_Ear1 := E_ar1.wr W2
  have c2_USS := SS.wr W2
  have V2 : Arv Z h2 ar1 kr1 .byte (4 : Int32) [(.int z1_0), (.int z1_1), (.int (nar .byte (((128 : Int32) ||| (x0 &&& (63 : Int32))).toInt8.toInt32))), (.int z1_3)] (.int 0) := Arv.set Ar2 qc2 S2 M2 Ha2 Ga2 (fits_nar_byte _) W2 2 (by decide) (Nat.le_of_ble_eq_true rfl)
  have K2 := K0.wr W2 (Or.inl (List.mem_of_getElem? (i := 0) rfl))
  have N2 := Fr.snoc X2 N0 g_ar1
  have Z2 : n0 ≤ h2.size := Nat.le_trans Z0 (Nat.le_of_eq W2.size.symm)
  refine oG m T2 44 #[vI x0,vR ar1,vI 0,vI 3,vI (x0 >>> ((6 : Int32) &&& 31)),vI ((2 : Int32) + (-1 : Int32))] [] (fun _ k => st2 _ (XS.iload X2.here hx rfl (hb hby d2_34) rfl (XS.bipush X2.here hx rfl (hb hby d2_36) (XS.ishr X2.here hx rfl (hb hby d2_38) rfl (XS.istore X2.here hx rfl (hb hby d2_39) rfl (l' := #[vI x0,vR ar1,vI 0,vI 3,vI (x0 >>> ((6 : Int32) &&& 31)),vI 2]) rfl (XS.iinc X2.here hx rfl (hb hby d2_41) rfl (l' := #[vI x0,vR ar1,vI 0,vI 3,vI (x0 >>> ((6 : Int32) &&& 31)),vI ((2 : Int32) + (-1 : Int32))]) rfl k)))))) ?_
  rw [show ((2 : Int32) + (-1 : Int32)) = (1 : Int32) from by decide]
  refine oG m T2 23 #[vI x0,vR ar1,vI 0,vI 3,vI (x0 >>> ((6 : Int32) &&& 31)),vI 1] [(.int ((0 : Int32) + (1 : Int32))),(.ref ar1)] (fun _ k => XS.goto X2.here hx rfl (pc0 := 44) (pc' := 13) rfl (hb hby d2_44) (by decide) (by decide) (XS.iload X2.here hx rfl (hb hby d2_13) rfl (XS.ifNo X2.here hx rfl (hb hby d2_15) rfl ((if0 _ _).trans (tlt (by decide)).2.2.2) (XS.aloadN X2.here hx rfl (hb hby d2_18) rfl rfl (XS.iloadN X2.here hx rfl (hb hby d2_19) rfl (XS.iload X2.here hx rfl (hb hby d2_20) rfl (XS.iadd X2.here hx rfl (hb hby d2_22) rfl k))))))) ?_
  rw [show ((0 : Int32) + (1 : Int32)) = (1 : Int32) from by decide]
  refine oG m T2 33 #[vI x0,vR ar1,vI 0,vI 3,vI (x0 >>> ((6 : Int32) &&& 31)),vI 1] [(.int (((128 : Int32) ||| ((x0 >>> ((6 : Int32) &&& 31)) &&& (63 : Int32))).toInt8.toInt32)),(.int 1),(.ref ar1)] (fun _ k => XS.sipush X2.here hx rfl (hb hby d2_23) (XS.iload X2.here hx rfl (hb hby d2_26) rfl (XS.bipush X2.here hx rfl (hb hby d2_28) (XS.iand X2.here hx rfl (hb hby d2_30) rfl (XS.ior X2.here hx rfl (hb hby d2_31) rfl (XS.i2b X2.here hx rfl (hb hby d2_32) rfl k)))))) ?_
  obtain ⟨cl3, Ar3, qc3, S3, M3, Ha3, Ga3⟩ := id V2
  obtain ⟨T3, h3, X3, e3, W3, st3⟩ := stB X2 hx hZ e2 Ar3 (j := (1 : Int32)) (inb_of S3 ⟨by decide, by decide⟩) (g := (mkF m 33 #[vI x0, vR ar1, vI 0, vI 3, vI (x0 >>> ((6 : Int32) &&& 31)), vI 1] [(.int (((128 : Int32) ||| ((x0 >>> ((6 : Int32) &&& 31)) &&& (63 : Int32))).toInt8.toInt32)), (.int 1), (.ref ar1)])) rfl rfl (hb hby d2_33)
  have c3_Ear1 := c2_Ear1.wr W3
  have c3_USS := c2_USS.wr W3
  have V3 : Arv Z h3 ar1 kr1 .byte (4 : Int32) [(.int z1_0), (.int (nar .byte (((128 : Int32) ||| ((x0 >>> ((6 : Int32) &&& 31)) &&& (63 : Int32))).toInt8.toInt32))), (.int (nar .byte (((128 : Int32) ||| (x0 &&& (63 : Int32))).toInt8.toInt32))), (.int z1_3)] (.int 0) := Arv.set Ar3 qc3 S3 M3 Ha3 Ga3 (fits_nar_byte _) W3 1 (by decide) (Nat.le_of_ble_eq_true rfl)
  have K3 := K2.wr W3 (Or.inl (List.mem_of_getElem? (i := 0) rfl))
  have N3 := Fr.snoc X3 N2 g_ar1
  have Z3 : n0 ≤ h3.size := Nat.le_trans Z2 (Nat.le_of_eq W3.size.symm)
  refine oG m T3 44 #[vI x0,vR ar1,vI 0,vI 3,vI ((x0 >>> ((6 : Int32) &&& 31)) >>> ((6 : Int32) &&& 31)),vI ((1 : Int32) + (-1 : Int32))] [] (fun _ k => st3 _ (XS.iload X3.here hx rfl (hb hby d2_34) rfl (XS.bipush X3.here hx rfl (hb hby d2_36) (XS.ishr X3.here hx rfl (hb hby d2_38) rfl (XS.istore X3.here hx rfl (hb hby d2_39) rfl (l' := #[vI x0,vR ar1,vI 0,vI 3,vI ((x0 >>> ((6 : Int32) &&& 31)) >>> ((6 : Int32) &&& 31)),vI 1]) rfl (XS.iinc X3.here hx rfl (hb hby d2_41) rfl (l' := #[vI x0,vR ar1,vI 0,vI 3,vI ((x0 >>> ((6 : Int32) &&& 31)) >>> ((6 : Int32) &&& 31)),vI ((1 : Int32) + (-1 : Int32))]) rfl k)))))) ?_
  rw [show ((1 : Int32) + (-1 : Int32)) = (0 : Int32) from by decide]
  refine oG m T3 59 #[vI x0,vR ar1,vI 0,vI 3,vI ((x0 >>> ((6 : Int32) &&& 31)) >>> ((6 : Int32) &&& 31)),vI 0] [(.int 0),(.ref ar1)] (fun _ k => XS.goto X3.here hx rfl (pc0 := 44) (pc' := 13) rfl (hb hby d2_44) (by decide) (by decide) (XS.iload X3.here hx rfl (hb hby d2_13) rfl (XS.ifYes X3.here hx rfl (pc0 := 15) (pc' := 47) rfl (hb hby d2_15) rfl ((if0 _ _).trans (flt (by decide)).2.2.2) (by decide) (by decide) (XS.aloadN X3.here hx rfl (hb hby d2_47) rfl rfl (XS.iloadN X3.here hx rfl (hb hby d2_48) rfl (XS.iloadN X3.here hx rfl (hb hby d2_49) rfl (XS.iconst X3.here hx rfl (hb hby d2_50) (XS.icmpYes X3.here hx rfl (pc0 := 51) (pc' := 59) rfl (hb hby d2_51) rfl (feq (by decide)).2 (by decide) (by decide) k)))))))) ?_
  refine oG m T3 63 #[vI x0,vR ar1,vI 0,vI 3,vI ((x0 >>> ((6 : Int32) &&& 31)) >>> ((6 : Int32) &&& 31)),vI 0] [(.int ((65280 : Int32) >>> ((3 : Int32) &&& 31))),(.int 0),(.ref ar1)] (fun _ k => (X3.ldcInt hx hown (mvT hZ (oH hw 140 rfl)) (g := (mkF m 59 #[vI x0,vR ar1,vI 0,vI 3,vI ((x0 >>> ((6 : Int32) &&& 31)) >>> ((6 : Int32) &&& 31)),vI 0] [(.int 0),(.ref ar1)])) rfl (hb hby d2_59)) _ (XS.iloadN X3.here hx rfl (hb hby d2_61) rfl (XS.ishr X3.here hx rfl (hb hby d2_62) rfl k))) ?_
  rw [show ((65280 : Int32) >>> ((3 : Int32) &&& 31)) = (8160 : Int32) from by decide]
  refine oG m T3 67 #[vI x0,vR ar1,vI 0,vI 3,vI ((x0 >>> ((6 : Int32) &&& 31)) >>> ((6 : Int32) &&& 31)),vI 0] [(.int (((8160 : Int32) ||| ((x0 >>> ((6 : Int32) &&& 31)) >>> ((6 : Int32) &&& 31))).toInt8.toInt32)),(.int 0),(.ref ar1)] (fun _ k => XS.iload X3.here hx rfl (hb hby d2_63) rfl (XS.ior X3.here hx rfl (hb hby d2_65) rfl (XS.i2b X3.here hx rfl (hb hby d2_66) rfl k))) ?_
  obtain ⟨cl4, Ar4, qc4, S4, M4, Ha4, Ga4⟩ := id V3
  obtain ⟨T4, h4, X4, e4, W4, st4⟩ := stB X3 hx hZ e3 Ar4 (j := (0 : Int32)) (inb_of S4 ⟨by decide, by decide⟩) (g := (mkF m 67 #[vI x0, vR ar1, vI 0, vI 3, vI ((x0 >>> ((6 : Int32) &&& 31)) >>> ((6 : Int32) &&& 31)), vI 0] [(.int (((8160 : Int32) ||| ((x0 >>> ((6 : Int32) &&& 31)) >>> ((6 : Int32) &&& 31))).toInt8.toInt32)), (.int 0), (.ref ar1)])) rfl rfl (hb hby d2_67)
  have c4_Ear1 := c3_Ear1.wr W4
  have c4_USS := c3_USS.wr W4
  have V4 : Arv Z h4 ar1 kr1 .byte (4 : Int32) [(.int (nar .byte (((8160 : Int32) ||| ((x0 >>> ((6 : Int32) &&& 31)) >>> ((6 : Int32) &&& 31))).toInt8.toInt32))), (.int (nar .byte (((128 : Int32) ||| ((x0 >>> ((6 : Int32) &&& 31)) &&& (63 : Int32))).toInt8.toInt32))), (.int (nar .byte (((128 : Int32) ||| (x0 &&& (63 : Int32))).toInt8.toInt32))), (.int z1_3)] (.int 0) := Arv.set Ar4 qc4 S4 M4 Ha4 Ga4 (fits_nar_byte _) W4 0 (by decide) (Nat.le_of_ble_eq_true rfl)
  have K4 := K3.wr W4 (Or.inl (List.mem_of_getElem? (i := 0) rfl))
  have N4 := Fr.snoc X4 N3 g_ar1
  have Z4 : n0 ≤ h4.size := Nat.le_trans Z3 (Nat.le_of_eq W4.size.symm)
  refine oG m T4 71 #[vI x0,vR ar1,vI 0,vI 3,vI ((x0 >>> ((6 : Int32) &&& 31)) >>> ((6 : Int32) &&& 31)),vI 0] [(.int ((0 : Int32) + (3 : Int32)))] (fun _ k => st4 _ (XS.iloadN X4.here hx rfl (hb hby d2_68) rfl (XS.iloadN X4.here hx rfl (hb hby d2_69) rfl (XS.iadd X4.here hx rfl (hb hby d2_70) rfl k)))) ?_
  rw [show ((0 : Int32) + (3 : Int32)) = (3 : Int32) from by decide]
  refine own_retI X4 hx hlk hrt (hb hby d2_71) (by decide) (by decide) ?_
  rw [e4]
  exact ⟨(by first | rfl | decide), N4, K4, V4⟩
theorem d7_22 : decode C7 22 = .ok (.iload_n 0, 1) := by decide +kernel
theorem d7_23 : decode C7 23 = .ok (.sipush 240, 3) := by decide +kernel
theorem d7_26 : decode C7 26 = .ok (.if_icmp .ge 7, 3) := by decide +kernel
theorem d7_29 : decode C7 29 = .ok (.iconst 3, 1) := by decide +kernel
theorem d7_30 : decode C7 30 = .ok (.goto 4, 3) := by decide +kernel
theorem rmz64 (l : Launch) (Z : State) (a0 : Array Value) (hw : oW a0 Z) (ws : List Jvm.Cond) (x0 : Int32) (u8 : Addr) (zc : Int32) (fv : Value) (h0 : Heap) (n0 : Nat) (Z0 : n0 ≤ h0.size)   (SS : own_Sx Z h0 u8 zc fv) (hq0 : ¬ x0 < (128 : Int32)) (hq1 : ¬ x0 < (224 : Int32)) (hq2 : x0 < (240 : Int32)) : own_K l (⟨"clearcut/Text", "size", "(I)I"⟩ : MethodName) prog_60_method_8_code 1 (some .int) ws ({ frames := 0, cells := 0, slots := 0, locals := 0 } : Room) Z h0 #[(.int x0)] (own_QP h0 (some (.int 3))) := by
  refine own_met (plainFor_of_name pn_78) ?_
  intro p e s m below meth c s₁ hx hby hlk hml hown hnm hrt hZ hh X0 e0
  have N0 := Fr.nil n0
  refine oG m s₁ 0 #[vI x0] [] (fun _ k => castTop (by first | (simp [entryFrame,mkF,argsToLocals,Value.category]; done) | rfl) k) ?_
  have K0 := Keep.refl h0 []
  refine oG m s₁ 34 #[vI x0] [(.int 3)] (fun _ k => XS.iloadN X0.here hx rfl (hb hby d7_0) rfl (XS.sipush X0.here hx rfl (hb hby d7_1) (XS.icmpYes X0.here hx rfl (pc0 := 4) (pc' := 11) rfl (hb hby d7_4) rfl (flt hq0).2.1 (by decide) (by decide) (XS.iloadN X0.here hx rfl (hb hby d7_11) rfl (XS.sipush X0.here hx rfl (hb hby d7_12) (XS.icmpYes X0.here hx rfl (pc0 := 15) (pc' := 22) rfl (hb hby d7_15) rfl (flt hq1).2.1 (by decide) (by decide) (XS.iloadN X0.here hx rfl (hb hby d7_22) rfl (XS.sipush X0.here hx rfl (hb hby d7_23) (XS.icmpNo X0.here hx rfl (hb hby d7_26) rfl (tlt hq2).2.1 (XS.iconst X0.here hx rfl (hb hby d7_29) (XS.goto X0.here hx rfl (pc0 := 30) (pc' := 34) rfl (hb hby d7_30) (by decide) (by decide) k))))))))))) ?_
  refine own_retI X0 hx hlk hrt (hb hby d7_34) (by decide) (by decide) ?_
  exact ⟨by first | rfl | decide, e0, rfl⟩
theorem rmz65 (l : Launch) (Z : State) (a0 : Array Value) (hw : oW a0 Z) (ws : List Jvm.Cond) (ob0 : Addr) (ar0b : Addr) (kr0b : ClassId) (z0b_0 : Int32) (z0b_1 : Int32) (z0b_2 : Int32) (z0b_3 : Int32) (u8 : Addr) (zc : Int32) (fv : Value) (h0 : Heap) (n0 : Nat) (Z0 : n0 ≤ h0.size) (E_ob0 : Exa Z h0 ob0 "clearcut/Text") (g_ob0 : n0 ≤ ob0) (V_ar0b : Arv Z h0 ar0b kr0b .byte (4 : Int32) [(.int z0b_0), (.int z0b_1), (.int z0b_2), (.int z0b_3)] (.int 0)) (g_ar0b : n0 ≤ ar0b) (E_ar0b : Exa Z h0 ar0b "[B") (F_ob0_bytes : Fld Z h0 ob0 "clearcut/Text" "bytes" "[B" (.ref ar0b)) (ne_ob0_ar0b : ob0 ≠ ar0b) (SS : own_Sx Z h0 u8 zc fv) (hq0 : ¬ (z0b_0 &&& (255 : Int32)) < (128 : Int32)) (hq1 : ¬ (z0b_0 &&& (255 : Int32)) < (224 : Int32)) (hq2 : (z0b_0 &&& (255 : Int32)) < (240 : Int32)) : own_K l (⟨"clearcut/Text", "next", "(I)I"⟩ : MethodName) prog_60_method_7_code 2 (some .int) ws ({ frames := 1, cells := 0, slots := 0, locals := 14 } : Room) Z h0 #[(.ref ob0), (.int 0)] (own_QP h0 (some (.int 3))) := by
  refine own_met (plainFor_of_name pn_78) ?_
  intro p e s m below meth c s₁ hx hby hlk hml hown hnm hrt hZ hh X0 e0
  have N0 := Fr.nil n0
  refine oG m s₁ 0 #[vR ob0,vI 0] [] (fun _ k => castTop (by first | (simp [entryFrame,mkF,argsToLocals,Value.category]; done) | rfl) k) ?_
  have K0 := Keep.refl h0 []
  refine oG m s₁ 3 #[vR ob0,vI 0] [(.int 0),(.ref ob0),(.int 0)] (fun _ k => XS.iloadN X0.here hx rfl (hb hby d5_0) rfl (XS.aloadN X0.here hx rfl (hb hby d5_1) rfl rfl (XS.iloadN X0.here hx rfl (hb hby d5_2) rfl k))) ?_
  obtain ⟨cq1, kq1, q1a, q1b, q1c⟩ := isOf hZ e0 E_ob0
  obtain ⟨v1, _, ⟨T1, L1, k1, n1⟩, -, X1, ⟨Lc1, hQ1, l1, y1, z1⟩, st1⟩ := X0.virtualBack hx (y := (⟨"clearcut/Text", "at", "(I)I"⟩ : MethodName)) (z := (⟨"clearcut/Text", "at", "(I)I"⟩ : MethodName)) hown (mvT hZ (oH hw 29 rfl)) (mvT hZ (oH hw 30 rfl)) (notFace_of_selects (args := #[]) (mvT hZ (oH hw 32 rfl))) (mvT hZ (oH hw 32 rfl)) (mvT hZ (oH hw 31 rfl)) (by decide) (backOf (W := 1) (rmz4 l Z a0 hw [] ob0 ar0b kr0b z0b_0 z0b_1 z0b_2 z0b_3 u8 zc fv h0 n0 Z0 E_ob0 g_ob0 V_ar0b g_ar0b E_ar0b F_ob0_bytes ne_ob0_ar0b SS) hZ (oH hw 33 rfl) (oH hw 5 rfl) (by decide) (by decide)) q1a q1c (g := (mkF m 3 #[vR ob0, vI 0] [(.int 0), (.ref ob0), (.int 0)])) rfl (by rw [hml]; rfl) (Steps.refl _) (argsL := [(.int 0)]) (rest := [(.int 0)]) (lenOf pd_79 rfl) rfl (by show 2 * 0 + _ ≤ _; exact Nat.le_of_eq rfl) (hb hby d5_3) (fun _ _ => ⟨rfl, e0, (by decide : 0 + 0 ≤ _), (by decide : 0 + 0 ≤ _)⟩)
  dsimp only [Pt.U, Pt.locs, Pt.cells, Pt.slots] at X1 l1 y1 z1 st1 hQ1
  subst l1 y1 z1
  obtain ⟨rfl, eh1, rfl⟩ := hQ1
  have N1 := Fr.app N0 (Fr.nil n0)
  refine oG m T1 6 #[vR ob0,vI 0] [(.int (z0b_0 &&& (255 : Int32))),(.int 0)] (fun _ k => st1.trans k) ?_
  obtain ⟨T2, X2, e2, st2⟩ := own_cP X1 hx hZ hown (oH hw 34 rfl) (oH hw 35 rfl) (oH hw 5 rfl) (oH hw 36 rfl) (by decide) (rmz64 l Z a0 hw [] (z0b_0 &&& (255 : Int32)) u8 zc fv h0 n0 Z0  SS hq0 hq1 hq2) (W := 1) (by decide) (by decide) (g := (mkF m 6 #[vR ob0, vI 0] [(.int (z0b_0 &&& (255 : Int32))), (.int 0)])) rfl (by rw [hml]; rfl) (argsL := [(.int (z0b_0 &&& (255 : Int32)))]) (rest := [(.int 0)]) (lenOf pd_79 rfl) rfl rfl rfl (hb hby d5_6) eh1 rfl (by decide) (by decide) (by decide : 0 ≤ _) (by decide : 0 ≤ _)
  refine oG m T2 10 #[vR ob0,vI 0] [(.int ((0 : Int32) + (3 : Int32)))] (fun _ k => st2 _ (XS.iadd X2.here hx rfl (hb hby d5_9) rfl k)) ?_
  rw [show ((0 : Int32) + (3 : Int32)) = (3 : Int32) from by decide]
  refine own_retI X2 hx hlk hrt (hb hby d5_10) (by decide) (by decide) ?_
  exact ⟨by first | rfl | decide, e2, rfl⟩
theorem rmz66 (l : Launch) (Z : State) (a0 : Array Value) (hw : oW a0 Z) (ws : List Jvm.Cond) (ob0 : Addr) (ar0b : Addr) (kr0b : ClassId) (z0b_0 : Int32) (z0b_1 : Int32) (z0b_2 : Int32) (z0b_3 : Int32) (u8 : Addr) (zc : Int32) (fv : Value) (h0 : Heap) (n0 : Nat) (Z0 : n0 ≤ h0.size) (E_ob0 : Exa Z h0 ob0 "clearcut/Text") (g_ob0 : n0 ≤ ob0) (V_ar0b : Arv Z h0 ar0b kr0b .byte (4 : Int32) [(.int z0b_0), (.int z0b_1), (.int z0b_2), (.int z0b_3)] (.int 0)) (g_ar0b : n0 ≤ ar0b) (E_ar0b : Exa Z h0 ar0b "[B") (F_ob0_bytes : Fld Z h0 ob0 "clearcut/Text" "bytes" "[B" (.ref ar0b)) (ne_ob0_ar0b : ob0 ≠ ar0b) (SS : own_Sx Z h0 u8 zc fv) (hq0 : ¬ (z0b_0 &&& (255 : Int32)) < (128 : Int32)) (hq1 : ¬ (z0b_0 &&& (255 : Int32)) < (224 : Int32)) (hq2 : (z0b_0 &&& (255 : Int32)) < (240 : Int32)) : own_K l (⟨"clearcut/Text", "codePointAt", "(I)I"⟩ : MethodName) prog_60_method_6_code 6 (some .int) ws ({ frames := 1, cells := 0, slots := 0, locals := 13 } : Room) Z h0 #[(.ref ob0), (.int 0)] (own_QP h0 (some (.int ((((((z0b_0 &&& (255 : Int32)) &&& (15 : Int32)) <<< ((6 : Int32) &&& 31)) ||| (z0b_1 &&& (63 : Int32))) <<< ((6 : Int32) &&& 31)) ||| (z0b_2 &&& (63 : Int32)))))) := by
  refine own_met (plainFor_of_name pn_78) ?_
  intro p e s m below meth c s₁ hx hby hlk hml hown hnm hrt hZ hh X0 e0
  have N0 := Fr.nil n0
  refine oG m s₁ 0 #[vR ob0,vI 0,oU,oU,oU,oU] [] (fun _ k => castTop (by first | (simp [entryFrame,mkF,argsToLocals,Value.category]; done) | rfl) k) ?_
  have K0 := Keep.refl h0 []
  refine oG m s₁ 2 #[vR ob0,vI 0,oU,oU,oU,oU] [(.int 0),(.ref ob0)] (fun _ k => XS.aloadN X0.here hx rfl (hb hby d8_0) rfl rfl (XS.iloadN X0.here hx rfl (hb hby d8_1) rfl k)) ?_
  obtain ⟨cq1, kq1, q1a, q1b, q1c⟩ := isOf hZ e0 E_ob0
  obtain ⟨v1, _, ⟨T1, L1, k1, n1⟩, -, X1, ⟨Lc1, hQ1, l1, y1, z1⟩, st1⟩ := X0.virtualBack hx (y := (⟨"clearcut/Text", "at", "(I)I"⟩ : MethodName)) (z := (⟨"clearcut/Text", "at", "(I)I"⟩ : MethodName)) hown (mvT hZ (oH hw 29 rfl)) (mvT hZ (oH hw 30 rfl)) (notFace_of_selects (args := #[]) (mvT hZ (oH hw 32 rfl))) (mvT hZ (oH hw 32 rfl)) (mvT hZ (oH hw 31 rfl)) (by decide) (backOf (W := 0) (rmz4 l Z a0 hw [] ob0 ar0b kr0b z0b_0 z0b_1 z0b_2 z0b_3 u8 zc fv h0 n0 Z0 E_ob0 g_ob0 V_ar0b g_ar0b E_ar0b F_ob0_bytes ne_ob0_ar0b SS) hZ (oH hw 33 rfl) (oH hw 5 rfl) (by decide) (by decide)) q1a q1c (g := (mkF m 2 #[vR ob0, vI 0, oU, oU, oU, oU] [(.int 0), (.ref ob0)])) rfl (by rw [hml]; rfl) (Steps.refl _) (argsL := [(.int 0)]) (rest := []) (lenOf pd_79 rfl) rfl (by show 2 * 0 + _ ≤ _; exact Nat.le_of_eq rfl) (hb hby d8_2) (fun _ _ => ⟨rfl, e0, (by decide : 0 + 0 ≤ _), (by decide : 0 + 0 ≤ _)⟩)
  dsimp only [Pt.U, Pt.locs, Pt.cells, Pt.slots] at X1 l1 y1 z1 st1 hQ1
  subst l1 y1 z1
  obtain ⟨rfl, eh1, rfl⟩ := hQ1
  have N1 := Fr.app N0 (Fr.nil n0)
  refine oG m T1 7 #[vR ob0,vI 0,vI (z0b_0 &&& (255 : Int32)),oU,oU,oU] [(.int (z0b_0 &&& (255 : Int32)))] (fun _ k => st1.trans (XS.istoreN X1.here hx rfl (hb hby d8_5) rfl (l' := #[vR ob0,vI 0,vI (z0b_0 &&& (255 : Int32)),oU,oU,oU]) rfl (XS.iloadN X1.here hx rfl (hb hby d8_6) rfl k))) ?_
  obtain ⟨T2, X2, e2, st2⟩ := own_cP X1 hx hZ hown (oH hw 34 rfl) (oH hw 35 rfl) (oH hw 5 rfl) (oH hw 36 rfl) (by decide) (rmz64 l Z a0 hw [] (z0b_0 &&& (255 : Int32)) u8 zc fv h0 n0 Z0  SS hq0 hq1 hq2) (W := 0) (by decide) (by decide) (g := (mkF m 7 #[vR ob0, vI 0, vI (z0b_0 &&& (255 : Int32)), oU, oU, oU] [(.int (z0b_0 &&& (255 : Int32)))])) rfl (by rw [hml]; rfl) (argsL := [(.int (z0b_0 &&& (255 : Int32)))]) (rest := []) (lenOf pd_79 rfl) rfl rfl rfl (hb hby d8_7) eh1 rfl (by decide) (by decide) (by decide : 0 ≤ _) (by decide : 0 ≤ _)
  refine oG m T2 27 #[vR ob0,vI 0,vI (z0b_0 &&& (255 : Int32)),vI 3,oU,oU] [(.int ((3 : Int32) + (1 : Int32))),(.int 255),(.int (z0b_0 &&& (255 : Int32)))] (fun _ k => st2 _ (XS.istoreN X2.here hx rfl (hb hby d8_10) rfl (l' := #[vR ob0,vI 0,vI (z0b_0 &&& (255 : Int32)),vI 3,oU,oU]) rfl (XS.iloadN X2.here hx rfl (hb hby d8_11) rfl (XS.iconst X2.here hx rfl (hb hby d8_12) (XS.icmpYes X2.here hx rfl (pc0 := 13) (pc' := 20) rfl (hb hby d8_13) rfl (feq (by decide)).2 (by decide) (by decide) (XS.iloadN X2.here hx rfl (hb hby d8_20) rfl (XS.sipush X2.here hx rfl (hb hby d8_21) (XS.iloadN X2.here hx rfl (hb hby d8_24) rfl (XS.iconst X2.here hx rfl (hb hby d8_25) (XS.iadd X2.here hx rfl (hb hby d8_26) rfl k)))))))))) ?_
  rw [show ((3 : Int32) + (1 : Int32)) = (4 : Int32) from by decide]
  refine oG m T2 28 #[vR ob0,vI 0,vI (z0b_0 &&& (255 : Int32)),vI 3,oU,oU] [(.int ((255 : Int32) >>> ((4 : Int32) &&& 31))),(.int (z0b_0 &&& (255 : Int32)))] (fun _ k => XS.ishr X2.here hx rfl (hb hby d8_27) rfl k) ?_
  rw [show ((255 : Int32) >>> ((4 : Int32) &&& 31)) = (15 : Int32) from by decide]
  refine oG m T2 46 #[vR ob0,vI 0,vI (z0b_0 &&& (255 : Int32)),vI 3,vI ((z0b_0 &&& (255 : Int32)) &&& (15 : Int32)),vI 1] [(.ref ob0),(.int (((z0b_0 &&& (255 : Int32)) &&& (15 : Int32)) <<< ((6 : Int32) &&& 31)))] (fun _ k => XS.iand X2.here hx rfl (hb hby d8_28) rfl (XS.istore X2.here hx rfl (hb hby d8_29) rfl (l' := #[vR ob0,vI 0,vI (z0b_0 &&& (255 : Int32)),vI 3,vI ((z0b_0 &&& (255 : Int32)) &&& (15 : Int32)),oU]) rfl (XS.iconst X2.here hx rfl (hb hby d8_31) (XS.istore X2.here hx rfl (hb hby d8_32) rfl (l' := #[vR ob0,vI 0,vI (z0b_0 &&& (255 : Int32)),vI 3,vI ((z0b_0 &&& (255 : Int32)) &&& (15 : Int32)),vI 1]) rfl (XS.iload X2.here hx rfl (hb hby d8_34) rfl (XS.iloadN X2.here hx rfl (hb hby d8_36) rfl (XS.icmpNo X2.here hx rfl (hb hby d8_37) rfl (tlt (by decide)).2.1 (XS.iload X2.here hx rfl (hb hby d8_40) rfl (XS.bipush X2.here hx rfl (hb hby d8_42) (XS.ishl X2.here hx rfl (hb hby d8_44) rfl (XS.aloadN X2.here hx rfl (hb hby d8_45) rfl rfl k))))))))))) ?_
  obtain ⟨T3, X3, e3, st3⟩ := getF X2 hx hZ hown (host := "") (Or.inl (oH hw 20 rfl)) Via.refl e2 F_ob0_bytes (g := (mkF m 46 #[vR ob0, vI 0, vI (z0b_0 &&& (255 : Int32)), vI 3, vI ((z0b_0 &&& (255 : Int32)) &&& (15 : Int32)), vI 1] [(.ref ob0), (.int (((z0b_0 &&& (255 : Int32)) &&& (15 : Int32)) <<< ((6 : Int32) &&& 31)))])) rfl rfl (hb hby d8_46)
  refine oG m T3 53 #[vR ob0,vI 0,vI (z0b_0 &&& (255 : Int32)),vI 3,vI ((z0b_0 &&& (255 : Int32)) &&& (15 : Int32)),vI 1] [(.int ((0 : Int32) + (1 : Int32))),(.ref ar0b),(.int (((z0b_0 &&& (255 : Int32)) &&& (15 : Int32)) <<< ((6 : Int32) &&& 31)))] (fun _ k => st3 _ (XS.iloadN X3.here hx rfl (hb hby d8_49) rfl (XS.iload X3.here hx rfl (hb hby d8_50) rfl (XS.iadd X3.here hx rfl (hb hby d8_52) rfl k)))) ?_
  rw [show ((0 : Int32) + (1 : Int32)) = (1 : Int32) from by decide]
  obtain ⟨cl4, Ar4, -, S4, -, H4, -⟩ := id V_ar0b
  have hin4 := inb_of (j := (1 : Int32)) S4 ⟨by decide, by decide⟩
  have hat4 := Has.at (v := (.int z0b_1)) H4 hin4 (by first | rfl | decide)
  refine own_go (S' := (T3.setTop (mkF m 54 #[vR ob0, vI 0, vI (z0b_0 &&& (255 : Int32)), vI 3, vI ((z0b_0 &&& (255 : Int32)) &&& (15 : Int32)), vI 1] [(.int z0b_1), (.int (((z0b_0 &&& (255 : Int32)) &&& (15 : Int32)) <<< ((6 : Int32) &&& 31)))]))) (fun _ kont => X3.baloadBytes hx (j := (1 : Int32)) (v := (.int z0b_1)) (by rw [e3]; exact Ar4.1) (State.isArrayOf_alike hZ.alike Ar4.2.1) Ar4.2.2 hin4 hat4 (g := (mkF m 53 #[vR ob0, vI 0, vI (z0b_0 &&& (255 : Int32)), vI 3, vI ((z0b_0 &&& (255 : Int32)) &&& (15 : Int32)), vI 1] [(.int 1), (.ref ar0b), (.int (((z0b_0 &&& (255 : Int32)) &&& (15 : Int32)) <<< ((6 : Int32) &&& 31)))])) rfl rfl (hb hby d8_53) _ kont) ?_
  refine oG m T3 63 #[vR ob0,vI 0,vI (z0b_0 &&& (255 : Int32)),vI 3,vI ((((z0b_0 &&& (255 : Int32)) &&& (15 : Int32)) <<< ((6 : Int32) &&& 31)) ||| (z0b_1 &&& (63 : Int32))),vI ((1 : Int32) + (1 : Int32))] [] (fun _ k => XS.bipush X3.here hx rfl (hb hby d8_54) (XS.iand X3.here hx rfl (hb hby d8_56) rfl (XS.ior X3.here hx rfl (hb hby d8_57) rfl (XS.istore X3.here hx rfl (hb hby d8_58) rfl (l' := #[vR ob0,vI 0,vI (z0b_0 &&& (255 : Int32)),vI 3,vI ((((z0b_0 &&& (255 : Int32)) &&& (15 : Int32)) <<< ((6 : Int32) &&& 31)) ||| (z0b_1 &&& (63 : Int32))),vI 1]) rfl (XS.iinc X3.here hx rfl (hb hby d8_60) rfl (l' := #[vR ob0,vI 0,vI (z0b_0 &&& (255 : Int32)),vI 3,vI ((((z0b_0 &&& (255 : Int32)) &&& (15 : Int32)) <<< ((6 : Int32) &&& 31)) ||| (z0b_1 &&& (63 : Int32))),vI ((1 : Int32) + (1 : Int32))]) rfl k))))) ?_
  rw [show ((1 : Int32) + (1 : Int32)) = (2 : Int32) from by decide]
  refine oG m T3 46 #[vR ob0,vI 0,vI (z0b_0 &&& (255 : Int32)),vI 3,vI ((((z0b_0 &&& (255 : Int32)) &&& (15 : Int32)) <<< ((6 : Int32) &&& 31)) ||| (z0b_1 &&& (63 : Int32))),vI 2] [(.ref ob0),(.int (((((z0b_0 &&& (255 : Int32)) &&& (15 : Int32)) <<< ((6 : Int32) &&& 31)) ||| (z0b_1 &&& (63 : Int32))) <<< ((6 : Int32) &&& 31)))] (fun _ k => XS.goto X3.here hx rfl (pc0 := 63) (pc' := 34) rfl (hb hby d8_63) (by decide) (by decide) (XS.iload X3.here hx rfl (hb hby d8_34) rfl (XS.iloadN X3.here hx rfl (hb hby d8_36) rfl (XS.icmpNo X3.here hx rfl (hb hby d8_37) rfl (tlt (by decide)).2.1 (XS.iload X3.here hx rfl (hb hby d8_40) rfl (XS.bipush X3.here hx rfl (hb hby d8_42) (XS.ishl X3.here hx rfl (hb hby d8_44) rfl (XS.aloadN X3.here hx rfl (hb hby d8_45) rfl rfl k)))))))) ?_
  obtain ⟨T5, X5, e5, st5⟩ := getF X3 hx hZ hown (host := "") (Or.inl (oH hw 20 rfl)) Via.refl e3 F_ob0_bytes (g := (mkF m 46 #[vR ob0, vI 0, vI (z0b_0 &&& (255 : Int32)), vI 3, vI ((((z0b_0 &&& (255 : Int32)) &&& (15 : Int32)) <<< ((6 : Int32) &&& 31)) ||| (z0b_1 &&& (63 : Int32))), vI 2] [(.ref ob0), (.int (((((z0b_0 &&& (255 : Int32)) &&& (15 : Int32)) <<< ((6 : Int32) &&& 31)) ||| (z0b_1 &&& (63 : Int32))) <<< ((6 : Int32) &&& 31)))])) rfl rfl (hb hby d8_46)
  refine oG m T5 53 #[vR ob0,vI 0,vI (z0b_0 &&& (255 : Int32)),vI 3,vI ((((z0b_0 &&& (255 : Int32)) &&& (15 : Int32)) <<< ((6 : Int32) &&& 31)) ||| (z0b_1 &&& (63 : Int32))),vI 2] [(.int ((0 : Int32) + (2 : Int32))),(.ref ar0b),(.int (((((z0b_0 &&& (255 : Int32)) &&& (15 : Int32)) <<< ((6 : Int32) &&& 31)) ||| (z0b_1 &&& (63 : Int32))) <<< ((6 : Int32) &&& 31)))] (fun _ k => st5 _ (XS.iloadN X5.here hx rfl (hb hby d8_49) rfl (XS.iload X5.here hx rfl (hb hby d8_50) rfl (XS.iadd X5.here hx rfl (hb hby d8_52) rfl k)))) ?_
  rw [show ((0 : Int32) + (2 : Int32)) = (2 : Int32) from by decide]
  obtain ⟨cl6, Ar6, -, S6, -, H6, -⟩ := id V_ar0b
  have hin6 := inb_of (j := (2 : Int32)) S6 ⟨by decide, by decide⟩
  have hat6 := Has.at (v := (.int z0b_2)) H6 hin6 (by first | rfl | decide)
  refine own_go (S' := (T5.setTop (mkF m 54 #[vR ob0, vI 0, vI (z0b_0 &&& (255 : Int32)), vI 3, vI ((((z0b_0 &&& (255 : Int32)) &&& (15 : Int32)) <<< ((6 : Int32) &&& 31)) ||| (z0b_1 &&& (63 : Int32))), vI 2] [(.int z0b_2), (.int (((((z0b_0 &&& (255 : Int32)) &&& (15 : Int32)) <<< ((6 : Int32) &&& 31)) ||| (z0b_1 &&& (63 : Int32))) <<< ((6 : Int32) &&& 31)))]))) (fun _ kont => X5.baloadBytes hx (j := (2 : Int32)) (v := (.int z0b_2)) (by rw [e5]; exact Ar6.1) (State.isArrayOf_alike hZ.alike Ar6.2.1) Ar6.2.2 hin6 hat6 (g := (mkF m 53 #[vR ob0, vI 0, vI (z0b_0 &&& (255 : Int32)), vI 3, vI ((((z0b_0 &&& (255 : Int32)) &&& (15 : Int32)) <<< ((6 : Int32) &&& 31)) ||| (z0b_1 &&& (63 : Int32))), vI 2] [(.int 2), (.ref ar0b), (.int (((((z0b_0 &&& (255 : Int32)) &&& (15 : Int32)) <<< ((6 : Int32) &&& 31)) ||| (z0b_1 &&& (63 : Int32))) <<< ((6 : Int32) &&& 31)))])) rfl rfl (hb hby d8_53) _ kont) ?_
  refine oG m T5 63 #[vR ob0,vI 0,vI (z0b_0 &&& (255 : Int32)),vI 3,vI ((((((z0b_0 &&& (255 : Int32)) &&& (15 : Int32)) <<< ((6 : Int32) &&& 31)) ||| (z0b_1 &&& (63 : Int32))) <<< ((6 : Int32) &&& 31)) ||| (z0b_2 &&& (63 : Int32))),vI ((2 : Int32) + (1 : Int32))] [] (fun _ k => XS.bipush X5.here hx rfl (hb hby d8_54) (XS.iand X5.here hx rfl (hb hby d8_56) rfl (XS.ior X5.here hx rfl (hb hby d8_57) rfl (XS.istore X5.here hx rfl (hb hby d8_58) rfl (l' := #[vR ob0,vI 0,vI (z0b_0 &&& (255 : Int32)),vI 3,vI ((((((z0b_0 &&& (255 : Int32)) &&& (15 : Int32)) <<< ((6 : Int32) &&& 31)) ||| (z0b_1 &&& (63 : Int32))) <<< ((6 : Int32) &&& 31)) ||| (z0b_2 &&& (63 : Int32))),vI 2]) rfl (XS.iinc X5.here hx rfl (hb hby d8_60) rfl (l' := #[vR ob0,vI 0,vI (z0b_0 &&& (255 : Int32)),vI 3,vI ((((((z0b_0 &&& (255 : Int32)) &&& (15 : Int32)) <<< ((6 : Int32) &&& 31)) ||| (z0b_1 &&& (63 : Int32))) <<< ((6 : Int32) &&& 31)) ||| (z0b_2 &&& (63 : Int32))),vI ((2 : Int32) + (1 : Int32))]) rfl k))))) ?_
  rw [show ((2 : Int32) + (1 : Int32)) = (3 : Int32) from by decide]
  refine oG m T5 68 #[vR ob0,vI 0,vI (z0b_0 &&& (255 : Int32)),vI 3,vI ((((((z0b_0 &&& (255 : Int32)) &&& (15 : Int32)) <<< ((6 : Int32) &&& 31)) ||| (z0b_1 &&& (63 : Int32))) <<< ((6 : Int32) &&& 31)) ||| (z0b_2 &&& (63 : Int32))),vI 3] [(.int ((((((z0b_0 &&& (255 : Int32)) &&& (15 : Int32)) <<< ((6 : Int32) &&& 31)) ||| (z0b_1 &&& (63 : Int32))) <<< ((6 : Int32) &&& 31)) ||| (z0b_2 &&& (63 : Int32))))] (fun _ k => XS.goto X5.here hx rfl (pc0 := 63) (pc' := 34) rfl (hb hby d8_63) (by decide) (by decide) (XS.iload X5.here hx rfl (hb hby d8_34) rfl (XS.iloadN X5.here hx rfl (hb hby d8_36) rfl (XS.icmpYes X5.here hx rfl (pc0 := 37) (pc' := 66) rfl (hb hby d8_37) rfl (flt (by decide)).2.1 (by decide) (by decide) (XS.iload X5.here hx rfl (hb hby d8_66) rfl k))))) ?_
  refine own_retI X5 hx hlk hrt (hb hby d8_68) (by decide) (by decide) ?_
  exact ⟨by first | rfl | decide, e5, rfl⟩
theorem rmz67 (l : Launch) (Z : State) (a0 : Array Value) (hw : oW a0 Z) (ws : List Jvm.Cond) (ar0 : Addr) (kr0 : ClassId) (z0_0 : Int32) (z0_1 : Int32) (z0_2 : Int32) (z0_3 : Int32) (u8 : Addr) (zc : Int32) (fv : Value) (h0 : Heap) (n0 : Nat) (Z0 : n0 ≤ h0.size) (V_ar0 : Arv Z h0 ar0 kr0 .byte (4 : Int32) [(.int z0_0), (.int z0_1), (.int z0_2), (.int z0_3)] (.int 0)) (g_ar0 : n0 ≤ ar0) (E_ar0 : Exa Z h0 ar0 "[B")  (SS : own_Sx Z h0 u8 zc fv) (hq0 : z0_0 < (0 : Int32)) : own_K l (⟨"java/lang/StringCoding", "countPositives", "([BII)I"⟩ : MethodName) jdk_123_method_3_code 5 (some .int) ws ({ frames := 0, cells := 0, slots := 0, locals := 0 } : Room) Z h0 #[(.ref ar0), (.int 0), (.int 3)] (own_QP h0 (some (.int 0))) := by
  refine own_met (plainFor_of_name pn_240) ?_
  intro p e s m below meth c s₁ hx hby hlk hml hown hnm hrt hZ hh X0 e0
  have N0 := Fr.nil n0
  refine oG m s₁ 0 #[vR ar0,vI 0,vI 3,oU,oU] [] (fun _ k => castTop (by first | (simp [entryFrame,mkF,argsToLocals,Value.category]; done) | rfl) k) ?_
  have K0 := Keep.refl h0 []
  refine oG m s₁ 3 #[vR ar0,vI 0,vI 3,oU,oU] [(.int ((0 : Int32) + (3 : Int32)))] (fun _ k => XS.iloadN X0.here hx rfl (hb hby d15_0) rfl (XS.iloadN X0.here hx rfl (hb hby d15_1) rfl (XS.iadd X0.here hx rfl (hb hby d15_2) rfl k))) ?_
  rw [show ((0 : Int32) + (3 : Int32)) = (3 : Int32) from by decide]
  refine oG m s₁ 16 #[vR ar0,vI 0,vI 3,vI 3,vI 0] [(.int 0),(.ref ar0)] (fun _ k => XS.istoreN X0.here hx rfl (hb hby d15_3) rfl (l' := #[vR ar0,vI 0,vI 3,vI 3,oU]) rfl (XS.iloadN X0.here hx rfl (hb hby d15_4) rfl (XS.istore X0.here hx rfl (hb hby d15_5) rfl (l' := #[vR ar0,vI 0,vI 3,vI 3,vI 0]) rfl (XS.iload X0.here hx rfl (hb hby d15_7) rfl (XS.iloadN X0.here hx rfl (hb hby d15_9) rfl (XS.icmpNo X0.here hx rfl (hb hby d15_10) rfl (tlt (by decide)).2.1 (XS.aloadN X0.here hx rfl (hb hby d15_13) rfl rfl (XS.iload X0.here hx rfl (hb hby d15_14) rfl k)))))))) ?_
  obtain ⟨cl1, Ar1, -, S1, -, H1, -⟩ := id V_ar0
  have hin1 := inb_of (j := (0 : Int32)) S1 ⟨by decide, by decide⟩
  have hat1 := Has.at (v := (.int z0_0)) H1 hin1 (by first | rfl | decide)
  refine own_go (S' := (s₁.setTop (mkF m 17 #[vR ar0, vI 0, vI 3, vI 3, vI 0] [(.int z0_0)]))) (fun _ kont => X0.baloadBytes hx (j := (0 : Int32)) (v := (.int z0_0)) (by rw [e0]; exact Ar1.1) (State.isArrayOf_alike hZ.alike Ar1.2.1) Ar1.2.2 hin1 hat1 (g := (mkF m 16 #[vR ar0, vI 0, vI 3, vI 3, vI 0] [(.int 0), (.ref ar0)])) rfl rfl (hb hby d15_16) _ kont) ?_
  refine oG m s₁ 24 #[vR ar0,vI 0,vI 3,vI 3,vI 0] [(.int ((0 : Int32) - (0 : Int32)))] (fun _ k => XS.ifNo X0.here hx rfl (hb hby d15_17) rfl ((if0 _ _).trans (tlt hq0).2.1) (XS.iload X0.here hx rfl (hb hby d15_20) rfl (XS.iloadN X0.here hx rfl (hb hby d15_22) rfl (XS.isub X0.here hx rfl (hb hby d15_23) rfl k)))) ?_
  rw [show ((0 : Int32) - (0 : Int32)) = (0 : Int32) from by decide]
  refine own_retI X0 hx hlk hrt (hb hby d15_24) (by decide) (by decide) ?_
  exact ⟨by first | rfl | decide, e0, rfl⟩
def Q_rmz68 (Z : State) (ar0 : Addr) (kr0 : ClassId) (z0_0 : Int32) (z0_1 : Int32) (z0_2 : Int32) (z0_3 : Int32) (u8 : Addr) (zc : Int32) (fv : Value) (h0 : Heap) (n0 : Nat) (v : Option Value) (h : Heap) (L : List Loc) : Prop := ∃ (NA0 : Addr) (KA0 : ClassId), v = some (.ref NA0) ∧ Fr n0 L ∧ Keep h0 h [] ∧ h0.size ≤ NA0 ∧ Arv Z h NA0 KA0 .byte (3 : Int32) [(.int z0_0), (.int z0_1), (.int z0_2)] (.int 0)
theorem rmz68 (l : Launch) (Z : State) (a0 : Array Value) (hw : oW a0 Z) (ws : List Jvm.Cond) (ar0 : Addr) (kr0 : ClassId) (z0_0 : Int32) (z0_1 : Int32) (z0_2 : Int32) (z0_3 : Int32) (u8 : Addr) (zc : Int32) (fv : Value) (h0 : Heap) (n0 : Nat) (Z0 : n0 ≤ h0.size) (V_ar0 : Arv Z h0 ar0 kr0 .byte (4 : Int32) [(.int z0_0), (.int z0_1), (.int z0_2), (.int z0_3)] (.int 0)) (g_ar0 : n0 ≤ ar0) (E_ar0 : Exa Z h0 ar0 "[B")  (SS : own_Sx Z h0 u8 zc fv)  : own_K l (⟨"java/util/Arrays", "copyOfRangeByte", "([BII)[B"⟩ : MethodName) jdk_65_method_133_code 5 (some (.array .byte)) ws ({ frames := 1, cells := 1, slots := 3, locals := 18 } : Room) Z h0 #[(.ref ar0), (.int 0), (.int 3)] (Q_rmz68 Z ar0 kr0 z0_0 z0_1 z0_2 z0_3 u8 zc fv h0 n0) := by
  refine own_met (plainFor_of_name pn_268) ?_
  intro p e s m below meth c s₁ hx hby hlk hml hown hnm hrt hZ hh X0 e0
  have N0 := Fr.nil n0
  refine oG m s₁ 0 #[vR ar0,vI 0,vI 3,oU,oU] [] (fun _ k => castTop (by first | (simp [entryFrame,mkF,argsToLocals,Value.category]; done) | rfl) k) ?_
  have K0 := Keep.refl h0 []
  refine oG m s₁ 2 #[vR ar0,vI 0,vI 3,oU,oU] [(.int 3),(.int 0)] (fun _ k => XS.iloadN X0.here hx rfl (hb hby d17_0) rfl (XS.iloadN X0.here hx rfl (hb hby d17_1) rfl k)) ?_
  obtain ⟨T1, X1, e1, st1⟩ := own_cP X0 hx hZ hown (oH hw 93 rfl) (oH hw 94 rfl) (oH hw 88 rfl) (oH hw 95 rfl) (by decide) (rmz12 l Z a0 hw [] (0 : Int32) (3 : Int32) u8 zc fv h0 n0 Z0  SS (by decide)) (W := 0) (by decide) (by decide) (g := (mkF m 2 #[vR ar0, vI 0, vI 3, oU, oU] [(.int 3), (.int 0)])) rfl (by rw [hml]; rfl) (argsL := [(.int 0), (.int 3)]) (rest := []) (lenOf pd_270 rfl) rfl rfl rfl (hb hby d17_2) e0 rfl (by decide) (by decide) (by decide : 0 ≤ _) (by decide : 0 ≤ _)
  refine oG m T1 8 #[vR ar0,vI 0,vI 3,oU,oU] [(.int ((3 : Int32) - (0 : Int32)))] (fun _ k => st1 _ (XS.iloadN X1.here hx rfl (hb hby d17_5) rfl (XS.iloadN X1.here hx rfl (hb hby d17_6) rfl (XS.isub X1.here hx rfl (hb hby d17_7) rfl k)))) ?_
  rw [show ((3 : Int32) - (0 : Int32)) = (3 : Int32) from by decide]
  refine oG m T1 10 #[vR ar0,vI 0,vI 3,vI 3,oU] [(.int 3)] (fun _ k => XS.istoreN X1.here hx rfl (hb hby d17_8) rfl (l' := #[vR ar0,vI 0,vI 3,vI 3,oU]) rfl (XS.iloadN X1.here hx rfl (hb hby d17_9) rfl k)) ?_
  obtain ⟨T2, h2, k2, X2, e2, E2, A2, st2⟩ := newP X1 hx hZ (oH hw 7 rfl) e1 (g := (mkF m 10 #[vR ar0, vI 0, vI 3, vI 3, oU] [(.int 3)])) rfl (hb hby d17_10) rfl (by decide) (cap := 3) (by decide) (by decide) (by decide) (by decide)
  obtain ⟨b2, gz2⟩ : ∃ z, z = h0.size := ⟨_, rfl⟩
  rw [← gz2] at A2 st2
  have sz_b2 : h0.size ≤ b2 := Nat.le_trans K0.1 (Nat.le_of_eq gz2.symm)
  have ne_ar0_b2 : ar0 ≠ b2 := Nat.ne_of_lt (by rw [gz2]; exact V_ar0.lt)
  have c2_Var0 := V_ar0.ext E2
  have c2_Ear0 := E_ar0.ext E2
  have c2_USS := SS.ext E2
  have K2 := K0.ext E2
  have g_b2 : n0 ≤ b2 := Nat.le_trans Z0 (Nat.le_of_eq gz2.symm)
  have V2 := Arv.new A2 (by decide)
  have Z2 : n0 ≤ h2.size := Nat.le_trans Z0 E2.1
  refine oG m T2 12 #[vR ar0,vI 0,vI 3,vI 3,oU] [(.ref b2)] (fun _ k => st2 _ k) ?_
  have V3 : Arv Z h2 b2 k2 .byte (3 : Int32) [(.int 0), (.int 0), (.int 0)] (.int 0) := V2.pad (pad_rep [] (.int 0) 3)
  refine oG m T2 20 #[vR ar0,vI 0,vI 3,vI 3,vR b2] [(.ref ar0),(.int 0),(.ref b2),(.int 0),(.ref ar0)] (fun _ k => XS.astore X2.here hx rfl (hb hby d17_12) rfl rfl (l' := #[vR ar0,vI 0,vI 3,vI 3,vR b2]) rfl (XS.aloadN X2.here hx rfl (hb hby d17_14) rfl rfl (XS.iloadN X2.here hx rfl (hb hby d17_15) rfl (XS.aload X2.here hx rfl (hb hby d17_16) rfl rfl (XS.iconst X2.here hx rfl (hb hby d17_18) (XS.aloadN X2.here hx rfl (hb hby d17_19) rfl rfl k)))))) ?_
  obtain ⟨cl4, Ar4, -, S4, M4, -, -⟩ := id c2_Var0
  have ql4 := len_of S4 M4
  refine own_go (S' := (T2.setTop (mkF m 21 #[vR ar0, vI 0, vI 3, vI 3, vR b2] [(.int 4), (.int 0), (.ref b2), (.int 0), (.ref ar0)]))) (fun _ kont => X2.arraylength hx (by rw [e2]; exact Ar4.1) (State.isArrayOf_alike hZ.alike Ar4.2.1) (g := (mkF m 20 #[vR ar0, vI 0, vI 3, vI 3, vR b2] [(.ref ar0), (.int 0), (.ref b2), (.int 0), (.ref ar0)])) rfl rfl (hb hby d17_20) _ (by rw [ql4]; exact kont)) ?_
  refine oG m T2 23 #[vR ar0,vI 0,vI 3,vI 3,vR b2] [(.int ((4 : Int32) - (0 : Int32))),(.int 0),(.ref b2),(.int 0),(.ref ar0)] (fun _ k => XS.iloadN X2.here hx rfl (hb hby d17_21) rfl (XS.isub X2.here hx rfl (hb hby d17_22) rfl k)) ?_
  rw [show ((4 : Int32) - (0 : Int32)) = (4 : Int32) from by decide]
  refine oG m T2 24 #[vR ar0,vI 0,vI 3,vI 3,vR b2] [(.int 3),(.int 4),(.int 0),(.ref b2),(.int 0),(.ref ar0)] (fun _ k => XS.iloadN X2.here hx rfl (hb hby d17_23) rfl k) ?_
  obtain ⟨T5, X5, e5, st5⟩ := own_cP X2 hx hZ hown (oH hw 96 rfl) (oH hw 97 rfl) (oH hw 98 rfl) (oH hw 99 rfl) (by decide) (rmz13 l Z a0 hw [] (4 : Int32) (3 : Int32) u8 zc fv h2 n0 Z2  c2_USS (by decide)) (W := 4) (by decide) (by decide) (g := (mkF m 24 #[vR ar0, vI 0, vI 3, vI 3, vR b2] [(.int 3), (.int 4), (.int 0), (.ref b2), (.int 0), (.ref ar0)])) rfl (by rw [hml]; rfl) (argsL := [(.int 4), (.int 3)]) (rest := [(.int 0), (.ref b2), (.int 0), (.ref ar0)]) (lenOf pd_293 rfl) rfl rfl rfl (hb hby d17_24) e2 rfl (by decide) (by decide) (by decide : 1 ≤ _) (by decide : 3 ≤ _)
  refine oG m T5 27 #[vR ar0,vI 0,vI 3,vI 3,vR b2] [(.int 3),(.int 0),(.ref b2),(.int 0),(.ref ar0)] (fun _ k => st5 _ k) ?_
  obtain ⟨T6, h6, L6, X6, e6, N6, Kc6, Vd6, st6⟩ := cpA X5 hx hZ hown (oH hw 100 rfl) (oH hw 103 rfl) (oH hw 101 rfl) (oH hw 102 rfl) e5 (us := [(.int z0_0), (.int z0_1), (.int z0_2)]) c2_Var0 V3 (Or.inl ⟨rfl, rfl⟩) (sp := (0 : Int32)) (dp := (0 : Int32)) (nn := (3 : Int32)) (by decide) (by decide) (by decide) (by decide) (by decide) (by first | rfl | simp) (by first | decide | exact Nat.le_of_ble_eq_true rfl) N0 g_b2 (g := (mkF m 27 #[vR ar0, vI 0, vI 3, vI 3, vR b2] [(.int 3), (.int 0), (.ref b2), (.int 0), (.ref ar0)])) rfl (by rw [hml]; rfl) rfl (hb hby d17_27) (by decide) (W := 0) (by show 2 * 0 + _ ≤ _; exact Nat.le_of_eq rfl) (by decide)
  have Vn6 : Arv Z h6 b2 k2 .byte (3 : Int32) [(.int z0_0), (.int z0_1), (.int z0_2)] (.int 0) := Vd6
  have Z6 : n0 ≤ h6.size := Nat.le_trans Z2 Kc6.1
  have Kt6 := K2.trans Kc6 (fun x hx => by cases List.mem_singleton.mp hx; first | (left; simp; done) | (right; assumption))
  have c6_Var0 := c2_Var0.keep Kc6 (ninS ne_ar0_b2 nin0)
  have c6_Ear0 := c2_Ear0.keep Kc6
  have c6_USS := c2_USS.keep Kc6 (own_nsS (own_nsA V3) own_ns0)
  refine oG m T6 32 #[vR ar0,vI 0,vI 3,vI 3,vR b2] [(.ref b2)] (fun _ k => st6 _ (XS.aload X6.here hx rfl (hb hby d17_30) rfl rfl k)) ?_
  refine own_retA X6 hx hlk (rfl) rfl hrt (hb hby d17_32) (by decide) (by decide) ?_
  rw [e6]
  exact ⟨b2, k2, (by first | rfl | decide), N6, Kt6, sz_b2, Vn6⟩
def Q_rmz69 (Z : State) (ar0 : Addr) (kr0 : ClassId) (z0_0 : Int32) (z0_1 : Int32) (z0_2 : Int32) (z0_3 : Int32) (u8 : Addr) (zc : Int32) (fv : Value) (h0 : Heap) (n0 : Nat) (v : Option Value) (h : Heap) (L : List Loc) : Prop := ∃ (NA0 : Addr) (KA0 : ClassId), v = some (.ref NA0) ∧ Fr n0 L ∧ Keep h0 h [] ∧ h0.size ≤ NA0 ∧ Arv Z h NA0 KA0 .byte (3 : Int32) [(.int z0_0), (.int z0_1), (.int z0_2)] (.int 0)
theorem rmz69 (l : Launch) (Z : State) (a0 : Array Value) (hw : oW a0 Z) (ws : List Jvm.Cond) (ar0 : Addr) (kr0 : ClassId) (z0_0 : Int32) (z0_1 : Int32) (z0_2 : Int32) (z0_3 : Int32) (u8 : Addr) (zc : Int32) (fv : Value) (h0 : Heap) (n0 : Nat) (Z0 : n0 ≤ h0.size) (V_ar0 : Arv Z h0 ar0 kr0 .byte (4 : Int32) [(.int z0_0), (.int z0_1), (.int z0_2), (.int z0_3)] (.int 0)) (g_ar0 : n0 ≤ ar0) (E_ar0 : Exa Z h0 ar0 "[B")  (SS : own_Sx Z h0 u8 zc fv)  : own_K l (⟨"java/util/Arrays", "copyOfRange", "([BII)[B"⟩ : MethodName) jdk_65_method_132_code 3 (some (.array .byte)) ws ({ frames := 2, cells := 1, slots := 3, locals := 34 } : Room) Z h0 #[(.ref ar0), (.int 0), (.int 3)] (Q_rmz69 Z ar0 kr0 z0_0 z0_1 z0_2 z0_3 u8 zc fv h0 n0) := by
  refine own_met (plainFor_of_name pn_268) ?_
  intro p e s m below meth c s₁ hx hby hlk hml hown hnm hrt hZ hh X0 e0
  have N0 := Fr.nil n0
  refine oG m s₁ 0 #[vR ar0,vI 0,vI 3] [] (fun _ k => castTop (by first | (simp [entryFrame,mkF,argsToLocals,Value.category]; done) | rfl) k) ?_
  have K0 := Keep.refl h0 []
  refine oG m s₁ 6 #[vR ar0,vI 0,vI 3] [(.ref ar0),(.int 3)] (fun _ k => XS.iloadN X0.here hx rfl (hb hby d16_0) rfl (XS.ifNo X0.here hx rfl (hb hby d16_1) rfl ((if0 _ _).trans (teq (by decide)).2) (XS.iloadN X0.here hx rfl (hb hby d16_4) rfl (XS.aloadN X0.here hx rfl (hb hby d16_5) rfl rfl k)))) ?_
  obtain ⟨cl1, Ar1, -, S1, M1, -, -⟩ := id V_ar0
  have ql1 := len_of S1 M1
  refine own_go (S' := (s₁.setTop (mkF m 7 #[vR ar0, vI 0, vI 3] [(.int 4), (.int 3)]))) (fun _ kont => X0.arraylength hx (by rw [e0]; exact Ar1.1) (State.isArrayOf_alike hZ.alike Ar1.2.1) (g := (mkF m 6 #[vR ar0, vI 0, vI 3] [(.ref ar0), (.int 3)])) rfl rfl (hb hby d16_6) _ (by rw [ql1]; exact kont)) ?_
  refine oG m s₁ 13 #[vR ar0,vI 0,vI 3] [(.int 3),(.int 0),(.ref ar0)] (fun _ k => XS.icmpNo X0.here hx rfl (hb hby d16_7) rfl (feq (by decide)).1 (XS.aloadN X0.here hx rfl (hb hby d16_10) rfl rfl (XS.iloadN X0.here hx rfl (hb hby d16_11) rfl (XS.iloadN X0.here hx rfl (hb hby d16_12) rfl k)))) ?_
  obtain ⟨v2, T2, Lc2, X2, hQ2, st2⟩ := own_cS X0 hx hZ hown (oH hw 90 rfl) (oH hw 91 rfl) (oH hw 88 rfl) (oH hw 92 rfl) (by decide) (rmz68 l Z a0 hw [] ar0 kr0 z0_0 z0_1 z0_2 z0_3 u8 zc fv h0 n0 Z0 V_ar0 g_ar0 E_ar0 SS) (W := 0) (by decide) (by decide) (g := (mkF m 13 #[vR ar0, vI 0, vI 3] [(.int 3), (.int 0), (.ref ar0)])) rfl (by rw [hml]; rfl) (argsL := [(.ref ar0), (.int 0), (.int 3)]) (rest := []) (lenOf pd_298 rfl) rfl rfl rfl (hb hby d16_13) e0 rfl (by decide : 0 + 1 ≤ _) (by decide : 0 + 3 ≤ _)
  obtain ⟨na2_0, ka2_0, rfl, Nq2, Kc2, sa2_0, va2_0⟩ := hQ2
  have Kt2 := K0.trans Kc2 (fun x hx => nomatch hx)
  have N2 := Fr.app N0 Nq2
  have Z2 : n0 ≤ T2.heap.size := Nat.le_trans Z0 Kc2.1
  have c2_Var0 := V_ar0.keep Kc2 nin0
  have c2_Ear0 := E_ar0.keep Kc2
  have c2_USS := SS.keep Kc2 own_ns0
  refine oG m T2 16 #[vR ar0,vI 0,vI 3] [(.ref na2_0)] (fun _ k => st2 _ k) ?_
  have g_na2_0 : n0 ≤ na2_0 := Nat.le_trans Z0 sa2_0
  have sz_na2_0 : h0.size ≤ na2_0 := Nat.le_trans K0.1 sa2_0
  have ne_ar0_na2_0 : ar0 ≠ na2_0 := Nat.ne_of_lt (Nat.lt_of_lt_of_le E_ar0.lt sa2_0)
  refine own_retA X2 hx hlk (rfl) rfl hrt (hb hby d16_16) (by decide) (by decide) ?_
  exact ⟨na2_0, ka2_0, (by first | rfl | decide), N2, Kt2, sz_na2_0, va2_0⟩
def Q_rmz70 (Z : State)  (u8 : Addr) (zc : Int32) (fv : Value) (h0 : Heap) (n0 : Nat) (v : Option Value) (h : Heap) (L : List Loc) : Prop := ∃ (NA0 : Addr) (KA0 : ClassId), v = some (.ref NA0) ∧ Fr n0 L ∧ Keep h0 h [] ∧ h0.size ≤ NA0 ∧ Arv Z h NA0 KA0 .byte (6 : Int32) [(.int 0), (.int 0), (.int 0), (.int 0), (.int 0), (.int 0)] (.int 0)
theorem rmz70 (l : Launch) (Z : State) (a0 : Array Value) (hw : oW a0 Z) (ws : List Jvm.Cond)  (u8 : Addr) (zc : Int32) (fv : Value) (h0 : Heap) (n0 : Nat) (Z0 : n0 ≤ h0.size)   (SS : own_Sx Z h0 u8 zc fv)  : own_K l (⟨"java/lang/StringUTF16", "newBytesFor", "(I)[B"⟩ : MethodName) jdk_52_method_2_code 1 (some (.array .byte)) ws ({ frames := 1, cells := 1, slots := 6, locals := 12 } : Room) Z h0 #[(.int 3)] (Q_rmz70 Z u8 zc fv h0 n0) := by
  refine own_met (plainFor_of_name pn_537) ?_
  intro p e s m below meth c s₁ hx hby hlk hml hown hnm hrt hZ hh X0 e0
  have N0 := Fr.nil n0
  refine oG m s₁ 0 #[vI 3] [] (fun _ k => castTop (by first | (simp [entryFrame,mkF,argsToLocals,Value.category]; done) | rfl) k) ?_
  have K0 := Keep.refl h0 []
  refine oG m s₁ 1 #[vI 3] [(.int 3)] (fun _ k => XS.iloadN X0.here hx rfl (hb hby d27_0) rfl k) ?_
  obtain ⟨T1, X1, e1, st1⟩ := own_cP X0 hx hZ hown (oH hw 154 rfl) (oH hw 155 rfl) (oH hw 152 rfl) (oH hw 156 rfl) (by decide) (rmz41 l Z a0 hw [] (3 : Int32) u8 zc fv h0 n0 Z0  SS (by decide) (by decide)) (W := 0) (by decide) (by decide) (g := (mkF m 1 #[vI 3] [(.int 3)])) rfl (by rw [hml]; rfl) (argsL := [(.int 3)]) (rest := []) (lenOf pd_79 rfl) rfl rfl rfl (hb hby d27_1) e0 rfl (by decide) (by decide) (by decide : 0 ≤ _) (by decide : 0 ≤ _)
  refine oG m T1 4 #[vI 3] [(.int ((3 : Int32) <<< ((1 : Int32) &&& 31)))] (fun _ k => st1 _ k) ?_
  rw [show ((3 : Int32) <<< ((1 : Int32) &&& 31)) = (6 : Int32) from by decide]
  obtain ⟨T2, h2, k2, X2, e2, E2, A2, st2⟩ := newP X1 hx hZ (oH hw 7 rfl) e1 (g := (mkF m 4 #[vI 3] [(.int 6)])) rfl (hb hby d27_4) rfl (by decide) (cap := 6) (by decide) (by decide) (by decide) (by decide)
  obtain ⟨b2, gz2⟩ : ∃ z, z = h0.size := ⟨_, rfl⟩
  rw [← gz2] at A2 st2
  have sz_b2 : h0.size ≤ b2 := Nat.le_trans K0.1 (Nat.le_of_eq gz2.symm)
  have c2_USS := SS.ext E2
  have K2 := K0.ext E2
  have g_b2 : n0 ≤ b2 := Nat.le_trans Z0 (Nat.le_of_eq gz2.symm)
  have V2 := Arv.new A2 (by decide)
  have Z2 : n0 ≤ h2.size := Nat.le_trans Z0 E2.1
  refine oG m T2 6 #[vI 3] [(.ref b2)] (fun _ k => st2 _ k) ?_
  have V3 : Arv Z h2 b2 k2 .byte (6 : Int32) [(.int 0), (.int 0), (.int 0), (.int 0), (.int 0), (.int 0)] (.int 0) := V2.pad (pad_rep [] (.int 0) 6)
  refine own_retA X2 hx hlk (rfl) rfl hrt (hb hby d27_6) (by decide) (by decide) ?_
  rw [e2]
  exact ⟨b2, k2, (by first | rfl | decide), N0, K2, sz_b2, V3⟩
theorem rmz71 (l : Launch) (Z : State) (a0 : Array Value) (hw : oW a0 Z) (ws : List Jvm.Cond) (ar0 : Addr) (kr0 : ClassId) (z0_0 : Int32) (z0_1 : Int32) (z0_2 : Int32) (z0_3 : Int32) (z0_4 : Int32) (z0_5 : Int32) (u8 : Addr) (zc : Int32) (fv : Value) (h0 : Heap) (n0 : Nat) (Z0 : n0 ≤ h0.size) (V_ar0 : Arv Z h0 ar0 kr0 .byte (6 : Int32) [(.int z0_0), (.int z0_1), (.int z0_2), (.int z0_3), (.int z0_4), (.int z0_5)] (.int 0)) (g_ar0 : n0 ≤ ar0)  (SS : own_Sx Z h0 u8 zc fv)  : own_K l (⟨"java/lang/StringUTF16", "length", "([B)I"⟩ : MethodName) jdk_52_method_6_code 1 (some .int) ws ({ frames := 0, cells := 0, slots := 0, locals := 0 } : Room) Z h0 #[(.ref ar0)] (own_QP h0 (some (.int 3))) := by
  refine own_met (plainFor_of_name pn_537) ?_
  intro p e s m below meth c s₁ hx hby hlk hml hown hnm hrt hZ hh X0 e0
  have N0 := Fr.nil n0
  refine oG m s₁ 0 #[vR ar0] [] (fun _ k => castTop (by first | (simp [entryFrame,mkF,argsToLocals,Value.category]; done) | rfl) k) ?_
  have K0 := Keep.refl h0 []
  refine oG m s₁ 1 #[vR ar0] [(.ref ar0)] (fun _ k => XS.aloadN X0.here hx rfl (hb hby d32_0) rfl rfl k) ?_
  obtain ⟨cl1, Ar1, -, S1, M1, -, -⟩ := id V_ar0
  have ql1 := len_of S1 M1
  refine own_go (S' := (s₁.setTop (mkF m 2 #[vR ar0] [(.int 6)]))) (fun _ kont => X0.arraylength hx (by rw [e0]; exact Ar1.1) (State.isArrayOf_alike hZ.alike Ar1.2.1) (g := (mkF m 1 #[vR ar0] [(.ref ar0)])) rfl rfl (hb hby d32_1) _ (by rw [ql1]; exact kont)) ?_
  refine oG m s₁ 4 #[vR ar0] [(.int ((6 : Int32) >>> ((1 : Int32) &&& 31)))] (fun _ k => XS.iconst X0.here hx rfl (hb hby d32_2) (XS.ishr X0.here hx rfl (hb hby d32_3) rfl k)) ?_
  rw [show ((6 : Int32) >>> ((1 : Int32) &&& 31)) = (3 : Int32) from by decide]
  refine own_retI X0 hx hlk hrt (hb hby d32_4) (by decide) (by decide) ?_
  exact ⟨by first | rfl | decide, e0, rfl⟩
theorem rmz72 (l : Launch) (Z : State) (a0 : Array Value) (hw : oW a0 Z) (ws : List Jvm.Cond) (ar2 : Addr) (kr2 : ClassId) (z2_0 : Int32) (z2_1 : Int32) (z2_2 : Int32) (z2_3 : Int32) (z2_4 : Int32) (z2_5 : Int32) (u8 : Addr) (zc : Int32) (fv : Value) (h0 : Heap) (n0 : Nat) (Z0 : n0 ≤ h0.size) (V_ar2 : Arv Z h0 ar2 kr2 .byte (6 : Int32) [(.int z2_0), (.int z2_1), (.int z2_2), (.int z2_3), (.int z2_4), (.int z2_5)] (.int 0)) (g_ar2 : n0 ≤ ar2)  (SS : own_Sx Z h0 u8 zc fv)  : own_K l (⟨"java/lang/StringUTF16", "checkBoundsOffCount", "(II[B)V"⟩ : MethodName) jdk_52_method_94_code 3 none ws ({ frames := 2, cells := 0, slots := 0, locals := 29 } : Room) Z h0 #[(.int 0), (.int 0), (.ref ar2)] (own_QP h0 (none)) := by
  refine own_met (plainFor_of_name pn_537) ?_
  intro p e s m below meth c s₁ hx hby hlk hml hown hnm hrt hZ hh X0 e0
  have N0 := Fr.nil n0
  refine oG m s₁ 0 #[vI 0,vI 0,vR ar2] [] (fun _ k => castTop (by first | (simp [entryFrame,mkF,argsToLocals,Value.category]; done) | rfl) k) ?_
  have K0 := Keep.refl h0 []
  refine oG m s₁ 3 #[vI 0,vI 0,vR ar2] [(.ref ar2),(.int 0),(.int 0)] (fun _ k => XS.iloadN X0.here hx rfl (hb hby d31_0) rfl (XS.iloadN X0.here hx rfl (hb hby d31_1) rfl (XS.aloadN X0.here hx rfl (hb hby d31_2) rfl rfl k))) ?_
  obtain ⟨T1, X1, e1, st1⟩ := own_cP X0 hx hZ hown (oH hw 167 rfl) (oH hw 168 rfl) (oH hw 152 rfl) (oH hw 169 rfl) (by decide) (rmz71 l Z a0 hw [] ar2 kr2 z2_0 z2_1 z2_2 z2_3 z2_4 z2_5 u8 zc fv h0 n0 Z0 V_ar2 g_ar2 SS) (W := 2) (by decide) (by decide) (g := (mkF m 3 #[vI 0, vI 0, vR ar2] [(.ref ar2), (.int 0), (.int 0)])) rfl (by rw [hml]; rfl) (argsL := [(.ref ar2)]) (rest := [(.int 0), (.int 0)]) (lenOf pd_566 rfl) rfl rfl rfl (hb hby d31_3) e0 rfl (by decide) (by decide) (by decide : 0 ≤ _) (by decide : 0 ≤ _)
  refine oG m T1 6 #[vI 0,vI 0,vR ar2] [(.int 3),(.int 0),(.int 0)] (fun _ k => st1 _ k) ?_
  obtain ⟨T2, X2, e2, st2⟩ := own_cP X1 hx hZ hown (oH hw 170 rfl) (oH hw 67 rfl) (oH hw 54 rfl) (oH hw 68 rfl) (by decide) (rmz10 l Z a0 hw [] (0 : Int32) (0 : Int32) (3 : Int32) u8 zc fv h0 n0 Z0  SS (by decide) (by decide)) (W := 0) (by decide) (by decide) (g := (mkF m 6 #[vI 0, vI 0, vR ar2] [(.int 3), (.int 0), (.int 0)])) rfl (by rw [hml]; rfl) (argsL := [(.int 0), (.int 0), (.int 3)]) (rest := []) (lenOf pd_209 rfl) rfl rfl rfl (hb hby d31_6) e1 rfl (by decide) (by decide) (by decide : 0 ≤ _) (by decide : 0 ≤ _)
  refine oG m T2 10 #[vI 0,vI 0,vR ar2] [] (fun _ k => st2 _ (XS.pop X2.here hx rfl (hb hby d31_9) rfl rfl k)) ?_
  refine own_ret0 X2 hx hlk hrt (hb hby d31_10) (by decide) (by decide) ?_
  exact ⟨by first | rfl | decide, e2, rfl⟩
theorem rmz73 (l : Launch) (Z : State) (a0 : Array Value) (hw : oW a0 Z) (ws : List Jvm.Cond) (ar0 : Addr) (kr0 : ClassId) (z0_0 : Int32) (z0_1 : Int32) (z0_2 : Int32) (ar2 : Addr) (kr2 : ClassId) (z2_0 : Int32) (z2_1 : Int32) (z2_2 : Int32) (z2_3 : Int32) (z2_4 : Int32) (z2_5 : Int32) (u8 : Addr) (zc : Int32) (fv : Value) (h0 : Heap) (n0 : Nat) (Z0 : n0 ≤ h0.size) (V_ar0 : Arv Z h0 ar0 kr0 .byte (3 : Int32) [(.int z0_0), (.int z0_1), (.int z0_2)] (.int 0)) (g_ar0 : n0 ≤ ar0) (V_ar2 : Arv Z h0 ar2 kr2 .byte (6 : Int32) [(.int z2_0), (.int z2_1), (.int z2_2), (.int z2_3), (.int z2_4), (.int z2_5)] (.int 0)) (g_ar2 : n0 ≤ ar2) (ne_ar0_ar2 : ar0 ≠ ar2) (SS : own_Sx Z h0 u8 zc fv)  : own_K l (⟨"java/lang/StringUTF16", "inflate", "([BI[BII)V"⟩ : MethodName) jdk_52_method_86_code 6 none ws ({ frames := 3, cells := 0, slots := 0, locals := 43 } : Room) Z h0 #[(.ref ar0), (.int 0), (.ref ar2), (.int 0), (.int 0)] (own_QP h0 (none)) := by
  refine own_met (plainFor_of_name pn_537) ?_
  intro p e s m below meth c s₁ hx hby hlk hml hown hnm hrt hZ hh X0 e0
  have N0 := Fr.nil n0
  refine oG m s₁ 0 #[vR ar0,vI 0,vR ar2,vI 0,vI 0,oU] [] (fun _ k => castTop (by first | (simp [entryFrame,mkF,argsToLocals,Value.category]; done) | rfl) k) ?_
  have K0 := Keep.refl h0 []
  refine oG m s₁ 4 #[vR ar0,vI 0,vR ar2,vI 0,vI 0,oU] [(.ref ar2),(.int 0),(.int 0)] (fun _ k => XS.iloadN X0.here hx rfl (hb hby d30_0) rfl (XS.iload X0.here hx rfl (hb hby d30_1) rfl (XS.aloadN X0.here hx rfl (hb hby d30_3) rfl rfl k))) ?_
  obtain ⟨T1, X1, e1, st1⟩ := own_cP X0 hx hZ hown (oH hw 164 rfl) (oH hw 165 rfl) (oH hw 152 rfl) (oH hw 166 rfl) (by decide) (rmz72 l Z a0 hw [] ar2 kr2 z2_0 z2_1 z2_2 z2_3 z2_4 z2_5 u8 zc fv h0 n0 Z0 V_ar2 g_ar2 SS) (W := 0) (by decide) (by decide) (g := (mkF m 4 #[vR ar0, vI 0, vR ar2, vI 0, vI 0, oU] [(.ref ar2), (.int 0), (.int 0)])) rfl (by rw [hml]; rfl) (argsL := [(.int 0), (.int 0), (.ref ar2)]) (rest := []) (lenOf pd_571 rfl) rfl rfl rfl (hb hby d30_4) e0 rfl (by decide) (by decide) (by decide : 0 ≤ _) (by decide : 0 ≤ _)
  refine oG m T1 41 #[vR ar0,vI 0,vR ar2,vI 0,vI 0,vI 0] [] (fun _ k => st1 _ (XS.iconst X1.here hx rfl (hb hby d30_7) (XS.istore X1.here hx rfl (hb hby d30_8) rfl (l' := #[vR ar0,vI 0,vR ar2,vI 0,vI 0,vI 0]) rfl (XS.iload X1.here hx rfl (hb hby d30_10) rfl (XS.iload X1.here hx rfl (hb hby d30_12) rfl (XS.icmpYes X1.here hx rfl (pc0 := 14) (pc' := 41) rfl (hb hby d30_14) rfl (flt (by decide)).2.1 (by decide) (by decide) k)))))) ?_
  refine own_ret0 X1 hx hlk hrt (hb hby d30_41) (by decide) (by decide) ?_
  exact ⟨by first | rfl | decide, e1, rfl⟩
theorem rmz74 (l : Launch) (Z : State) (a0 : Array Value) (hw : oW a0 Z) (ws : List Jvm.Cond) (ar0 : Addr) (kr0 : ClassId) (z0_0 : Int32) (z0_1 : Int32) (z0_2 : Int32) (ar2 : Addr) (kr2 : ClassId) (z2_0 : Int32) (z2_1 : Int32) (z2_2 : Int32) (z2_3 : Int32) (z2_4 : Int32) (z2_5 : Int32) (u8 : Addr) (zc : Int32) (fv : Value) (h0 : Heap) (n0 : Nat) (Z0 : n0 ≤ h0.size) (V_ar0 : Arv Z h0 ar0 kr0 .byte (3 : Int32) [(.int z0_0), (.int z0_1), (.int z0_2)] (.int 0)) (g_ar0 : n0 ≤ ar0) (V_ar2 : Arv Z h0 ar2 kr2 .byte (6 : Int32) [(.int z2_0), (.int z2_1), (.int z2_2), (.int z2_3), (.int z2_4), (.int z2_5)] (.int 0)) (g_ar2 : n0 ≤ ar2) (ne_ar0_ar2 : ar0 ≠ ar2) (SS : own_Sx Z h0 u8 zc fv)  : own_K l (⟨"java/lang/StringLatin1", "inflate", "([BI[BII)V"⟩ : MethodName) jdk_43_method_50_code 5 none ws ({ frames := 4, cells := 0, slots := 0, locals := 60 } : Room) Z h0 #[(.ref ar0), (.int 0), (.ref ar2), (.int 0), (.int 0)] (own_QP h0 (none)) := by
  refine own_met (plainFor_of_name pn_370) ?_
  intro p e s m below meth c s₁ hx hby hlk hml hown hnm hrt hZ hh X0 e0
  have N0 := Fr.nil n0
  refine oG m s₁ 0 #[vR ar0,vI 0,vR ar2,vI 0,vI 0] [] (fun _ k => castTop (by first | (simp [entryFrame,mkF,argsToLocals,Value.category]; done) | rfl) k) ?_
  have K0 := Keep.refl h0 []
  refine oG m s₁ 6 #[vR ar0,vI 0,vR ar2,vI 0,vI 0] [(.int 0),(.int 0),(.ref ar2),(.int 0),(.ref ar0)] (fun _ k => XS.aloadN X0.here hx rfl (hb hby d29_0) rfl rfl (XS.iloadN X0.here hx rfl (hb hby d29_1) rfl (XS.aloadN X0.here hx rfl (hb hby d29_2) rfl rfl (XS.iloadN X0.here hx rfl (hb hby d29_3) rfl (XS.iload X0.here hx rfl (hb hby d29_4) rfl k))))) ?_
  obtain ⟨T1, X1, e1, st1⟩ := own_cP X0 hx hZ hown (oH hw 161 rfl) (oH hw 162 rfl) (oH hw 152 rfl) (oH hw 163 rfl) (by decide) (rmz73 l Z a0 hw [] ar0 kr0 z0_0 z0_1 z0_2 ar2 kr2 z2_0 z2_1 z2_2 z2_3 z2_4 z2_5 u8 zc fv h0 n0 Z0 V_ar0 g_ar0 V_ar2 g_ar2 ne_ar0_ar2 SS) (W := 0) (by decide) (by decide) (g := (mkF m 6 #[vR ar0, vI 0, vR ar2, vI 0, vI 0] [(.int 0), (.int 0), (.ref ar2), (.int 0), (.ref ar0)])) rfl (by rw [hml]; rfl) (argsL := [(.ref ar0), (.int 0), (.ref ar2), (.int 0), (.int 0)]) (rest := []) (lenOf pd_579 rfl) rfl rfl rfl (hb hby d29_6) e0 rfl (by decide) (by decide) (by decide : 0 ≤ _) (by decide : 0 ≤ _)
  refine oG m T1 9 #[vR ar0,vI 0,vR ar2,vI 0,vI 0] [] (fun _ k => st1 _ k) ?_
  refine own_ret0 X1 hx hlk hrt (hb hby d29_9) (by decide) (by decide) ?_
  exact ⟨by first | rfl | decide, e1, rfl⟩
def own_d3 (x0 x1 x2 : Int32) : Int32 := (nar .char ((((x0 <<< ((12 : Int32) &&& 31)) ^^^ (x1 <<< ((6 : Int32) &&& 31))) ^^^ (x2 ^^^ (-123008 : Int32))).toUInt32.toUInt16.toUInt32.toInt32))
theorem d33_143 : decode C33 143 = .ok (.iload 6, 2) := by decide +kernel
theorem d33_145 : decode C33 145 = .ok (.iconst 4, 1) := by decide +kernel
theorem d33_146 : decode C33 146 = .ok (.ishr, 1) := by decide +kernel
theorem d33_147 : decode C33 147 = .ok (.bipush (-2), 2) := by decide +kernel
theorem d33_149 : decode C33 149 = .ok (.if_icmp .ne 200, 3) := by decide +kernel
theorem d33_152 : decode C33 152 = .ok (.iload_n 1, 1) := by decide +kernel
theorem d33_153 : decode C33 153 = .ok (.iconst 1, 1) := by decide +kernel
theorem d33_154 : decode C33 154 = .ok (.iadd, 1) := by decide +kernel
theorem d33_155 : decode C33 155 = .ok (.iload_n 2, 1) := by decide +kernel
theorem d33_156 : decode C33 156 = .ok (.if_icmp .ge 127, 3) := by decide +kernel
theorem d33_159 : decode C33 159 = .ok (.aload_n 0, 1) := by decide +kernel
theorem d33_160 : decode C33 160 = .ok (.iload_n 1, 1) := by decide +kernel
theorem d33_161 : decode C33 161 = .ok (.iinc 1 1, 3) := by decide +kernel
theorem d33_164 : decode C33 164 = .ok (.baload, 1) := by decide +kernel
theorem d33_165 : decode C33 165 = .ok (.istore 7, 2) := by decide +kernel
theorem d33_167 : decode C33 167 = .ok (.aload_n 0, 1) := by decide +kernel
theorem d33_168 : decode C33 168 = .ok (.iload_n 1, 1) := by decide +kernel
theorem d33_169 : decode C33 169 = .ok (.iinc 1 1, 3) := by decide +kernel
theorem d33_172 : decode C33 172 = .ok (.baload, 1) := by decide +kernel
theorem d33_173 : decode C33 173 = .ok (.istore 8, 2) := by decide +kernel
theorem d33_175 : decode C33 175 = .ok (.iload 6, 2) := by decide +kernel
theorem d33_177 : decode C33 177 = .ok (.iload 7, 2) := by decide +kernel
theorem d33_179 : decode C33 179 = .ok (.iload 8, 2) := by decide +kernel
theorem d33_181 : decode C33 181 = .ok (.invokestatic 392, 3) := by decide +kernel
theorem pd_749 : parseMethodDescriptor "(III)Z" = some ⟨[.int, .int, .int], some .boolean⟩ := by decide +kernel
theorem d33_184 : decode C33 184 = .ok (.ifCond .eq 40, 3) := by decide +kernel
theorem d33_224 : decode C33 224 = .ok (.iload 6, 2) := by decide +kernel
theorem d33_226 : decode C33 226 = .ok (.iload 7, 2) := by decide +kernel
theorem d33_228 : decode C33 228 = .ok (.iload 8, 2) := by decide +kernel
theorem d46_0 : decode C46 0 = .ok (.iload_n 0, 1) := by decide +kernel
theorem d46_1 : decode C46 1 = .ok (.bipush 12, 2) := by decide +kernel
theorem d46_3 : decode C46 3 = .ok (.ishl, 1) := by decide +kernel
theorem d46_4 : decode C46 4 = .ok (.iload_n 1, 1) := by decide +kernel
theorem d46_5 : decode C46 5 = .ok (.bipush 6, 2) := by decide +kernel
theorem d46_7 : decode C46 7 = .ok (.ishl, 1) := by decide +kernel
theorem d46_8 : decode C46 8 = .ok (.ixor, 1) := by decide +kernel
theorem d46_9 : decode C46 9 = .ok (.iload_n 2, 1) := by decide +kernel
theorem d46_10 : decode C46 10 = .ok (.ldc_w 383, 3) := by decide +kernel
theorem d46_13 : decode C46 13 = .ok (.ixor, 1) := by decide +kernel
theorem d46_14 : decode C46 14 = .ok (.ixor, 1) := by decide +kernel
theorem d46_15 : decode C46 15 = .ok (.i2c, 1) := by decide +kernel
theorem d46_16 : decode C46 16 = .ok (.ireturn, 1) := by decide +kernel
theorem rmz75 (l : Launch) (Z : State) (a0 : Array Value) (hw : oW a0 Z) (ws : List Jvm.Cond) (x0 : Int32) (x1 : Int32) (x2 : Int32) (u8 : Addr) (zc : Int32) (fv : Value) (h0 : Heap) (n0 : Nat) (Z0 : n0 ≤ h0.size)   (SS : own_Sx Z h0 u8 zc fv)  : own_K l (⟨"java/lang/String", "decode3", "(III)C"⟩ : MethodName) jdk_42_method_36_code 3 (some .char) ws ({ frames := 0, cells := 0, slots := 0, locals := 0 } : Room) Z h0 #[(.int x0), (.int x1), (.int x2)] (own_QP h0 (some (.int (own_d3 x0 x1 x2)))) := by
  refine own_met (plainFor_of_name pn_22) ?_
  intro p e s m below meth c s₁ hx hby hlk hml hown hnm hrt hZ hh X0 e0
  have N0 := Fr.nil n0
  refine oG m s₁ 0 #[vI x0,vI x1,vI x2] [] (fun _ k => castTop (by first | (simp [entryFrame,mkF,argsToLocals,Value.category]; done) | rfl) k) ?_
  have K0 := Keep.refl h0 []
  refine oG m s₁ 10 #[vI x0,vI x1,vI x2] [(.int x2),(.int ((x0 <<< ((12 : Int32) &&& 31)) ^^^ (x1 <<< ((6 : Int32) &&& 31))))] (fun _ k => XS.iloadN X0.here hx rfl (hb hby d46_0) rfl (XS.bipush X0.here hx rfl (hb hby d46_1) (XS.ishl X0.here hx rfl (hb hby d46_3) rfl (XS.iloadN X0.here hx rfl (hb hby d46_4) rfl (XS.bipush X0.here hx rfl (hb hby d46_5) (XS.ishl X0.here hx rfl (hb hby d46_7) rfl (XS.ixor X0.here hx rfl (hb hby d46_8) rfl (XS.iloadN X0.here hx rfl (hb hby d46_9) rfl k)))))))) ?_
  refine oG m s₁ 16 #[vI x0,vI x1,vI x2] [(.int ((((x0 <<< ((12 : Int32) &&& 31)) ^^^ (x1 <<< ((6 : Int32) &&& 31))) ^^^ (x2 ^^^ (-123008 : Int32))).toUInt32.toUInt16.toUInt32.toInt32))] (fun _ k => (X0.ldcwInt hx hown (mvT hZ (oH hw 224 rfl)) (g := (mkF m 10 #[vI x0,vI x1,vI x2] [(.int x2),(.int ((x0 <<< ((12 : Int32) &&& 31)) ^^^ (x1 <<< ((6 : Int32) &&& 31))))])) rfl (hb hby d46_10)) _ (XS.ixor X0.here hx rfl (hb hby d46_13) rfl (XS.ixor X0.here hx rfl (hb hby d46_14) rfl (XS.i2c X0.here hx rfl (hb hby d46_15) rfl k)))) ?_
  refine own_retN (t := .char) X0 hx hlk (by simp) hrt (hb hby d46_16) (by decide) (by decide) ?_
  exact ⟨by first | rfl | decide, e0, rfl⟩
theorem d33_230 : decode C33 230 = .ok (.invokestatic 400, 3) := by decide +kernel
theorem pd_768 : parseMethodDescriptor "(III)C" = some ⟨[.int, .int, .int], some .char⟩ := by decide +kernel
theorem d33_233 : decode C33 233 = .ok (.istore 9, 2) := by decide +kernel
theorem d33_235 : decode C33 235 = .ok (.iload 9, 2) := by decide +kernel
theorem d33_237 : decode C33 237 = .ok (.invokestatic 404, 3) := by decide +kernel
theorem pd_772 : parseMethodDescriptor "(C)Z" = some ⟨[.char], some .boolean⟩ := by decide +kernel
theorem d33_240 : decode C33 240 = .ok (.ifCond .eq 29, 3) := by decide +kernel
theorem d33_269 : decode C33 269 = .ok (.aload_n 3, 1) := by decide +kernel
theorem d33_270 : decode C33 270 = .ok (.iload 4, 2) := by decide +kernel
theorem d33_272 : decode C33 272 = .ok (.iinc 4 1, 3) := by decide +kernel
theorem d33_275 : decode C33 275 = .ok (.iload 9, 2) := by decide +kernel
def Q_rmz76 (Z : State) (ar0 : Addr) (kr0 : ClassId) (z0_0 : Int32) (z0_1 : Int32) (z0_2 : Int32) (z0_3 : Int32) (z0_4 : Int32) (z0_5 : Int32) (x2 : Int32) (u8 : Addr) (zc : Int32) (fv : Value) (h0 : Heap) (n0 : Nat) (v : Option Value) (h : Heap) (L : List Loc) : Prop := v = none ∧ Fr n0 L ∧ Keep h0 h [ar0] ∧ Arv Z h ar0 kr0 .byte (6 : Int32) [(.int (own_hi x2)), (.int (own_lo x2)), (.int z0_2), (.int z0_3), (.int z0_4), (.int z0_5)] (.int 0)
theorem rmz76 (l : Launch) (Z : State) (a0 : Array Value) (hw : oW a0 Z) (ws : List Jvm.Cond) (ar0 : Addr) (kr0 : ClassId) (z0_0 : Int32) (z0_1 : Int32) (z0_2 : Int32) (z0_3 : Int32) (z0_4 : Int32) (z0_5 : Int32) (x2 : Int32) (u8 : Addr) (zc : Int32) (fv : Value) (h0 : Heap) (n0 : Nat) (Z0 : n0 ≤ h0.size) (V_ar0 : Arv Z h0 ar0 kr0 .byte (6 : Int32) [(.int z0_0), (.int z0_1), (.int z0_2), (.int z0_3), (.int z0_4), (.int z0_5)] (.int 0)) (g_ar0 : n0 ≤ ar0)  (SS : own_Sx Z h0 u8 zc fv)  : own_K l (⟨"java/lang/StringUTF16", "putChar", "([BII)V"⟩ : MethodName) jdk_52_method_4_code 3 none ws ({ frames := 0, cells := 0, slots := 0, locals := 0 } : Room) Z h0 #[(.ref ar0), (.int 0), (.int x2)] (Q_rmz76 Z ar0 kr0 z0_0 z0_1 z0_2 z0_3 z0_4 z0_5 x2 u8 zc fv h0 n0) := by
  refine own_met (plainFor_of_name pn_537) ?_
  intro p e s m below meth c s₁ hx hby hlk hml hown hnm hrt hZ hh X0 e0
  have N0 := Fr.nil n0
  refine oG m s₁ 0 #[vR ar0,vI 0,vI x2] [] (fun _ k => castTop (by first | (simp [entryFrame,mkF,argsToLocals,Value.category]; done) | rfl) k) ?_
  have K0 := Keep.refl h0 [ar0]
  have Sg1 := SS.sA
  obtain ⟨T2, X2, e2, st2⟩ := getS2 X0 hx hZ hown (host := "") (Or.inl (oH hw 194 rfl)) Via.refl e0 Sg1 (g := (mkF m 0 #[vR ar0, vI 0, vI x2] [])) rfl (hb hby d38_0)
  refine oG m T2 31 #[vR ar0,vI 0,vI x2] [(.int ((0 : Int32) <<< ((1 : Int32) &&& 31)))] (fun _ k => st2 _ (XS.ifYes X2.here hx rfl (pc0 := 3) (pc' := 28) rfl (hb hby d38_3) rfl ((if0 _ _).trans (feq (by decide)).2) (by decide) (by decide) (XS.iloadN X2.here hx rfl (hb hby d38_28) rfl (XS.iconst X2.here hx rfl (hb hby d38_29) (XS.ishl X2.here hx rfl (hb hby d38_30) rfl k))))) ?_
  rw [show ((0 : Int32) <<< ((1 : Int32) &&& 31)) = (0 : Int32) from by decide]
  refine oG m T2 37 #[vR ar0,vI ((0 : Int32) + (1 : Int32)),vI x2] [(.int 0),(.ref ar0)] (fun _ k => XS.istoreN X2.here hx rfl (hb hby d38_31) rfl (l' := #[vR ar0,vI 0,vI x2]) rfl (XS.aloadN X2.here hx rfl (hb hby d38_32) rfl rfl (XS.iloadN X2.here hx rfl (hb hby d38_33) rfl (XS.iinc X2.here hx rfl (hb hby d38_34) rfl (l' := #[vR ar0,vI ((0 : Int32) + (1 : Int32)),vI x2]) rfl k)))) ?_
  rw [show ((0 : Int32) + (1 : Int32)) = (1 : Int32) from by decide]
  refine oG m T2 38 #[vR ar0,vI 1,vI x2] [(.int x2),(.int 0),(.ref ar0)] (fun _ k => XS.iloadN X2.here hx rfl (hb hby d38_37) rfl k) ?_
  have Sg3 := SS.sH
  obtain ⟨T4, X4, e4, st4⟩ := getS2 X2 hx hZ hown (host := "") (Or.inl (oH hw 195 rfl)) Via.refl e2 Sg3 (g := (mkF m 38 #[vR ar0, vI 1, vI x2] [(.int x2), (.int 0), (.ref ar0)])) rfl (hb hby d38_38)
  refine oG m T4 43 #[vR ar0,vI 1,vI x2] [(.int ((x2 >>> ((0 : Int32) &&& 31)).toInt8.toInt32)),(.int 0),(.ref ar0)] (fun _ k => st4 _ (XS.ishr X4.here hx rfl (hb hby d38_41) rfl (XS.i2b X4.here hx rfl (hb hby d38_42) rfl k))) ?_
  obtain ⟨cl5, Ar5, qc5, S5, M5, Ha5, Ga5⟩ := id V_ar0
  obtain ⟨T5, h5, X5, e5, W5, st5⟩ := stB X4 hx hZ e4 Ar5 (j := (0 : Int32)) (inb_of S5 ⟨by decide, by decide⟩) (g := (mkF m 43 #[vR ar0, vI 1, vI x2] [(.int ((x2 >>> ((0 : Int32) &&& 31)).toInt8.toInt32)), (.int 0), (.ref ar0)])) rfl rfl (hb hby d38_43)
  have c5_USS := SS.wr W5
  have V5 : Arv Z h5 ar0 kr0 .byte (6 : Int32) [(.int (nar .byte ((x2 >>> ((0 : Int32) &&& 31)).toInt8.toInt32))), (.int z0_1), (.int z0_2), (.int z0_3), (.int z0_4), (.int z0_5)] (.int 0) := Arv.set Ar5 qc5 S5 M5 Ha5 Ga5 (fits_nar_byte _) W5 0 (by decide) (Nat.le_of_ble_eq_true rfl)
  have K5 := K0.wr W5 (Or.inl (List.mem_of_getElem? (i := 0) rfl))
  have N5 := Fr.snoc X5 N0 g_ar0
  have Z5 : n0 ≤ h5.size := Nat.le_trans Z0 (Nat.le_of_eq W5.size.symm)
  refine oG m T5 47 #[vR ar0,vI 1,vI x2] [(.int x2),(.int 1),(.ref ar0)] (fun _ k => st5 _ (XS.aloadN X5.here hx rfl (hb hby d38_44) rfl rfl (XS.iloadN X5.here hx rfl (hb hby d38_45) rfl (XS.iloadN X5.here hx rfl (hb hby d38_46) rfl k)))) ?_
  have Sg6 := c5_USS.sL
  obtain ⟨T7, X7, e7, st7⟩ := getS2 X5 hx hZ hown (host := "") (Or.inl (oH hw 196 rfl)) Via.refl e5 Sg6 (g := (mkF m 47 #[vR ar0, vI 1, vI x2] [(.int x2), (.int 1), (.ref ar0)])) rfl (hb hby d38_47)
  refine oG m T7 52 #[vR ar0,vI 1,vI x2] [(.int ((x2 >>> ((8 : Int32) &&& 31)).toInt8.toInt32)),(.int 1),(.ref ar0)] (fun _ k => st7 _ (XS.ishr X7.here hx rfl (hb hby d38_50) rfl (XS.i2b X7.here hx rfl (hb hby d38_51) rfl k))) ?_
  obtain ⟨cl8, Ar8, qc8, S8, M8, Ha8, Ga8⟩ := id V5
  obtain ⟨T8, h8, X8, e8, W8, st8⟩ := stB X7 hx hZ e7 Ar8 (j := (1 : Int32)) (inb_of S8 ⟨by decide, by decide⟩) (g := (mkF m 52 #[vR ar0, vI 1, vI x2] [(.int ((x2 >>> ((8 : Int32) &&& 31)).toInt8.toInt32)), (.int 1), (.ref ar0)])) rfl rfl (hb hby d38_52)
  have c8_USS := c5_USS.wr W8
  have V8 : Arv Z h8 ar0 kr0 .byte (6 : Int32) [(.int (nar .byte ((x2 >>> ((0 : Int32) &&& 31)).toInt8.toInt32))), (.int (nar .byte ((x2 >>> ((8 : Int32) &&& 31)).toInt8.toInt32))), (.int z0_2), (.int z0_3), (.int z0_4), (.int z0_5)] (.int 0) := Arv.set Ar8 qc8 S8 M8 Ha8 Ga8 (fits_nar_byte _) W8 1 (by decide) (Nat.le_of_ble_eq_true rfl)
  have K8 := K5.wr W8 (Or.inl (List.mem_of_getElem? (i := 0) rfl))
  have N8 := Fr.snoc X8 N5 g_ar0
  have Z8 : n0 ≤ h8.size := Nat.le_trans Z5 (Nat.le_of_eq W8.size.symm)
  refine oG m T8 53 #[vR ar0,vI 1,vI x2] [] (fun _ k => st8 _ k) ?_
  refine own_ret0 X8 hx hlk hrt (hb hby d38_53) (by decide) (by decide) ?_
  rw [e8]
  exact ⟨(by first | rfl | decide), N8, K8, V8⟩
theorem d33_277 : decode C33 277 = .ok (.invokestatic 64, 3) := by decide +kernel
theorem d33_280 : decode C33 280 = .ok (.goto (-280), 3) := by decide +kernel
def Q_rmz77 (Z : State) (ar0 : Addr) (kr0 : ClassId) (z0_0 : Int32) (z0_1 : Int32) (z0_2 : Int32) (ar3 : Addr) (kr3 : ClassId) (z3_0 : Int32) (z3_1 : Int32) (z3_2 : Int32) (z3_3 : Int32) (z3_4 : Int32) (z3_5 : Int32) (u8 : Addr) (zc : Int32) (fv : Value) (h0 : Heap) (n0 : Nat) (v : Option Value) (h : Heap) (L : List Loc) : Prop := v = some (.int 1) ∧ Fr n0 L ∧ Keep h0 h [ar3] ∧ Arv Z h ar3 kr3 .byte (6 : Int32) [(.int (own_hi (own_d3 z0_0 z0_1 z0_2))), (.int (own_lo (own_d3 z0_0 z0_1 z0_2))), (.int z3_2), (.int z3_3), (.int z3_4), (.int z3_5)] (.int 0)
theorem rmz77 (l : Launch) (Z : State) (a0 : Array Value) (hw : oW a0 Z) (ws : List Jvm.Cond) (ar0 : Addr) (kr0 : ClassId) (z0_0 : Int32) (z0_1 : Int32) (z0_2 : Int32) (ar3 : Addr) (kr3 : ClassId) (z3_0 : Int32) (z3_1 : Int32) (z3_2 : Int32) (z3_3 : Int32) (z3_4 : Int32) (z3_5 : Int32) (u8 : Addr) (zc : Int32) (fv : Value) (h0 : Heap) (n0 : Nat) (Z0 : n0 ≤ h0.size) (V_ar0 : Arv Z h0 ar0 kr0 .byte (3 : Int32) [(.int z0_0), (.int z0_1), (.int z0_2)] (.int 0)) (g_ar0 : n0 ≤ ar0) (V_ar3 : Arv Z h0 ar3 kr3 .byte (6 : Int32) [(.int z3_0), (.int z3_1), (.int z3_2), (.int z3_3), (.int z3_4), (.int z3_5)] (.int 0)) (g_ar3 : n0 ≤ ar3) (ne_ar0_ar3 : ar0 ≠ ar3) (SS : own_Sx Z h0 u8 zc fv) (hq0 : z0_0 < (0 : Int32)) (hq1 : ¬ (z0_0 >>> ((5 : Int32) &&& 31)) = (-2 : Int32)) (hq2 : (z0_0 >>> ((4 : Int32) &&& 31)) = (-2 : Int32)) (hq3 : (own_im3_0 z0_0 z0_1 z0_2) = (0 : Int32)) (hq4 : (own_sur_0 (own_d3 z0_0 z0_1 z0_2)) = (0 : Int32)) : own_K l (⟨"java/lang/String", "decodeUTF8_UTF16", "([BII[BIZ)I"⟩ : MethodName) jdk_42_method_38_code 11 (some .int) ws ({ frames := 1, cells := 0, slots := 0, locals := 15 } : Room) Z h0 #[(.ref ar0), (.int 0), (.int 3), (.ref ar3), (.int 0), (.int 1)] (Q_rmz77 Z ar0 kr0 z0_0 z0_1 z0_2 ar3 kr3 z3_0 z3_1 z3_2 z3_3 z3_4 z3_5 u8 zc fv h0 n0) := by
  refine own_met (plainFor_of_name pn_22) ?_
  intro p e s m below meth c s₁ hx hby hlk hml hown hnm hrt hZ hh X0 e0
  have N0 := Fr.nil n0
  refine oG m s₁ 0 #[vR ar0,vI 0,vI 3,vR ar3,vI 0,vI 1,oU,oU,oU,oU,oU] [] (fun _ k => castTop (by first | (simp [entryFrame,mkF,argsToLocals,Value.category]; done) | rfl) k) ?_
  have K0 := Keep.refl h0 [ar3]
  refine oG m s₁ 10 #[vR ar0,vI ((0 : Int32) + (1 : Int32)),vI 3,vR ar3,vI 0,vI 1,oU,oU,oU,oU,oU] [(.int 0),(.ref ar0)] (fun _ k => XS.iloadN X0.here hx rfl (hb hby d33_0) rfl (XS.iloadN X0.here hx rfl (hb hby d33_1) rfl (XS.icmpNo X0.here hx rfl (hb hby d33_2) rfl (tlt (by decide)).2.1 (XS.aloadN X0.here hx rfl (hb hby d33_5) rfl rfl (XS.iloadN X0.here hx rfl (hb hby d33_6) rfl (XS.iinc X0.here hx rfl (hb hby d33_7) rfl (l' := #[vR ar0,vI ((0 : Int32) + (1 : Int32)),vI 3,vR ar3,vI 0,vI 1,oU,oU,oU,oU,oU]) rfl k)))))) ?_
  rw [show ((0 : Int32) + (1 : Int32)) = (1 : Int32) from by decide]
  obtain ⟨cl1, Ar1, -, S1, -, H1, -⟩ := id V_ar0
  have hin1 := inb_of (j := (0 : Int32)) S1 ⟨by decide, by decide⟩
  have hat1 := Has.at (v := (.int z0_0)) H1 hin1 (by first | rfl | decide)
  refine own_go (S' := (s₁.setTop (mkF m 11 #[vR ar0, vI 1, vI 3, vR ar3, vI 0, vI 1, oU, oU, oU, oU, oU] [(.int z0_0)]))) (fun _ kont => X0.baloadBytes hx (j := (0 : Int32)) (v := (.int z0_0)) (by rw [e0]; exact Ar1.1) (State.isArrayOf_alike hZ.alike Ar1.2.1) Ar1.2.2 hin1 hat1 (g := (mkF m 10 #[vR ar0, vI 1, vI 3, vR ar3, vI 0, vI 1, oU, oU, oU, oU, oU] [(.int 0), (.ref ar0)])) rfl rfl (hb hby d33_10) _ kont) ?_
  refine oG m s₁ 155 #[vR ar0,vI 1,vI 3,vR ar3,vI 0,vI 1,vI z0_0,oU,oU,oU,oU] [(.int ((1 : Int32) + (1 : Int32)))] (fun _ k => XS.istore X0.here hx rfl (hb hby d33_11) rfl (l' := #[vR ar0,vI 1,vI 3,vR ar3,vI 0,vI 1,vI z0_0,oU,oU,oU,oU]) rfl (XS.iload X0.here hx rfl (hb hby d33_13) rfl (XS.ifYes X0.here hx rfl (pc0 := 15) (pc' := 33) rfl (hb hby d33_15) rfl ((if0 _ _).trans (tlt hq0).1) (by decide) (by decide) (XS.iload X0.here hx rfl (hb hby d33_33) rfl (XS.iconst X0.here hx rfl (hb hby d33_35) (XS.ishr X0.here hx rfl (hb hby d33_36) rfl (XS.bipush X0.here hx rfl (hb hby d33_37) (XS.icmpYes X0.here hx rfl (pc0 := 39) (pc' := 143) rfl (hb hby d33_39) rfl (feq hq1).2 (by decide) (by decide) (XS.iload X0.here hx rfl (hb hby d33_143) rfl (XS.iconst X0.here hx rfl (hb hby d33_145) (XS.ishr X0.here hx rfl (hb hby d33_146) rfl (XS.bipush X0.here hx rfl (hb hby d33_147) (XS.icmpNo X0.here hx rfl (hb hby d33_149) rfl (teq hq2).2 (XS.iloadN X0.here hx rfl (hb hby d33_152) rfl (XS.iconst X0.here hx rfl (hb hby d33_153) (XS.iadd X0.here hx rfl (hb hby d33_154) rfl k)))))))))))))))) ?_
  rw [show ((1 : Int32) + (1 : Int32)) = (2 : Int32) from by decide]
  refine oG m s₁ 164 #[vR ar0,vI ((1 : Int32) + (1 : Int32)),vI 3,vR ar3,vI 0,vI 1,vI z0_0,oU,oU,oU,oU] [(.int 1),(.ref ar0)] (fun _ k => XS.iloadN X0.here hx rfl (hb hby d33_155) rfl (XS.icmpNo X0.here hx rfl (hb hby d33_156) rfl (tlt (by decide)).2.1 (XS.aloadN X0.here hx rfl (hb hby d33_159) rfl rfl (XS.iloadN X0.here hx rfl (hb hby d33_160) rfl (XS.iinc X0.here hx rfl (hb hby d33_161) rfl (l' := #[vR ar0,vI ((1 : Int32) + (1 : Int32)),vI 3,vR ar3,vI 0,vI 1,vI z0_0,oU,oU,oU,oU]) rfl k))))) ?_
  rw [show ((1 : Int32) + (1 : Int32)) = (2 : Int32) from by decide]
  obtain ⟨cl2, Ar2, -, S2, -, H2, -⟩ := id V_ar0
  have hin2 := inb_of (j := (1 : Int32)) S2 ⟨by decide, by decide⟩
  have hat2 := Has.at (v := (.int z0_1)) H2 hin2 (by first | rfl | decide)
  refine own_go (S' := (s₁.setTop (mkF m 165 #[vR ar0, vI 2, vI 3, vR ar3, vI 0, vI 1, vI z0_0, oU, oU, oU, oU] [(.int z0_1)]))) (fun _ kont => X0.baloadBytes hx (j := (1 : Int32)) (v := (.int z0_1)) (by rw [e0]; exact Ar2.1) (State.isArrayOf_alike hZ.alike Ar2.2.1) Ar2.2.2 hin2 hat2 (g := (mkF m 164 #[vR ar0, vI 2, vI 3, vR ar3, vI 0, vI 1, vI z0_0, oU, oU, oU, oU] [(.int 1), (.ref ar0)])) rfl rfl (hb hby d33_164) _ kont) ?_
  refine oG m s₁ 172 #[vR ar0,vI ((2 : Int32) + (1 : Int32)),vI 3,vR ar3,vI 0,vI 1,vI z0_0,vI z0_1,oU,oU,oU] [(.int 2),(.ref ar0)] (fun _ k => XS.istore X0.here hx rfl (hb hby d33_165) rfl (l' := #[vR ar0,vI 2,vI 3,vR ar3,vI 0,vI 1,vI z0_0,vI z0_1,oU,oU,oU]) rfl (XS.aloadN X0.here hx rfl (hb hby d33_167) rfl rfl (XS.iloadN X0.here hx rfl (hb hby d33_168) rfl (XS.iinc X0.here hx rfl (hb hby d33_169) rfl (l' := #[vR ar0,vI ((2 : Int32) + (1 : Int32)),vI 3,vR ar3,vI 0,vI 1,vI z0_0,vI z0_1,oU,oU,oU]) rfl k)))) ?_
  rw [show ((2 : Int32) + (1 : Int32)) = (3 : Int32) from by decide]
  obtain ⟨cl3, Ar3, -, S3, -, H3, -⟩ := id V_ar0
  have hin3 := inb_of (j := (2 : Int32)) S3 ⟨by decide, by decide⟩
  have hat3 := Has.at (v := (.int z0_2)) H3 hin3 (by first | rfl | decide)
  refine own_go (S' := (s₁.setTop (mkF m 173 #[vR ar0, vI 3, vI 3, vR ar3, vI 0, vI 1, vI z0_0, vI z0_1, oU, oU, oU] [(.int z0_2)]))) (fun _ kont => X0.baloadBytes hx (j := (2 : Int32)) (v := (.int z0_2)) (by rw [e0]; exact Ar3.1) (State.isArrayOf_alike hZ.alike Ar3.2.1) Ar3.2.2 hin3 hat3 (g := (mkF m 172 #[vR ar0, vI 3, vI 3, vR ar3, vI 0, vI 1, vI z0_0, vI z0_1, oU, oU, oU] [(.int 2), (.ref ar0)])) rfl rfl (hb hby d33_172) _ kont) ?_
  refine oG m s₁ 181 #[vR ar0,vI 3,vI 3,vR ar3,vI 0,vI 1,vI z0_0,vI z0_1,vI z0_2,oU,oU] [(.int z0_2),(.int z0_1),(.int z0_0)] (fun _ k => XS.istore X0.here hx rfl (hb hby d33_173) rfl (l' := #[vR ar0,vI 3,vI 3,vR ar3,vI 0,vI 1,vI z0_0,vI z0_1,vI z0_2,oU,oU]) rfl (XS.iload X0.here hx rfl (hb hby d33_175) rfl (XS.iload X0.here hx rfl (hb hby d33_177) rfl (XS.iload X0.here hx rfl (hb hby d33_179) rfl k)))) ?_
  obtain ⟨T4, X4, e4, st4⟩ := own_cP X0 hx hZ hown (oH hw 218 rfl) (oH hw 219 rfl) (oH hw 54 rfl) (oH hw 220 rfl) (by decide) (rm45 l Z a0 hw [] z0_0 z0_1 z0_2 h0 n0 Z0) (W := 0) (by decide) (by decide) (g := (mkF m 181 #[vR ar0, vI 3, vI 3, vR ar3, vI 0, vI 1, vI z0_0, vI z0_1, vI z0_2, oU, oU] [(.int z0_2), (.int z0_1), (.int z0_0)])) rfl (by rw [hml]; rfl) (argsL := [(.int z0_0), (.int z0_1), (.int z0_2)]) (rest := []) (lenOf pd_749 rfl) rfl rfl rfl (hb hby d33_181) e0 rfl (by decide) (by decide) (by decide : 0 ≤ _) (by decide : 0 ≤ _)
  refine oG m T4 230 #[vR ar0,vI 3,vI 3,vR ar3,vI 0,vI 1,vI z0_0,vI z0_1,vI z0_2,oU,oU] [(.int z0_2),(.int z0_1),(.int z0_0)] (fun _ k => st4 _ (XS.ifYes X4.here hx rfl (pc0 := 184) (pc' := 224) rfl (hb hby d33_184) rfl ((if0 _ _).trans (teq hq3).1) (by decide) (by decide) (XS.iload X4.here hx rfl (hb hby d33_224) rfl (XS.iload X4.here hx rfl (hb hby d33_226) rfl (XS.iload X4.here hx rfl (hb hby d33_228) rfl k))))) ?_
  obtain ⟨T5, X5, e5, st5⟩ := own_cP X4 hx hZ hown (oH hw 221 rfl) (oH hw 222 rfl) (oH hw 54 rfl) (oH hw 223 rfl) (by decide) (rmz75 l Z a0 hw [] z0_0 z0_1 z0_2 u8 zc fv h0 n0 Z0  SS) (W := 0) (by decide) (by decide) (g := (mkF m 230 #[vR ar0, vI 3, vI 3, vR ar3, vI 0, vI 1, vI z0_0, vI z0_1, vI z0_2, oU, oU] [(.int z0_2), (.int z0_1), (.int z0_0)])) rfl (by rw [hml]; rfl) (argsL := [(.int z0_0), (.int z0_1), (.int z0_2)]) (rest := []) (lenOf pd_768 rfl) rfl rfl rfl (hb hby d33_230) e4 rfl (by decide) (by decide) (by decide : 0 ≤ _) (by decide : 0 ≤ _)
  refine oG m T5 237 #[vR ar0,vI 3,vI 3,vR ar3,vI 0,vI 1,vI z0_0,vI z0_1,vI z0_2,vI (own_d3 z0_0 z0_1 z0_2),oU] [(.int (own_d3 z0_0 z0_1 z0_2))] (fun _ k => st5 _ (XS.istore X5.here hx rfl (hb hby d33_233) rfl (l' := #[vR ar0,vI 3,vI 3,vR ar3,vI 0,vI 1,vI z0_0,vI z0_1,vI z0_2,vI (own_d3 z0_0 z0_1 z0_2),oU]) rfl (XS.iload X5.here hx rfl (hb hby d33_235) rfl k))) ?_
  obtain ⟨T6, X6, e6, st6⟩ := own_cP X5 hx hZ hown (oH hw 225 rfl) (oH hw 226 rfl) (oH hw 183 rfl) (oH hw 227 rfl) (by decide) (rm47 l Z a0 hw [] (own_d3 z0_0 z0_1 z0_2) h0 n0 Z0) (W := 0) (by decide) (by decide) (g := (mkF m 237 #[vR ar0, vI 3, vI 3, vR ar3, vI 0, vI 1, vI z0_0, vI z0_1, vI z0_2, vI (own_d3 z0_0 z0_1 z0_2), oU] [(.int (own_d3 z0_0 z0_1 z0_2))])) rfl (by rw [hml]; rfl) (argsL := [(.int (own_d3 z0_0 z0_1 z0_2))]) (rest := []) (lenOf pd_772 rfl) rfl rfl rfl (hb hby d33_237) e5 rfl (by decide) (by decide) (by decide : 0 ≤ _) (by decide : 0 ≤ _)
  refine oG m T6 275 #[vR ar0,vI 3,vI 3,vR ar3,vI ((0 : Int32) + (1 : Int32)),vI 1,vI z0_0,vI z0_1,vI z0_2,vI (own_d3 z0_0 z0_1 z0_2),oU] [(.int 0),(.ref ar3)] (fun _ k => st6 _ (XS.ifYes X6.here hx rfl (pc0 := 240) (pc' := 269) rfl (hb hby d33_240) rfl ((if0 _ _).trans (teq hq4).1) (by decide) (by decide) (XS.aloadN X6.here hx rfl (hb hby d33_269) rfl rfl (XS.iload X6.here hx rfl (hb hby d33_270) rfl (XS.iinc X6.here hx rfl (hb hby d33_272) rfl (l' := #[vR ar0,vI 3,vI 3,vR ar3,vI ((0 : Int32) + (1 : Int32)),vI 1,vI z0_0,vI z0_1,vI z0_2,vI (own_d3 z0_0 z0_1 z0_2),oU]) rfl k))))) ?_
  rw [show ((0 : Int32) + (1 : Int32)) = (1 : Int32) from by decide]
  refine oG m T6 277 #[vR ar0,vI 3,vI 3,vR ar3,vI 1,vI 1,vI z0_0,vI z0_1,vI z0_2,vI (own_d3 z0_0 z0_1 z0_2),oU] [(.int (own_d3 z0_0 z0_1 z0_2)),(.int 0),(.ref ar3)] (fun _ k => XS.iload X6.here hx rfl (hb hby d33_275) rfl k) ?_
  obtain ⟨v7, T7, Lc7, X7, hQ7, st7⟩ := own_cS X6 hx hZ hown (oH hw 191 rfl) (oH hw 192 rfl) (oH hw 152 rfl) (oH hw 193 rfl) (by decide) (rmz76 l Z a0 hw [] ar3 kr3 z3_0 z3_1 z3_2 z3_3 z3_4 z3_5 (own_d3 z0_0 z0_1 z0_2) u8 zc fv h0 n0 Z0 V_ar3 g_ar3 SS) (W := 0) (by decide) (by decide) (g := (mkF m 277 #[vR ar0, vI 3, vI 3, vR ar3, vI 1, vI 1, vI z0_0, vI z0_1, vI z0_2, vI (own_d3 z0_0 z0_1 z0_2), oU] [(.int (own_d3 z0_0 z0_1 z0_2)), (.int 0), (.ref ar3)])) rfl (by rw [hml]; rfl) (argsL := [(.ref ar3), (.int 0), (.int (own_d3 z0_0 z0_1 z0_2))]) (rest := []) (lenOf pd_648 rfl) rfl rfl rfl (hb hby d33_277) e6 rfl (by decide : 0 + 0 ≤ _) (by decide : 0 + 0 ≤ _)
  obtain ⟨rfl, Nq7, Kc7, wa7_0⟩ := hQ7
  have Kt7 := K0.trans Kc7 (fun x hx => by simp only [List.mem_cons, List.mem_singleton, List.not_mem_nil, or_false] at hx; rcases hx with rfl <;> first | (left; simp; done) | (right; assumption))
  have N7 := Fr.app N0 Nq7
  have Z7 : n0 ≤ T7.heap.size := Nat.le_trans Z0 Kc7.1
  have c7_Var0 := V_ar0.keep Kc7 (ninS ne_ar0_ar3 nin0)
  have c7_USS := SS.keep Kc7 (own_nsS (own_nsA V_ar3) own_ns0)
  refine oG m T7 623 #[vR ar0,vI 3,vI 3,vR ar3,vI 1,vI 1,vI z0_0,vI z0_1,vI z0_2,vI (own_d3 z0_0 z0_1 z0_2),oU] [(.int 1)] (fun _ k => st7 _ (XS.goto X7.here hx rfl (pc0 := 280) (pc' := 0) rfl (hb hby d33_280) (by decide) (by decide) (XS.iloadN X7.here hx rfl (hb hby d33_0) rfl (XS.iloadN X7.here hx rfl (hb hby d33_1) rfl (XS.icmpYes X7.here hx rfl (pc0 := 2) (pc' := 621) rfl (hb hby d33_2) rfl (flt (by decide)).2.1 (by decide) (by decide) (XS.iload X7.here hx rfl (hb hby d33_621) rfl k)))))) ?_
  refine own_retI X7 hx hlk hrt (hb hby d33_623) (by decide) (by decide) ?_
  exact ⟨(by first | rfl | decide), N7, Kt7, wa7_0⟩
def Q_rmz78 (Z : State) (ar0 : Addr) (kr0 : ClassId) (z0_0 : Int32) (z0_1 : Int32) (z0_2 : Int32) (z0_3 : Int32) (z0_4 : Int32) (z0_5 : Int32) (u8 : Addr) (zc : Int32) (fv : Value) (h0 : Heap) (n0 : Nat) (v : Option Value) (h : Heap) (L : List Loc) : Prop := ∃ (NA0 : Addr) (KA0 : ClassId), v = some (.ref NA0) ∧ Fr n0 L ∧ Keep h0 h [] ∧ h0.size ≤ NA0 ∧ Arv Z h NA0 KA0 .byte (2 : Int32) [(.int z0_0), (.int z0_1)] (.int 0)
theorem rmz78 (l : Launch) (Z : State) (a0 : Array Value) (hw : oW a0 Z) (ws : List Jvm.Cond) (ar0 : Addr) (kr0 : ClassId) (z0_0 : Int32) (z0_1 : Int32) (z0_2 : Int32) (z0_3 : Int32) (z0_4 : Int32) (z0_5 : Int32) (u8 : Addr) (zc : Int32) (fv : Value) (h0 : Heap) (n0 : Nat) (Z0 : n0 ≤ h0.size) (V_ar0 : Arv Z h0 ar0 kr0 .byte (6 : Int32) [(.int z0_0), (.int z0_1), (.int z0_2), (.int z0_3), (.int z0_4), (.int z0_5)] (.int 0)) (g_ar0 : n0 ≤ ar0)  (SS : own_Sx Z h0 u8 zc fv)  : own_K l (⟨"java/util/Arrays", "copyOf", "([BI)[B"⟩ : MethodName) jdk_65_method_121_code 3 (some (.array .byte)) ws ({ frames := 1, cells := 1, slots := 2, locals := 18 } : Room) Z h0 #[(.ref ar0), (.int 2)] (Q_rmz78 Z ar0 kr0 z0_0 z0_1 z0_2 z0_3 z0_4 z0_5 u8 zc fv h0 n0) := by
  refine own_met (plainFor_of_name pn_268) ?_
  intro p e s m below meth c s₁ hx hby hlk hml hown hnm hrt hZ hh X0 e0
  have N0 := Fr.nil n0
  refine oG m s₁ 0 #[vR ar0,vI 2,oU] [] (fun _ k => castTop (by first | (simp [entryFrame,mkF,argsToLocals,Value.category]; done) | rfl) k) ?_
  have K0 := Keep.refl h0 []
  refine oG m s₁ 2 #[vR ar0,vI 2,oU] [(.ref ar0),(.int 2)] (fun _ k => XS.iloadN X0.here hx rfl (hb hby d40_0) rfl (XS.aloadN X0.here hx rfl (hb hby d40_1) rfl rfl k)) ?_
  obtain ⟨cl1, Ar1, -, S1, M1, -, -⟩ := id V_ar0
  have ql1 := len_of S1 M1
  refine own_go (S' := (s₁.setTop (mkF m 3 #[vR ar0, vI 2, oU] [(.int 6), (.int 2)]))) (fun _ kont => X0.arraylength hx (by rw [e0]; exact Ar1.1) (State.isArrayOf_alike hZ.alike Ar1.2.1) (g := (mkF m 2 #[vR ar0, vI 2, oU] [(.ref ar0), (.int 2)])) rfl rfl (hb hby d40_2) _ (by rw [ql1]; exact kont)) ?_
  refine oG m s₁ 15 #[vR ar0,vI 2,oU] [(.int 2)] (fun _ k => XS.icmpYes X0.here hx rfl (pc0 := 3) (pc' := 14) rfl (hb hby d40_3) rfl (feq (by decide)).2 (by decide) (by decide) (XS.iloadN X0.here hx rfl (hb hby d40_14) rfl k)) ?_
  obtain ⟨T2, h2, k2, X2, e2, E2, A2, st2⟩ := newP X0 hx hZ (oH hw 7 rfl) e0 (g := (mkF m 15 #[vR ar0, vI 2, oU] [(.int 2)])) rfl (hb hby d40_15) rfl (by decide) (cap := 2) (by decide) (by decide) (by decide) (by decide)
  obtain ⟨b2, gz2⟩ : ∃ z, z = h0.size := ⟨_, rfl⟩
  rw [← gz2] at A2 st2
  have sz_b2 : h0.size ≤ b2 := Nat.le_trans K0.1 (Nat.le_of_eq gz2.symm)
  have ne_ar0_b2 : ar0 ≠ b2 := Nat.ne_of_lt (by rw [gz2]; exact V_ar0.lt)
  have c2_Var0 := V_ar0.ext E2
  have c2_USS := SS.ext E2
  have K2 := K0.ext E2
  have g_b2 : n0 ≤ b2 := Nat.le_trans Z0 (Nat.le_of_eq gz2.symm)
  have V2 := Arv.new A2 (by decide)
  have Z2 : n0 ≤ h2.size := Nat.le_trans Z0 E2.1
  refine oG m T2 17 #[vR ar0,vI 2,oU] [(.ref b2)] (fun _ k => st2 _ k) ?_
  have V3 : Arv Z h2 b2 k2 .byte (2 : Int32) [(.int 0), (.int 0)] (.int 0) := V2.pad (pad_rep [] (.int 0) 2)
  refine oG m T2 23 #[vR ar0,vI 2,vR b2] [(.ref ar0),(.int 0),(.ref b2),(.int 0),(.ref ar0)] (fun _ k => XS.astoreN X2.here hx rfl (hb hby d40_17) rfl rfl (l' := #[vR ar0,vI 2,vR b2]) rfl (XS.aloadN X2.here hx rfl (hb hby d40_18) rfl rfl (XS.iconst X2.here hx rfl (hb hby d40_19) (XS.aloadN X2.here hx rfl (hb hby d40_20) rfl rfl (XS.iconst X2.here hx rfl (hb hby d40_21) (XS.aloadN X2.here hx rfl (hb hby d40_22) rfl rfl k)))))) ?_
  obtain ⟨cl4, Ar4, -, S4, M4, -, -⟩ := id c2_Var0
  have ql4 := len_of S4 M4
  refine own_go (S' := (T2.setTop (mkF m 24 #[vR ar0, vI 2, vR b2] [(.int 6), (.int 0), (.ref b2), (.int 0), (.ref ar0)]))) (fun _ kont => X2.arraylength hx (by rw [e2]; exact Ar4.1) (State.isArrayOf_alike hZ.alike Ar4.2.1) (g := (mkF m 23 #[vR ar0, vI 2, vR b2] [(.ref ar0), (.int 0), (.ref b2), (.int 0), (.ref ar0)])) rfl rfl (hb hby d40_23) _ (by rw [ql4]; exact kont)) ?_
  refine oG m T2 25 #[vR ar0,vI 2,vR b2] [(.int 2),(.int 6),(.int 0),(.ref b2),(.int 0),(.ref ar0)] (fun _ k => XS.iloadN X2.here hx rfl (hb hby d40_24) rfl k) ?_
  obtain ⟨T5, X5, e5, st5⟩ := own_cP X2 hx hZ hown (oH hw 96 rfl) (oH hw 97 rfl) (oH hw 98 rfl) (oH hw 99 rfl) (by decide) (rmz13 l Z a0 hw [] (6 : Int32) (2 : Int32) u8 zc fv h2 n0 Z2  c2_USS (by decide)) (W := 4) (by decide) (by decide) (g := (mkF m 25 #[vR ar0, vI 2, vR b2] [(.int 2), (.int 6), (.int 0), (.ref b2), (.int 0), (.ref ar0)])) rfl (by rw [hml]; rfl) (argsL := [(.int 6), (.int 2)]) (rest := [(.int 0), (.ref b2), (.int 0), (.ref ar0)]) (lenOf pd_293 rfl) rfl rfl rfl (hb hby d40_25) e2 rfl (by decide) (by decide) (by decide : 1 ≤ _) (by decide : 2 ≤ _)
  refine oG m T5 28 #[vR ar0,vI 2,vR b2] [(.int 2),(.int 0),(.ref b2),(.int 0),(.ref ar0)] (fun _ k => st5 _ k) ?_
  obtain ⟨T6, h6, L6, X6, e6, N6, Kc6, Vd6, st6⟩ := cpA X5 hx hZ hown (oH hw 100 rfl) (oH hw 103 rfl) (oH hw 101 rfl) (oH hw 102 rfl) e5 (us := [(.int z0_0), (.int z0_1)]) c2_Var0 V3 (Or.inl ⟨rfl, rfl⟩) (sp := (0 : Int32)) (dp := (0 : Int32)) (nn := (2 : Int32)) (by decide) (by decide) (by decide) (by decide) (by decide) (by first | rfl | simp) (by first | decide | exact Nat.le_of_ble_eq_true rfl) N0 g_b2 (g := (mkF m 28 #[vR ar0, vI 2, vR b2] [(.int 2), (.int 0), (.ref b2), (.int 0), (.ref ar0)])) rfl (by rw [hml]; rfl) rfl (hb hby d40_28) (by decide) (W := 0) (by show 2 * 0 + _ ≤ _; exact Nat.le_of_eq rfl) (by decide)
  have Vn6 : Arv Z h6 b2 k2 .byte (2 : Int32) [(.int z0_0), (.int z0_1)] (.int 0) := Vd6
  have Z6 : n0 ≤ h6.size := Nat.le_trans Z2 Kc6.1
  have Kt6 := K2.trans Kc6 (fun x hx => by cases List.mem_singleton.mp hx; first | (left; simp; done) | (right; assumption))
  have c6_Var0 := c2_Var0.keep Kc6 (ninS ne_ar0_b2 nin0)
  have c6_USS := c2_USS.keep Kc6 (own_nsS (own_nsA V3) own_ns0)
  refine oG m T6 32 #[vR ar0,vI 2,vR b2] [(.ref b2)] (fun _ k => st6 _ (XS.aloadN X6.here hx rfl (hb hby d40_31) rfl rfl k)) ?_
  refine own_retA X6 hx hlk (rfl) rfl hrt (hb hby d40_32) (by decide) (by decide) ?_
  rw [e6]
  exact ⟨b2, k2, (by first | rfl | decide), N6, Kt6, sz_b2, Vn6⟩
theorem ef_rmz79 (m : MethodId) (x0 : Addr) (x1 : Addr) (x2 : Addr) (x3 : Int32) (x4 : Int32) : entryFrame m #[(.ref x0), (.ref x1), (.ref x2), (.int x3), (.int x4)] 11 = mkF m 0 #[vR x0, vR x1, vR x2, vI x3, vI x4, oU, oU, oU, oU, oU, oU] [] := by first | (simp [entryFrame, mkF, argsToLocals, Value.category]; done) | rfl
def Q_rmz79 (Z : State) (ob0 : Addr) (ar2 : Addr) (kr2 : ClassId) (z2_0 : Int32) (z2_1 : Int32) (z2_2 : Int32) (z2_3 : Int32) (u8 : Addr) (zc : Int32) (fv : Value) (h0 : Heap) (n0 : Nat) (v : Option Value) (h : Heap) (L : List Loc) : Prop := ∃ (NA0 : Addr) (KA0 : ClassId), v = none ∧ Fr n0 L ∧ Keep h0 h [ob0] ∧ h0.size ≤ NA0 ∧ Arv Z h NA0 KA0 .byte (2 : Int32) [(.int (own_hi (own_d3 z2_0 z2_1 z2_2))), (.int (own_lo (own_d3 z2_0 z2_1 z2_2)))] (.int 0) ∧ Fld Z h ob0 "java/lang/String" "value" "[B" (.ref NA0) ∧ Fld Z h ob0 "java/lang/String" "coder" "B" (.int 1)
theorem rmz79 (l : Launch) (Z : State) (a0 : Array Value) (hw : ∀ d ∈ tables_1, d.before a0 Z = true) (ws : List Jvm.Cond) (ob0 : Addr) (ar2 : Addr) (kr2 : ClassId) (z2_0 : Int32) (z2_1 : Int32) (z2_2 : Int32) (z2_3 : Int32) (u8 : Addr) (zc : Int32) (fv : Value) (h0 : Heap) (n0 : Nat) (Z0 : n0 ≤ h0.size) (E_ob0 : Exa Z h0 ob0 "java/lang/String") (g_ob0 : n0 ≤ ob0) (F_ob0_value : Fld Z h0 ob0 "java/lang/String" "value" "[B" .null) (F_ob0_coder : Fld Z h0 ob0 "java/lang/String" "coder" "B" (.int 0)) (V_ar2 : Arv Z h0 ar2 kr2 .byte (4 : Int32) [(.int z2_0), (.int z2_1), (.int z2_2), (.int z2_3)] (.int 0)) (g_ar2 : n0 ≤ ar2) (E_ar2 : Exa Z h0 ar2 "[B") (ne_ob0_ar2 : ob0 ≠ ar2) (SS : own_Sx Z h0 u8 zc fv) (hq0 : z2_0 < (0 : Int32)) (hq1 : ¬ (z2_0 &&& (254 : Int32)) = (194 : Int32)) (hq2 : ¬ (z2_0 >>> ((5 : Int32) &&& 31)) = (-2 : Int32)) (hq3 : (z2_0 >>> ((4 : Int32) &&& 31)) = (-2 : Int32)) (hq4 : (own_im3_0 z2_0 z2_1 z2_2) = (0 : Int32)) (hq5 : (own_sur_0 (own_d3 z2_0 z2_1 z2_2)) = (0 : Int32)) :
    MetFree l (⟨"java/lang/String", "<init>", "(Ljava/nio/charset/Charset;[BII)V"⟩ : MethodName) (head1 (Jvm.Cond.codeWith (⟨"java/lang/String", "<init>", "(Ljava/nio/charset/Charset;[BII)V"⟩ : MethodName) jdk_42_method_11_code 11 none [(800, 813, 816, 202)] :: ws) ({ frames := 5, cells := 3, slots := 11, locals := 76 } : Room)) (fun a U => a = #[(.ref ob0), (.ref u8), (.ref ar2), (.int 0), (.int 3)] ∧ Z.Warmed39 U.vm ∧ U.heap = h0) (fun _ _ _ _ _ => True) (fun _ U o U' => ∃ v L, o = .returned v ∧ Q_rmz79 Z ob0 ar2 kr2 z2_0 z2_1 z2_2 z2_3 u8 zc fv h0 n0 v U'.heap L ∧ FrameEnd U o U' L ({ frames := 5, cells := 3, slots := 11, locals := 76 } : Room).cells ({ frames := 5, cells := 3, slots := 11, locals := 76 } : Room).slots) := by
  refine MetFree.of_bodySF (plainFor_of_name pn_22) hisWith ?_
  intro p e s m args below meth c s₁ Bd hml0 hP hK
  obtain ⟨rfl, hZ, hh⟩ := hP
  have hx := Bd.exec
  have hby := Bd.bytes
  have hlk := Bd.notSynchronized
  have hml : c.maxLocals = 11 := hml0
  have hown : s.vm.findClass "java/lang/String" = some m.cls := findClass_of_methodNamed Bd.named
  have hnm := (name_of_methodNamed Bd.named Bd.method).1
  have X0 : Stand p l e ({ frames := 5, cells := 3, slots := 11, locals := 76 } : Room) s m #[(.ref ob0), (.ref u8), (.ref ar2), (.int 0), (.int 3)] below meth c s₁ [] 0 0 := Stand.of_body Bd
  have e0 : s₁.heap = h0 := by rw [← hh, Bd.state]; rfl
  have N0 := Fr.nil n0
  change own_Go p e below s (Q_rmz79 Z ob0 ar2 kr2 z2_0 z2_1 z2_2 z2_3 u8 zc fv h0 n0) ({ frames := 5, cells := 3, slots := 11, locals := 76 } : Room).cells ({ frames := 5, cells := 3, slots := 11, locals := 76 } : Room).slots _
  refine own_go (S' := (s₁.setTop (mkF m 0 #[vR ob0, vR u8, vR ar2, vI 0, vI 3, oU, oU, oU, oU, oU, oU] []))) (fun _ kont => castTop (ef_rmz79 m ob0 u8 ar2 (0 : Int32) (3 : Int32)) kont) ?_
  have K0 := Keep.refl h0 [ob0]
  refine oG m s₁ 1 #[vR ob0,vR u8,vR ar2,vI 0,vI 3,oU,oU,oU,oU,oU,oU] [(.ref ob0)] (fun _ k => XS.aloadN X0.here hx rfl (hb hby d49_0) rfl rfl k) ?_
  obtain ⟨T1, X1, e1, st1⟩ := initO X0 hx hZ hown (oH hw 78 rfl) (oH hw 18 rfl) (oH hw 19 rfl) e0 (g := (mkF m 1 #[vR ob0, vR u8, vR ar2, vI 0, vI 3, oU, oU, oU, oU, oU, oU] [(.ref ob0)])) rfl (by rw [hml]; rfl) rfl (hb hby d49_1) (by decide) (W := 0) (by show 2 * 0 + _ ≤ _; exact Nat.le_of_eq rfl) (by decide)
  refine oG m T1 31 #[vR ob0,vR u8,vR ar2,vI 0,vI 3,oU,oU,oU,oU,oU,oU] [(.ref u8)] (fun _ k => st1 _ (XS.iload X1.here hx rfl (hb hby d49_4) rfl (XS.ifYes X1.here hx rfl (pc0 := 6) (pc' := 30) rfl (hb hby d49_6) rfl ((if0 _ _).trans (feq (by decide)).2) (by decide) (by decide) (XS.aloadN X1.here hx rfl (hb hby d49_30) rfl rfl k)))) ?_
  have Sg2 := SS.sI
  obtain ⟨T3, X3, e3, st3⟩ := getS2 X1 hx hZ hown (host := "") (Or.inl (oH hw 79 rfl)) Via.refl e1 Sg2 (g := (mkF m 31 #[vR ob0, vR u8, vR ar2, vI 0, vI 3, oU, oU, oU, oU, oU, oU] [(.ref u8)])) rfl (hb hby d49_31)
  refine oG m T3 37 #[vR ob0,vR u8,vR ar2,vI 0,vI 3,oU,oU,oU,oU,oU,oU] [] (fun _ k => st3 _ (Jvm.RoadKit.acmp (g := (mkF m 34 #[vR ob0,vR u8,vR ar2,vI 0,vI 3,oU,oU,oU,oU,oU,oU] [(.ref u8),(.ref u8)])) X3 hx rfl rfl rfl (pc0 := 34) (pc' := 37) (same := true) rfl (hb hby d49_34) rfl (decide_eq_true rfl) (by decide) (by decide) k)) ?_
  have Sg4 := SS.sC
  obtain ⟨T5, X5, e5, st5⟩ := getS2 X3 hx hZ hown (host := "") (Or.inl (oH hw 81 rfl)) Via.refl e3 Sg4 (g := (mkF m 37 #[vR ob0, vR u8, vR ar2, vI 0, vI 3, oU, oU, oU, oU, oU, oU] [])) rfl (hb hby d49_37)
  refine oG m T5 47 #[vR ob0,vR u8,vR ar2,vI 0,vI 3,oU,oU,oU,oU,oU,oU] [(.int 3),(.int 0),(.ref ar2)] (fun _ k => st5 _ (XS.ifNo X5.here hx rfl (hb hby d49_40) rfl ((if0 _ _).trans (feq SS.nz).1) (XS.aloadN X5.here hx rfl (hb hby d49_43) rfl rfl (XS.iloadN X5.here hx rfl (hb hby d49_44) rfl (XS.iload X5.here hx rfl (hb hby d49_45) rfl k))))) ?_
  obtain ⟨T6, X6, e6, st6⟩ := own_cP X5 hx hZ hown (oH hw 82 rfl) (oH hw 83 rfl) (oH hw 84 rfl) (oH hw 85 rfl) (by decide) (rmz67 l Z a0 hw [] ar2 kr2 z2_0 z2_1 z2_2 z2_3 u8 zc fv h0 n0 Z0 V_ar2 g_ar2 E_ar2 SS hq0) (W := 0) (by decide) (by decide) (g := (mkF m 47 #[vR ob0, vR u8, vR ar2, vI 0, vI 3, oU, oU, oU, oU, oU, oU] [(.int 3), (.int 0), (.ref ar2)])) rfl (by rw [hml]; rfl) (argsL := [(.ref ar2), (.int 0), (.int 3)]) (rest := []) (lenOf pd_242 rfl) rfl rfl rfl (hb hby d49_47) e5 rfl (by decide) (by decide) (by decide : 0 ≤ _) (by decide : 0 ≤ _)
  refine oG m T6 84 #[vR ob0,vR u8,vR ar2,vI 0,vI 3,vI 0,oU,oU,oU,oU,oU] [(.int ((0 : Int32) + (3 : Int32))),(.int 0),(.ref ar2)] (fun _ k => st6 _ (XS.istore X6.here hx rfl (hb hby d49_50) rfl (l' := #[vR ob0,vR u8,vR ar2,vI 0,vI 3,vI 0,oU,oU,oU,oU,oU]) rfl (XS.iload X6.here hx rfl (hb hby d49_52) rfl (XS.iload X6.here hx rfl (hb hby d49_54) rfl (XS.icmpYes X6.here hx rfl (pc0 := 56) (pc' := 78) rfl (hb hby d49_56) rfl (feq (by decide)).2 (by decide) (by decide) (XS.aloadN X6.here hx rfl (hb hby d49_78) rfl rfl (XS.iloadN X6.here hx rfl (hb hby d49_79) rfl (XS.iloadN X6.here hx rfl (hb hby d49_80) rfl (XS.iload X6.here hx rfl (hb hby d49_81) rfl (XS.iadd X6.here hx rfl (hb hby d49_83) rfl k)))))))))) ?_
  rw [show ((0 : Int32) + (3 : Int32)) = (3 : Int32) from by decide]
  obtain ⟨v7, T7, Lc7, X7, hQ7, st7⟩ := own_cS X6 hx hZ hown (oH hw 86 rfl) (oH hw 87 rfl) (oH hw 88 rfl) (oH hw 89 rfl) (by decide) (rmz69 l Z a0 hw [] ar2 kr2 z2_0 z2_1 z2_2 z2_3 u8 zc fv h0 n0 Z0 V_ar2 g_ar2 E_ar2 SS) (W := 0) (by decide) (by decide) (g := (mkF m 84 #[vR ob0, vR u8, vR ar2, vI 0, vI 3, vI 0, oU, oU, oU, oU, oU] [(.int 3), (.int 0), (.ref ar2)])) rfl (by rw [hml]; rfl) (argsL := [(.ref ar2), (.int 0), (.int 3)]) (rest := []) (lenOf pd_298 rfl) rfl rfl rfl (hb hby d49_84) e6 rfl (by decide : 0 + 1 ≤ _) (by decide : 0 + 3 ≤ _)
  obtain ⟨na7_0, ka7_0, rfl, Nq7, Kc7, sa7_0, va7_0⟩ := hQ7
  have Kt7 := K0.trans Kc7 (fun x hx => nomatch hx)
  have N7 := Fr.app N0 Nq7
  have Z7 : n0 ≤ T7.heap.size := Nat.le_trans Z0 Kc7.1
  have c7_Eob0 := E_ob0.keep Kc7
  have c7_Fob0_value := F_ob0_value.keep Kc7 nin0
  have c7_Fob0_coder := F_ob0_coder.keep Kc7 nin0
  have c7_Var2 := V_ar2.keep Kc7 nin0
  have c7_Ear2 := E_ar2.keep Kc7
  have c7_USS := SS.keep Kc7 own_ns0
  refine oG m T7 87 #[vR ob0,vR u8,vR ar2,vI 0,vI 3,vI 0,oU,oU,oU,oU,oU] [(.ref na7_0)] (fun _ k => st7 _ k) ?_
  have g_na7_0 : n0 ≤ na7_0 := Nat.le_trans Z0 sa7_0
  have sz_na7_0 : h0.size ≤ na7_0 := Nat.le_trans K0.1 sa7_0
  have ne_ob0_na7_0 : ob0 ≠ na7_0 := Nat.ne_of_lt (Nat.lt_of_lt_of_le E_ob0.lt sa7_0)
  have ne_ar2_na7_0 : ar2 ≠ na7_0 := Nat.ne_of_lt (Nat.lt_of_lt_of_le E_ar2.lt sa7_0)
  refine oG m T7 107 #[vR ob0,vR u8,vR ar2,vI 0,vI 3,vI 0,vR na7_0,vI ((0 : Int32) + (1 : Int32)),oU,oU,oU] [(.int 0),(.ref na7_0)] (fun _ k => XS.astore X7.here hx rfl (hb hby d49_87) rfl rfl (l' := #[vR ob0,vR u8,vR ar2,vI 0,vI 3,vI 0,vR na7_0,oU,oU,oU,oU]) rfl (XS.iload X7.here hx rfl (hb hby d49_89) rfl (XS.istore X7.here hx rfl (hb hby d49_91) rfl (l' := #[vR ob0,vR u8,vR ar2,vI 0,vI 3,vI 0,vR na7_0,vI 0,oU,oU,oU]) rfl (XS.iload X7.here hx rfl (hb hby d49_93) rfl (XS.iload X7.here hx rfl (hb hby d49_95) rfl (XS.icmpNo X7.here hx rfl (hb hby d49_97) rfl (tlt (by decide)).2.1 (XS.aload X7.here hx rfl (hb hby d49_100) rfl rfl (XS.iload X7.here hx rfl (hb hby d49_102) rfl (XS.iinc X7.here hx rfl (hb hby d49_104) rfl (l' := #[vR ob0,vR u8,vR ar2,vI 0,vI 3,vI 0,vR na7_0,vI ((0 : Int32) + (1 : Int32)),oU,oU,oU]) rfl k))))))))) ?_
  rw [show ((0 : Int32) + (1 : Int32)) = (1 : Int32) from by decide]
  obtain ⟨cl8, Ar8, -, S8, -, H8, -⟩ := id va7_0
  have hin8 := inb_of (j := (0 : Int32)) S8 ⟨by decide, by decide⟩
  have hat8 := Has.at (v := (.int z2_0)) H8 hin8 (by first | rfl | decide)
  refine own_go (S' := (T7.setTop (mkF m 108 #[vR ob0, vR u8, vR ar2, vI 0, vI 3, vI 0, vR na7_0, vI 1, oU, oU, oU] [(.int z2_0)]))) (fun _ kont => X7.baloadBytes hx (j := (0 : Int32)) (v := (.int z2_0)) Ar8.1 (State.isArrayOf_alike hZ.alike Ar8.2.1) Ar8.2.2 hin8 hat8 (g := (mkF m 107 #[vR ob0, vR u8, vR ar2, vI 0, vI 3, vI 0, vR na7_0, vI 1, oU, oU, oU] [(.int 0), (.ref na7_0)])) rfl rfl (hb hby d49_107) _ kont) ?_
  refine oG m T7 187 #[vR ob0,vR u8,vR ar2,vI 0,vI 3,vI 0,vR na7_0,vI ((1 : Int32) + (-1 : Int32)),vI z2_0,oU,oU] [] (fun _ k => XS.istore X7.here hx rfl (hb hby d49_108) rfl (l' := #[vR ob0,vR u8,vR ar2,vI 0,vI 3,vI 0,vR na7_0,vI 1,vI z2_0,oU,oU]) rfl (XS.iload X7.here hx rfl (hb hby d49_110) rfl (XS.ifYes X7.here hx rfl (pc0 := 112) (pc' := 129) rfl (hb hby d49_112) rfl ((if0 _ _).trans (tlt hq0).1) (by decide) (by decide) (XS.iload X7.here hx rfl (hb hby d49_129) rfl (XS.sipush X7.here hx rfl (hb hby d49_131) (XS.iand X7.here hx rfl (hb hby d49_134) rfl (XS.sipush X7.here hx rfl (hb hby d49_135) (XS.icmpYes X7.here hx rfl (pc0 := 138) (pc' := 184) rfl (hb hby d49_138) rfl (feq hq1).2 (by decide) (by decide) (XS.iinc X7.here hx rfl (hb hby d49_184) rfl (l' := #[vR ob0,vR u8,vR ar2,vI 0,vI 3,vI 0,vR na7_0,vI ((1 : Int32) + (-1 : Int32)),vI z2_0,oU,oU]) rfl k))))))))) ?_
  rw [show ((1 : Int32) + (-1 : Int32)) = (0 : Int32) from by decide]
  refine oG m T7 228 #[vR ob0,vR u8,vR ar2,vI 0,vI 3,vI 0,vR na7_0,vI 0,vI z2_0,oU,oU] [(.int 3)] (fun _ k => XS.goto X7.here hx rfl (pc0 := 187) (pc' := 190) rfl (hb hby d49_187) (by decide) (by decide) (XS.iload X7.here hx rfl (hb hby d49_190) rfl (XS.iload X7.here hx rfl (hb hby d49_192) rfl (XS.icmpYes X7.here hx rfl (pc0 := 194) (pc' := 226) rfl (hb hby d49_194) rfl (feq (by decide)).2 (by decide) (by decide) (XS.iload X7.here hx rfl (hb hby d49_226) rfl k))))) ?_
  obtain ⟨v9, T9, Lc9, X9, hQ9, st9⟩ := own_cS X7 hx hZ hown (oH hw 150 rfl) (oH hw 151 rfl) (oH hw 152 rfl) (oH hw 153 rfl) (by decide) (rmz70 l Z a0 hw []  u8 zc fv T7.heap n0 Z7  c7_USS) (W := 0) (by decide) (by decide) (g := (mkF m 228 #[vR ob0, vR u8, vR ar2, vI 0, vI 3, vI 0, vR na7_0, vI 0, vI z2_0, oU, oU] [(.int 3)])) rfl (by rw [hml]; rfl) (argsL := [(.int 3)]) (rest := []) (lenOf pd_542 rfl) rfl rfl rfl (hb hby d49_228) rfl rfl (by decide : 1 + 1 ≤ _) (by decide : 3 + 6 ≤ _)
  obtain ⟨na9_0, ka9_0, rfl, Nq9, Kc9, sa9_0, va9_0⟩ := hQ9
  have Kt9 := Kt7.trans Kc9 (fun x hx => nomatch hx)
  have N9 := Fr.app N7 Nq9
  have Z9 : n0 ≤ T9.heap.size := Nat.le_trans Z7 Kc9.1
  have c9_Eob0 := c7_Eob0.keep Kc9
  have c9_Fob0_value := c7_Fob0_value.keep Kc9 nin0
  have c9_Fob0_coder := c7_Fob0_coder.keep Kc9 nin0
  have c9_Var2 := c7_Var2.keep Kc9 nin0
  have c9_Ear2 := c7_Ear2.keep Kc9
  have c9_USS := c7_USS.keep Kc9 own_ns0
  have c9_Vna7_0 := va7_0.keep Kc9 nin0
  refine oG m T9 231 #[vR ob0,vR u8,vR ar2,vI 0,vI 3,vI 0,vR na7_0,vI 0,vI z2_0,oU,oU] [(.ref na9_0)] (fun _ k => st9 _ k) ?_
  have g_na9_0 : n0 ≤ na9_0 := Nat.le_trans Z7 sa9_0
  have sz_na9_0 : h0.size ≤ na9_0 := Nat.le_trans Kt7.1 sa9_0
  have ne_ob0_na9_0 : ob0 ≠ na9_0 := Nat.ne_of_lt (Nat.lt_of_lt_of_le c7_Eob0.lt sa9_0)
  have ne_ar2_na9_0 : ar2 ≠ na9_0 := Nat.ne_of_lt (Nat.lt_of_lt_of_le c7_Ear2.lt sa9_0)
  have ne_na7_0_na9_0 : na7_0 ≠ na9_0 := Nat.ne_of_lt (Nat.lt_of_lt_of_le va7_0.lt sa9_0)
  refine oG m T9 241 #[vR ob0,vR u8,vR ar2,vI 0,vI 3,vI 0,vR na7_0,vI 0,vR na9_0,oU,oU] [(.int 0),(.int 0),(.ref na9_0),(.int 0),(.ref na7_0)] (fun _ k => XS.astore X9.here hx rfl (hb hby d49_231) rfl rfl (l' := #[vR ob0,vR u8,vR ar2,vI 0,vI 3,vI 0,vR na7_0,vI 0,vR na9_0,oU,oU]) rfl (XS.aload X9.here hx rfl (hb hby d49_233) rfl rfl (XS.iconst X9.here hx rfl (hb hby d49_235) (XS.aload X9.here hx rfl (hb hby d49_236) rfl rfl (XS.iconst X9.here hx rfl (hb hby d49_238) (XS.iload X9.here hx rfl (hb hby d49_239) rfl k)))))) ?_
  obtain ⟨T10, X10, e10, st10⟩ := own_cP X9 hx hZ hown (oH hw 158 rfl) (oH hw 159 rfl) (oH hw 131 rfl) (oH hw 160 rfl) (by decide) (rmz74 l Z a0 hw [] na7_0 ka7_0 z2_0 z2_1 z2_2 na9_0 ka9_0 (0 : Int32) (0 : Int32) (0 : Int32) (0 : Int32) (0 : Int32) (0 : Int32) u8 zc fv T9.heap n0 Z9 c9_Vna7_0 g_na7_0 va9_0 g_na9_0 ne_na7_0_na9_0 c9_USS) (W := 0) (by decide) (by decide) (g := (mkF m 241 #[vR ob0, vR u8, vR ar2, vI 0, vI 3, vI 0, vR na7_0, vI 0, vR na9_0, oU, oU] [(.int 0), (.int 0), (.ref na9_0), (.int 0), (.ref na7_0)])) rfl (by rw [hml]; rfl) (argsL := [(.ref na7_0), (.int 0), (.ref na9_0), (.int 0), (.int 0)]) (rest := []) (lenOf pd_579 rfl) rfl rfl rfl (hb hby d49_241) rfl rfl (by decide) (by decide) (by decide : 2 ≤ _) (by decide : 9 ≤ _)
  refine oG m T10 255 #[vR ob0,vR u8,vR ar2,vI 0,vI 3,vI 0,vR na7_0,vI 0,vR na9_0,oU,oU] [(.int 1),(.int 0),(.ref na9_0),(.int 3),(.int 0),(.ref na7_0)] (fun _ k => st10 _ (XS.aload X10.here hx rfl (hb hby d49_244) rfl rfl (XS.iload X10.here hx rfl (hb hby d49_246) rfl (XS.iload X10.here hx rfl (hb hby d49_248) rfl (XS.aload X10.here hx rfl (hb hby d49_250) rfl rfl (XS.iload X10.here hx rfl (hb hby d49_252) rfl (XS.iconst X10.here hx rfl (hb hby d49_254) k))))))) ?_
  obtain ⟨v11, T11, Lc11, X11, hQ11, st11⟩ := own_cS X10 hx hZ hown (oH hw 171 rfl) (oH hw 172 rfl) (oH hw 54 rfl) (oH hw 173 rfl) (by decide) (rmz77 l Z a0 hw [] na7_0 ka7_0 z2_0 z2_1 z2_2 na9_0 ka9_0 (0 : Int32) (0 : Int32) (0 : Int32) (0 : Int32) (0 : Int32) (0 : Int32) u8 zc fv T9.heap n0 Z9 c9_Vna7_0 g_na7_0 va9_0 g_na9_0 ne_na7_0_na9_0 c9_USS hq0 hq2 hq3 hq4 hq5) (W := 0) (by decide) (by decide) (g := (mkF m 255 #[vR ob0, vR u8, vR ar2, vI 0, vI 3, vI 0, vR na7_0, vI 0, vR na9_0, oU, oU] [(.int 1), (.int 0), (.ref na9_0), (.int 3), (.int 0), (.ref na7_0)])) rfl (by rw [hml]; rfl) (argsL := [(.ref na7_0), (.int 0), (.int 3), (.ref na9_0), (.int 0), (.int 1)]) (rest := []) (lenOf pd_653 rfl) rfl rfl rfl (hb hby d49_255) e10 rfl (by decide : 2 + 0 ≤ _) (by decide : 9 + 0 ≤ _)
  obtain ⟨rfl, Nq11, Kc11, wa11_0⟩ := hQ11
  have Kt11 := Kt9.trans Kc11 (fun x hx => by simp only [List.mem_cons, List.mem_singleton, List.not_mem_nil, or_false] at hx; rcases hx with rfl <;> first | (left; simp; done) | (right; assumption))
  have N11 := Fr.app N9 Nq11
  have Z11 : n0 ≤ T11.heap.size := Nat.le_trans Z9 Kc11.1
  have c11_Eob0 := c9_Eob0.keep Kc11
  have c11_Fob0_value := c9_Fob0_value.keep Kc11 (ninS ne_ob0_na9_0 nin0)
  have c11_Fob0_coder := c9_Fob0_coder.keep Kc11 (ninS ne_ob0_na9_0 nin0)
  have c11_Var2 := c9_Var2.keep Kc11 (ninS ne_ar2_na9_0 nin0)
  have c11_Ear2 := c9_Ear2.keep Kc11
  have c11_USS := c9_USS.keep Kc11 (own_nsS (own_nsA va9_0) own_ns0)
  have c11_Vna7_0 := c9_Vna7_0.keep Kc11 (ninS ne_na7_0_na9_0 nin0)
  refine oG m T11 273 #[vR ob0,vR u8,vR ar2,vI 0,vI 3,vI 1,vR na7_0,vI 0,vR na9_0,oU,oU] [(.int ((1 : Int32) <<< ((1 : Int32) &&& 31))),(.ref na9_0)] (fun _ k => st11 _ (XS.istore X11.here hx rfl (hb hby d49_258) rfl (l' := #[vR ob0,vR u8,vR ar2,vI 0,vI 3,vI 1,vR na7_0,vI 0,vR na9_0,oU,oU]) rfl (XS.iload X11.here hx rfl (hb hby d49_260) rfl (XS.iload X11.here hx rfl (hb hby d49_262) rfl (XS.icmpNo X11.here hx rfl (hb hby d49_264) rfl (feq (by decide)).1 (XS.aload X11.here hx rfl (hb hby d49_267) rfl rfl (XS.iload X11.here hx rfl (hb hby d49_269) rfl (XS.iconst X11.here hx rfl (hb hby d49_271) (XS.ishl X11.here hx rfl (hb hby d49_272) rfl k))))))))) ?_
  rw [show ((1 : Int32) <<< ((1 : Int32) &&& 31)) = (2 : Int32) from by decide]
  obtain ⟨v12, T12, Lc12, X12, hQ12, st12⟩ := own_cS X11 hx hZ hown (oH hw 201 rfl) (oH hw 202 rfl) (oH hw 88 rfl) (oH hw 203 rfl) (by decide) (rmz78 l Z a0 hw [] na9_0 ka9_0 (own_hi (own_d3 z2_0 z2_1 z2_2)) (own_lo (own_d3 z2_0 z2_1 z2_2)) (0 : Int32) (0 : Int32) (0 : Int32) (0 : Int32) u8 zc fv T11.heap n0 Z11 wa11_0 g_na9_0 c11_USS) (W := 0) (by decide) (by decide) (g := (mkF m 273 #[vR ob0, vR u8, vR ar2, vI 0, vI 3, vI 1, vR na7_0, vI 0, vR na9_0, oU, oU] [(.int 2), (.ref na9_0)])) rfl (by rw [hml]; rfl) (argsL := [(.ref na9_0), (.int 2)]) (rest := []) (lenOf pd_515 rfl) rfl rfl rfl (hb hby d49_273) rfl rfl (by decide : 2 + 1 ≤ _) (by decide : 9 + 2 ≤ _)
  obtain ⟨na12_0, ka12_0, rfl, Nq12, Kc12, sa12_0, va12_0⟩ := hQ12
  have Kt12 := Kt11.trans Kc12 (fun x hx => nomatch hx)
  have N12 := Fr.app N11 Nq12
  have Z12 : n0 ≤ T12.heap.size := Nat.le_trans Z11 Kc12.1
  have c12_Eob0 := c11_Eob0.keep Kc12
  have c12_Fob0_value := c11_Fob0_value.keep Kc12 nin0
  have c12_Fob0_coder := c11_Fob0_coder.keep Kc12 nin0
  have c12_Var2 := c11_Var2.keep Kc12 nin0
  have c12_Ear2 := c11_Ear2.keep Kc12
  have c12_USS := c11_USS.keep Kc12 own_ns0
  have c12_Vna7_0 := c11_Vna7_0.keep Kc12 nin0
  have c12_Vna9_0 := wa11_0.keep Kc12 nin0
  refine oG m T12 276 #[vR ob0,vR u8,vR ar2,vI 0,vI 3,vI 1,vR na7_0,vI 0,vR na9_0,oU,oU] [(.ref na12_0)] (fun _ k => st12 _ k) ?_
  have g_na12_0 : n0 ≤ na12_0 := Nat.le_trans Z11 sa12_0
  have sz_na12_0 : h0.size ≤ na12_0 := Nat.le_trans Kt11.1 sa12_0
  have ne_ob0_na12_0 : ob0 ≠ na12_0 := Nat.ne_of_lt (Nat.lt_of_lt_of_le c11_Eob0.lt sa12_0)
  have ne_ar2_na12_0 : ar2 ≠ na12_0 := Nat.ne_of_lt (Nat.lt_of_lt_of_le c11_Ear2.lt sa12_0)
  have ne_na7_0_na12_0 : na7_0 ≠ na12_0 := Nat.ne_of_lt (Nat.lt_of_lt_of_le c11_Vna7_0.lt sa12_0)
  have ne_na9_0_na12_0 : na9_0 ≠ na12_0 := Nat.ne_of_lt (Nat.lt_of_lt_of_le wa11_0.lt sa12_0)
  refine oG m T12 281 #[vR ob0,vR u8,vR ar2,vI 0,vI 3,vI 1,vR na7_0,vI 0,vR na12_0,oU,oU] [(.ref na12_0),(.ref ob0)] (fun _ k => XS.astore X12.here hx rfl (hb hby d49_276) rfl rfl (l' := #[vR ob0,vR u8,vR ar2,vI 0,vI 3,vI 1,vR na7_0,vI 0,vR na12_0,oU,oU]) rfl (XS.aloadN X12.here hx rfl (hb hby d49_278) rfl rfl (XS.aload X12.here hx rfl (hb hby d49_279) rfl rfl k))) ?_
  obtain ⟨T13, h13, X13, e13, W13, st13⟩ := putF X12 hx hZ hown (host := "") (Or.inl (oH hw 104 rfl)) Via.refl rfl c12_Fob0_value c12_Eob0 (Or.inr ⟨(oH hw 105 rfl), rfl, hnm⟩) (oH hw 53 rfl) (ty := (.array .byte)) (by decide) rfl rfl (g := (mkF m 281 #[vR ob0, vR u8, vR ar2, vI 0, vI 3, vI 1, vR na7_0, vI 0, vR na12_0, oU, oU] [(.ref na12_0), (.ref ob0)])) rfl rfl (hb hby d49_281)
  have c13_Eob0 := c12_Eob0.wr W13
  have c13_Fob0_value := c12_Fob0_value.same W13
  have c13_Fob0_coder := c12_Fob0_coder.other W13 (Or.inr (slot_ne (Or.inr (oH hw 107 rfl)) (Or.inr (oH hw 105 rfl)) (by decide) (by decide : parseFieldDescriptor "B" = some .byte) (by decide : parseFieldDescriptor "[B" = some (.array .byte))))
  have c13_Var2 := c12_Var2.other W13 (Ne.symm ne_ob0_ar2)
  have c13_Ear2 := c12_Ear2.wr W13
  have c13_USS := c12_USS.wr W13
  have c13_Vna7_0 := c12_Vna7_0.other W13 (Ne.symm ne_ob0_na7_0)
  have c13_Vna9_0 := c12_Vna9_0.other W13 (Ne.symm ne_ob0_na9_0)
  have c13_Vna12_0 := va12_0.other W13 (Ne.symm ne_ob0_na12_0)
  have K13 := Kt12.wr W13 (Or.inl (List.mem_of_getElem? (i := 0) rfl))
  have N13 := Fr.snoc X13 N12 g_ob0
  have Z13 : n0 ≤ h13.size := Nat.le_trans Z12 (Nat.le_of_eq W13.size.symm)
  refine oG m T13 286 #[vR ob0,vR u8,vR ar2,vI 0,vI 3,vI 1,vR na7_0,vI 0,vR na12_0,oU,oU] [(.int 1),(.ref ob0)] (fun _ k => st13 _ (XS.aloadN X13.here hx rfl (hb hby d49_284) rfl rfl (XS.iconst X13.here hx rfl (hb hby d49_285) k))) ?_
  obtain ⟨T14, h14, X14, e14, W14, st14⟩ := putFN X13 hx hZ hown (oH hw 106 rfl) Via.refl e13 c13_Fob0_coder c13_Eob0 (Or.inr ⟨(oH hw 107 rfl), rfl, hnm⟩) (oH hw 53 rfl) (ty := .byte) (v' := (.int 1)) (by decide) rfl (by first | exact fits_nar_byte _ | rfl | decide) (g := (mkF m 286 #[vR ob0, vR u8, vR ar2, vI 0, vI 3, vI 1, vR na7_0, vI 0, vR na12_0, oU, oU] [(.int 1), (.ref ob0)])) rfl rfl (hb hby d49_286)
  have c14_Eob0 := c13_Eob0.wr W14
  have c14_Fob0_value := c13_Fob0_value.other W14 (Or.inr (slot_ne (Or.inr (oH hw 105 rfl)) (Or.inr (oH hw 107 rfl)) (by decide) (by decide : parseFieldDescriptor "[B" = some (.array .byte)) (by decide : parseFieldDescriptor "B" = some .byte)))
  have c14_Fob0_coder := c13_Fob0_coder.same W14
  have c14_Var2 := c13_Var2.other W14 (Ne.symm ne_ob0_ar2)
  have c14_Ear2 := c13_Ear2.wr W14
  have c14_USS := c13_USS.wr W14
  have c14_Vna7_0 := c13_Vna7_0.other W14 (Ne.symm ne_ob0_na7_0)
  have c14_Vna9_0 := c13_Vna9_0.other W14 (Ne.symm ne_ob0_na9_0)
  have c14_Vna12_0 := c13_Vna12_0.other W14 (Ne.symm ne_ob0_na12_0)
  have K14 := K13.wr W14 (Or.inl (List.mem_of_getElem? (i := 0) rfl))
  have N14 := Fr.snoc X14 N13 g_ob0
  have Z14 : n0 ≤ h14.size := Nat.le_trans Z13 (Nat.le_of_eq W14.size.symm)
  refine oG m T14 879 #[vR ob0,vR u8,vR ar2,vI 0,vI 3,vI 1,vR na7_0,vI 0,vR na12_0,oU,oU] [] (fun _ k => st14 _ (XS.goto X14.here hx rfl (pc0 := 289) (pc' := 879) rfl (hb hby d49_289) (by decide) (by decide) k)) ?_
  refine own_ret0 X14 hx hlk Bd.returns (hb hby d49_879) (by decide) (by decide) ?_
  rw [e14]
  exact ⟨na12_0, ka12_0, (by first | rfl | decide), N14, K14, sz_na12_0, c14_Vna12_0, c14_Fob0_value, c14_Fob0_coder⟩
def Q_rmz80 (Z : State) (ob0 : Addr) (ar1 : Addr) (kr1 : ClassId) (z1_0 : Int32) (z1_1 : Int32) (z1_2 : Int32) (z1_3 : Int32) (u8 : Addr) (zc : Int32) (fv : Value) (h0 : Heap) (n0 : Nat) (v : Option Value) (h : Heap) (L : List Loc) : Prop := ∃ (NA0 : Addr) (KA0 : ClassId), v = none ∧ Fr n0 L ∧ Keep h0 h [ob0] ∧ h0.size ≤ NA0 ∧ Arv Z h NA0 KA0 .byte (2 : Int32) [(.int (own_hi (own_d3 z1_0 z1_1 z1_2))), (.int (own_lo (own_d3 z1_0 z1_1 z1_2)))] (.int 0) ∧ Fld Z h ob0 "java/lang/String" "value" "[B" (.ref NA0) ∧ Fld Z h ob0 "java/lang/String" "coder" "B" (.int 1)
theorem rmz80 (l : Launch) (Z : State) (a0 : Array Value) (hw : oW a0 Z) (ws : List Jvm.Cond) (ob0 : Addr) (ar1 : Addr) (kr1 : ClassId) (z1_0 : Int32) (z1_1 : Int32) (z1_2 : Int32) (z1_3 : Int32) (u8 : Addr) (zc : Int32) (fv : Value) (h0 : Heap) (n0 : Nat) (Z0 : n0 ≤ h0.size) (E_ob0 : Exa Z h0 ob0 "java/lang/String") (g_ob0 : n0 ≤ ob0) (F_ob0_value : Fld Z h0 ob0 "java/lang/String" "value" "[B" .null) (F_ob0_coder : Fld Z h0 ob0 "java/lang/String" "coder" "B" (.int 0)) (V_ar1 : Arv Z h0 ar1 kr1 .byte (4 : Int32) [(.int z1_0), (.int z1_1), (.int z1_2), (.int z1_3)] (.int 0)) (g_ar1 : n0 ≤ ar1) (E_ar1 : Exa Z h0 ar1 "[B") (ne_ob0_ar1 : ob0 ≠ ar1) (SS : own_Sx Z h0 u8 zc fv) (hq0 : z1_0 < (0 : Int32)) (hq1 : ¬ (z1_0 &&& (254 : Int32)) = (194 : Int32)) (hq2 : ¬ (z1_0 >>> ((5 : Int32) &&& 31)) = (-2 : Int32)) (hq3 : (z1_0 >>> ((4 : Int32) &&& 31)) = (-2 : Int32)) (hq4 : (own_im3_0 z1_0 z1_1 z1_2) = (0 : Int32)) (hq5 : (own_sur_0 (own_d3 z1_0 z1_1 z1_2)) = (0 : Int32)) : own_K l (⟨"java/lang/String", "<init>", "([BIILjava/nio/charset/Charset;)V"⟩ : MethodName) jdk_42_method_10_code 5 none ws ({ frames := 6, cells := 3, slots := 11, locals := 98 } : Room) Z h0 #[(.ref ob0), (.ref ar1), (.int 0), (.int 3), (.ref u8)] (Q_rmz80 Z ob0 ar1 kr1 z1_0 z1_1 z1_2 z1_3 u8 zc fv h0 n0) := by
  refine own_met (plainFor_of_name pn_22) ?_
  intro p e s m below meth c s₁ hx hby hlk hml hown hnm hrt hZ hh X0 e0
  have N0 := Fr.nil n0
  refine oG m s₁ 0 #[vR ob0,vR ar1,vI 0,vI 3,vR u8] [] (fun _ k => castTop (by first | (simp [entryFrame,mkF,argsToLocals,Value.category]; done) | rfl) k) ?_
  have K0 := Keep.refl h0 [ob0]
  refine oG m s₁ 3 #[vR ob0,vR ar1,vI 0,vI 3,vR u8] [(.ref u8),(.ref ob0)] (fun _ k => XS.aloadN X0.here hx rfl (hb hby d11_0) rfl rfl (XS.aload X0.here hx rfl (hb hby d11_1) rfl rfl k)) ?_
  obtain ⟨T1, X1, e1, st1⟩ := own_cP X0 hx hZ hown (oH hw 60 rfl) (oH hw 61 rfl) (oH hw 62 rfl) (oH hw 63 rfl) (by decide) (rmz8 l Z a0 hw []  u8 zc fv h0 n0 Z0  SS) (W := 1) (by decide) (by decide) (g := (mkF m 3 #[vR ob0, vR ar1, vI 0, vI 3, vR u8] [(.ref u8), (.ref ob0)])) rfl (by rw [hml]; rfl) (argsL := [(.ref u8)]) (rest := [(.ref ob0)]) (lenOf pd_180 rfl) rfl rfl rfl (hb hby d11_3) e0 rfl (by decide) (by decide) (by decide : 0 ≤ _) (by decide : 0 ≤ _)
  refine oG m T1 6 #[vR ob0,vR ar1,vI 0,vI 3,vR u8] [(.ref u8),(.ref ob0)] (fun _ k => st1 _ k) ?_
  obtain ⟨T2, X2, e2, st2⟩ := castY X1 hx hZ hown (oH hw 64 rfl) e1 (Ins.of_exa SS.eu (oH hw 65 rfl)) (g := (mkF m 6 #[vR ob0, vR ar1, vI 0, vI 3, vR u8] [(.ref u8), (.ref ob0)])) rfl rfl (hb hby d11_6)
  refine oG m T2 13 #[vR ob0,vR ar1,vI 0,vI 3,vR u8] [(.ref ar1),(.int 3),(.int 0),(.ref ar1),(.ref u8),(.ref ob0)] (fun _ k => st2 _ (XS.aloadN X2.here hx rfl (hb hby d11_9) rfl rfl (XS.iloadN X2.here hx rfl (hb hby d11_10) rfl (XS.iloadN X2.here hx rfl (hb hby d11_11) rfl (XS.aloadN X2.here hx rfl (hb hby d11_12) rfl rfl k))))) ?_
  obtain ⟨cl3, Ar3, -, S3, M3, -, -⟩ := id V_ar1
  have ql3 := len_of S3 M3
  refine own_go (S' := (T2.setTop (mkF m 14 #[vR ob0, vR ar1, vI 0, vI 3, vR u8] [(.int 4), (.int 3), (.int 0), (.ref ar1), (.ref u8), (.ref ob0)]))) (fun _ kont => X2.arraylength hx (by rw [e2]; exact Ar3.1) (State.isArrayOf_alike hZ.alike Ar3.2.1) (g := (mkF m 13 #[vR ob0, vR ar1, vI 0, vI 3, vR u8] [(.ref ar1), (.int 3), (.int 0), (.ref ar1), (.ref u8), (.ref ob0)])) rfl rfl (hb hby d11_13) _ (by rw [ql3]; exact kont)) ?_
  obtain ⟨T4, X4, e4, st4⟩ := own_cP X2 hx hZ hown (oH hw 66 rfl) (oH hw 67 rfl) (oH hw 54 rfl) (oH hw 68 rfl) (by decide) (rmz10 l Z a0 hw [] (0 : Int32) (3 : Int32) (4 : Int32) u8 zc fv h0 n0 Z0  SS (by decide) (by decide)) (W := 3) (by decide) (by decide) (g := (mkF m 14 #[vR ob0, vR ar1, vI 0, vI 3, vR u8] [(.int 4), (.int 3), (.int 0), (.ref ar1), (.ref u8), (.ref ob0)])) rfl (by rw [hml]; rfl) (argsL := [(.int 0), (.int 3), (.int 4)]) (rest := [(.ref ar1), (.ref u8), (.ref ob0)]) (lenOf pd_209 rfl) rfl rfl rfl (hb hby d11_14) e2 rfl (by decide) (by decide) (by decide : 0 ≤ _) (by decide : 0 ≤ _)
  refine oG m T4 18 #[vR ob0,vR ar1,vI 0,vI 3,vR u8] [(.int 3),(.int 0),(.ref ar1),(.ref u8),(.ref ob0)] (fun _ k => st4 _ (XS.iloadN X4.here hx rfl (hb hby d11_17) rfl k)) ?_
  obtain ⟨v5, _, ⟨T5, L5, k5, n5⟩, -, X5, ⟨Lc5, hQ5, l5, y5, z5⟩, st5⟩ := X4.specialBackH hx (y := (⟨"java/lang/String", "<init>", "(Ljava/nio/charset/Charset;[BII)V"⟩ : MethodName)) rfl hown (mvT hZ (oH hw 74 rfl)) (mvT hZ (oH hw 75 rfl)) (mvT hZ (oH hw 77 rfl)) (by decide) (backOfWith (W := 0) (rmz79 l Z a0 hw [] ob0 ar1 kr1 z1_0 z1_1 z1_2 z1_3 u8 zc fv h0 n0 Z0 E_ob0 g_ob0 F_ob0_value F_ob0_coder V_ar1 g_ar1 E_ar1 ne_ob0_ar1 SS hq0 hq1 hq2 hq3 hq4 hq5) hZ (oH hw 77 rfl) (oH hw 54 rfl) (by decide) (by decide)) (g := (mkF m 18 #[vR ob0, vR ar1, vI 0, vI 3, vR u8] [(.int 3), (.int 0), (.ref ar1), (.ref u8), (.ref ob0)])) rfl (by rw [hml]; rfl) (Steps.refl _) (a := ob0) (argsL := [(.ref u8), (.ref ar1), (.int 0), (.int 3)]) (rest := []) (lenOf pd_307 rfl) rfl (by show 2 * 0 + _ ≤ _; exact Nat.le_of_eq rfl) (hb hby d11_18) (fun _ _ => ⟨rfl, e4, (by decide : 0 + 3 ≤ _), (by decide : 0 + 11 ≤ _)⟩)
  dsimp only [Pt.U, Pt.locs, Pt.cells, Pt.slots] at X5 l5 y5 z5 st5 hQ5
  subst l5 y5 z5
  obtain ⟨na5_0, ka5_0, rfl, Nq5, Kc5, sa5_0, va5_0, wo5_0_value, wo5_0_coder⟩ := hQ5
  have Kt5 := K0.trans Kc5 (fun x hx => by simp only [List.mem_cons, List.mem_singleton, List.not_mem_nil, or_false] at hx; rcases hx with rfl <;> first | (left; simp; done) | (right; assumption))
  have N5 := Fr.app N0 Nq5
  have Z5 : n0 ≤ T5.heap.size := Nat.le_trans Z0 Kc5.1
  have c5_Eob0 := E_ob0.keep Kc5
  have c5_Var1 := V_ar1.keep Kc5 (ninS (Ne.symm ne_ob0_ar1) nin0)
  have c5_Ear1 := E_ar1.keep Kc5
  have c5_USS := SS.keep Kc5 (own_nsS (own_nsE E_ob0) own_ns0)
  refine oG m T5 21 #[vR ob0,vR ar1,vI 0,vI 3,vR u8] [] (fun _ k => st5.trans k) ?_
  have g_na5_0 : n0 ≤ na5_0 := Nat.le_trans Z0 sa5_0
  have sz_na5_0 : h0.size ≤ na5_0 := Nat.le_trans K0.1 sa5_0
  have ne_ob0_na5_0 : ob0 ≠ na5_0 := Nat.ne_of_lt (Nat.lt_of_lt_of_le E_ob0.lt sa5_0)
  have ne_ar1_na5_0 : ar1 ≠ na5_0 := Nat.ne_of_lt (Nat.lt_of_lt_of_le E_ar1.lt sa5_0)
  refine own_ret0 X5 hx hlk hrt (hb hby d11_21) (by decide) (by decide) ?_
  exact ⟨na5_0, ka5_0, (by first | rfl | decide), N5, Kt5, sz_na5_0, va5_0, wo5_0_value, wo5_0_coder⟩
def Q_rmz81 (Z : State) (ob0 : Addr) (ar0b : Addr) (kr0b : ClassId) (z0b_0 : Int32) (z0b_1 : Int32) (z0b_2 : Int32) (z0b_3 : Int32) (u8 : Addr) (zc : Int32) (fv : Value) (h0 : Heap) (n0 : Nat) (v : Option Value) (h : Heap) (L : List Loc) : Prop := ∃ (NA0 : Addr) (KA0 : ClassId), ∃ NO0 : Addr, v = some (.ref NO0) ∧ Fr n0 L ∧ Keep h0 h [] ∧ h0.size ≤ NA0 ∧ Arv Z h NA0 KA0 .byte (2 : Int32) [(.int (own_hi (own_d3 z0b_0 z0b_1 z0b_2))), (.int (own_lo (own_d3 z0b_0 z0b_1 z0b_2)))] (.int 0) ∧ h0.size ≤ NO0 ∧ Exa Z h NO0 "java/lang/String" ∧ Fld Z h NO0 "java/lang/String" "value" "[B" (.ref NA0) ∧ Fld Z h NO0 "java/lang/String" "coder" "B" (.int 1)
theorem rmz81 (l : Launch) (Z : State) (a0 : Array Value) (hw : oW a0 Z) (ws : List Jvm.Cond) (ob0 : Addr) (ar0b : Addr) (kr0b : ClassId) (z0b_0 : Int32) (z0b_1 : Int32) (z0b_2 : Int32) (z0b_3 : Int32) (u8 : Addr) (zc : Int32) (fv : Value) (h0 : Heap) (n0 : Nat) (Z0 : n0 ≤ h0.size) (E_ob0 : Exa Z h0 ob0 "clearcut/Text") (g_ob0 : n0 ≤ ob0) (V_ar0b : Arv Z h0 ar0b kr0b .byte (4 : Int32) [(.int z0b_0), (.int z0b_1), (.int z0b_2), (.int z0b_3)] (.int 0)) (g_ar0b : n0 ≤ ar0b) (E_ar0b : Exa Z h0 ar0b "[B") (F_ob0_bytes : Fld Z h0 ob0 "clearcut/Text" "bytes" "[B" (.ref ar0b)) (ne_ob0_ar0b : ob0 ≠ ar0b) (SS : own_Sx Z h0 u8 zc fv) (hq0 : z0b_0 < (0 : Int32)) (hq1 : ¬ (z0b_0 &&& (254 : Int32)) = (194 : Int32)) (hq2 : ¬ (z0b_0 >>> ((5 : Int32) &&& 31)) = (-2 : Int32)) (hq3 : (z0b_0 >>> ((4 : Int32) &&& 31)) = (-2 : Int32)) (hq4 : (own_im3_0 z0b_0 z0b_1 z0b_2) = (0 : Int32)) (hq5 : (own_sur_0 (own_d3 z0b_0 z0b_1 z0b_2)) = (0 : Int32)) : own_K l (⟨"clearcut/Text", "decode", "(II)Ljava/lang/String;"⟩ : MethodName) prog_60_method_17_code 3 (some (.object "java/lang/String")) ws ({ frames := 7, cells := 4, slots := 15, locals := 115 } : Room) Z h0 #[(.ref ob0), (.int 0), (.int 3)] (Q_rmz81 Z ob0 ar0b kr0b z0b_0 z0b_1 z0b_2 z0b_3 u8 zc fv h0 n0) := by
  refine own_met (plainFor_of_name pn_78) ?_
  intro p e s m below meth c s₁ hx hby hlk hml hown hnm hrt hZ hh X0 e0
  have N0 := Fr.nil n0
  refine oG m s₁ 0 #[vR ob0,vI 0,vI 3] [] (fun _ k => castTop (by first | (simp [entryFrame,mkF,argsToLocals,Value.category]; done) | rfl) k) ?_
  have K0 := Keep.refl h0 []
  obtain ⟨T1, h1, X1, e1, E1, A1, D1, -, st1⟩ := newO X0 hx hZ hown (oH hw 52 rfl) (oH hw 53 rfl) (oH hw 54 rfl) e0 (g := (mkF m 0 #[vR ob0, vI 0, vI 3] [])) rfl (hb hby d10_0) (by decide) (by decide)
  obtain ⟨b1, gz1⟩ : ∃ z, z = h0.size := ⟨_, rfl⟩
  rw [← gz1] at A1 D1 st1
  have sz_b1 : h0.size ≤ b1 := Nat.le_trans K0.1 (Nat.le_of_eq gz1.symm)
  have ne_ob0_b1 : ob0 ≠ b1 := Nat.ne_of_lt (by rw [gz1]; exact E_ob0.lt)
  have ne_ar0b_b1 : ar0b ≠ b1 := Nat.ne_of_lt (by rw [gz1]; exact V_ar0b.lt)
  have c1_Eob0 := E_ob0.ext E1
  have c1_Var0b := V_ar0b.ext E1
  have c1_Ear0b := E_ar0b.ext E1
  have c1_Fob0_bytes := F_ob0_bytes.ext E1
  have c1_USS := SS.ext E1
  have K1 := K0.ext E1
  have g_b1 : n0 ≤ b1 := Nat.le_trans Z0 (Nat.le_of_eq gz1.symm)
  have F1_value : Fld Z h1 b1 "java/lang/String" "value" "[B" .null := D1 (Or.inr (oH hw 105 rfl)) (ty := (.array .byte)) (by decide)
  have F1_coder : Fld Z h1 b1 "java/lang/String" "coder" "B" (.int 0) := D1 (Or.inr (oH hw 107 rfl)) (ty := .byte) (by decide)
  have Z1 : n0 ≤ h1.size := Nat.le_trans Z0 E1.1
  refine oG m T1 5 #[vR ob0,vI 0,vI 3] [(.ref ob0),(.ref b1),(.ref b1)] (fun _ k => st1 _ (XS.dup X1.here hx rfl (hb hby d10_3) rfl rfl (XS.aloadN X1.here hx rfl (hb hby d10_4) rfl rfl k))) ?_
  obtain ⟨T2, X2, e2, st2⟩ := getF X1 hx hZ hown (host := "") (Or.inl (oH hw 20 rfl)) Via.refl e1 c1_Fob0_bytes (g := (mkF m 5 #[vR ob0, vI 0, vI 3] [(.ref ob0), (.ref b1), (.ref b1)])) rfl rfl (hb hby d10_5)
  refine oG m T2 12 #[vR ob0,vI 0,vI 3] [(.int ((3 : Int32) - (0 : Int32))),(.int 0),(.ref ar0b),(.ref b1),(.ref b1)] (fun _ k => st2 _ (XS.iloadN X2.here hx rfl (hb hby d10_8) rfl (XS.iloadN X2.here hx rfl (hb hby d10_9) rfl (XS.iloadN X2.here hx rfl (hb hby d10_10) rfl (XS.isub X2.here hx rfl (hb hby d10_11) rfl k))))) ?_
  rw [show ((3 : Int32) - (0 : Int32)) = (3 : Int32) from by decide]
  have Sg3 := c1_USS.sU
  obtain ⟨T4, X4, e4, st4⟩ := getS2 X2 hx hZ hown (host := "") (Or.inl (oH hw 55 rfl)) Via.refl e2 Sg3 (g := (mkF m 12 #[vR ob0, vI 0, vI 3] [(.int 3), (.int 0), (.ref ar0b), (.ref b1), (.ref b1)])) rfl (hb hby d10_12)
  refine oG m T4 15 #[vR ob0,vI 0,vI 3] [(.ref u8),(.int 3),(.int 0),(.ref ar0b),(.ref b1),(.ref b1)] (fun _ k => st4 _ k) ?_
  obtain ⟨v5, _, ⟨T5, L5, k5, n5⟩, -, X5, ⟨Lc5, hQ5, l5, y5, z5⟩, st5⟩ := X4.specialBack hx (y := (⟨"java/lang/String", "<init>", "([BIILjava/nio/charset/Charset;)V"⟩ : MethodName)) rfl hown (mvT hZ (oH hw 57 rfl)) (mvT hZ (oH hw 58 rfl)) (mvT hZ (oH hw 59 rfl)) (by decide) (backOf (W := 1) (rmz80 l Z a0 hw [] b1 ar0b kr0b z0b_0 z0b_1 z0b_2 z0b_3 u8 zc fv h1 n0 Z1 A1 g_b1 F1_value F1_coder c1_Var0b g_ar0b c1_Ear0b (Ne.symm ne_ar0b_b1) c1_USS hq0 hq1 hq2 hq3 hq4 hq5) hZ (oH hw 59 rfl) (oH hw 54 rfl) (by decide) (by decide)) (g := (mkF m 15 #[vR ob0, vI 0, vI 3] [(.ref u8), (.int 3), (.int 0), (.ref ar0b), (.ref b1), (.ref b1)])) rfl (by rw [hml]; rfl) (Steps.refl _) (a := b1) (argsL := [(.ref ar0b), (.int 0), (.int 3), (.ref u8)]) (rest := [(.ref b1)]) (lenOf pd_310 rfl) rfl (by show 2 * 0 + _ ≤ _; exact Nat.le_of_eq rfl) (hb hby d10_15) (fun _ _ => ⟨rfl, e4, (by decide : 1 + 3 ≤ _), (by decide : 4 + 11 ≤ _)⟩)
  dsimp only [Pt.U, Pt.locs, Pt.cells, Pt.slots] at X5 l5 y5 z5 st5 hQ5
  subst l5 y5 z5
  obtain ⟨na5_0, ka5_0, rfl, Nq5, Kc5, sa5_0, va5_0, wo5_0_value, wo5_0_coder⟩ := hQ5
  have Kt5 := K1.trans Kc5 (fun x hx => by simp only [List.mem_cons, List.mem_singleton, List.not_mem_nil, or_false] at hx; rcases hx with rfl <;> first | (left; simp; done) | (right; assumption))
  have N5 := Fr.app N0 Nq5
  have Z5 : n0 ≤ T5.heap.size := Nat.le_trans Z1 Kc5.1
  have c5_Eob0 := c1_Eob0.keep Kc5
  have c5_Var0b := c1_Var0b.keep Kc5 (ninS ne_ar0b_b1 nin0)
  have c5_Ear0b := c1_Ear0b.keep Kc5
  have c5_Fob0_bytes := c1_Fob0_bytes.keep Kc5 (ninS ne_ob0_b1 nin0)
  have c5_USS := c1_USS.keep Kc5 (own_nsS (own_nsE A1) own_ns0)
  have c5_Eb1 := A1.keep Kc5
  refine oG m T5 18 #[vR ob0,vI 0,vI 3] [(.ref b1)] (fun _ k => st5.trans k) ?_
  have g_na5_0 : n0 ≤ na5_0 := Nat.le_trans Z1 sa5_0
  have sz_na5_0 : h0.size ≤ na5_0 := Nat.le_trans K1.1 sa5_0
  have ne_ob0_na5_0 : ob0 ≠ na5_0 := Nat.ne_of_lt (Nat.lt_of_lt_of_le c1_Eob0.lt sa5_0)
  have ne_ar0b_na5_0 : ar0b ≠ na5_0 := Nat.ne_of_lt (Nat.lt_of_lt_of_le c1_Ear0b.lt sa5_0)
  have ne_b1_na5_0 : b1 ≠ na5_0 := Nat.ne_of_lt (Nat.lt_of_lt_of_le A1.lt sa5_0)
  refine own_retA X5 hx hlk (rfl) rfl hrt (hb hby d10_18) (by decide) (by decide) ?_
  exact ⟨na5_0, ka5_0, b1, (by first | rfl | decide), N5, Kt5, sz_na5_0, va5_0, sz_b1, c5_Eb1, wo5_0_value, wo5_0_coder⟩
def Q_rmz82 (Z : State) (ob0 : Addr) (ar0b : Addr) (kr0b : ClassId) (z0b_0 : Int32) (z0b_1 : Int32) (z0b_2 : Int32) (z0b_3 : Int32) (u8 : Addr) (zc : Int32) (fv : Value) (h0 : Heap) (n0 : Nat) (v : Option Value) (h : Heap) (L : List Loc) : Prop := ∃ (NA0 : Addr) (KA0 : ClassId), ∃ NO0 : Addr, v = some (.ref NO0) ∧ Fr n0 L ∧ Keep h0 h [] ∧ h0.size ≤ NA0 ∧ Arv Z h NA0 KA0 .byte (2 : Int32) [(.int (own_hi (own_d3 z0b_0 z0b_1 z0b_2))), (.int (own_lo (own_d3 z0b_0 z0b_1 z0b_2)))] (.int 0) ∧ h0.size ≤ NO0 ∧ Exa Z h NO0 "java/lang/String" ∧ Fld Z h NO0 "java/lang/String" "value" "[B" (.ref NA0) ∧ Fld Z h NO0 "java/lang/String" "coder" "B" (.int 1)
theorem rmz82 (l : Launch) (Z : State) (a0 : Array Value) (hw : oW a0 Z) (ws : List Jvm.Cond) (ob0 : Addr) (ar0b : Addr) (kr0b : ClassId) (z0b_0 : Int32) (z0b_1 : Int32) (z0b_2 : Int32) (z0b_3 : Int32) (u8 : Addr) (zc : Int32) (fv : Value) (h0 : Heap) (n0 : Nat) (Z0 : n0 ≤ h0.size) (E_ob0 : Exa Z h0 ob0 "clearcut/Text") (g_ob0 : n0 ≤ ob0) (V_ar0b : Arv Z h0 ar0b kr0b .byte (4 : Int32) [(.int z0b_0), (.int z0b_1), (.int z0b_2), (.int z0b_3)] (.int 0)) (g_ar0b : n0 ≤ ar0b) (E_ar0b : Exa Z h0 ar0b "[B") (F_ob0_bytes : Fld Z h0 ob0 "clearcut/Text" "bytes" "[B" (.ref ar0b)) (ne_ob0_ar0b : ob0 ≠ ar0b) (SS : own_Sx Z h0 u8 zc fv) (hq0 : z0b_0 < (0 : Int32)) (hq1 : ¬ (z0b_0 &&& (254 : Int32)) = (194 : Int32)) (hq2 : ¬ (z0b_0 >>> ((5 : Int32) &&& 31)) = (-2 : Int32)) (hq3 : (z0b_0 >>> ((4 : Int32) &&& 31)) = (-2 : Int32)) (hq4 : (own_im3_0 z0b_0 z0b_1 z0b_2) = (0 : Int32)) (hq5 : (own_sur_0 (own_d3 z0b_0 z0b_1 z0b_2)) = (0 : Int32)) : own_K l (⟨"clearcut/Text", "substring", "(II)Ljava/lang/String;"⟩ : MethodName) prog_60_method_13_code 4 (some (.object "java/lang/String")) ws ({ frames := 8, cells := 4, slots := 15, locals := 129 } : Room) Z h0 #[(.ref ob0), (.int 0), (.int 3)] (Q_rmz82 Z ob0 ar0b kr0b z0b_0 z0b_1 z0b_2 z0b_3 u8 zc fv h0 n0) := by
  refine own_met (plainFor_of_name pn_78) ?_
  intro p e s m below meth c s₁ hx hby hlk hml hown hnm hrt hZ hh X0 e0
  have N0 := Fr.nil n0
  refine oG m s₁ 0 #[vR ob0,vI 0,vI 3,oU] [] (fun _ k => castTop (by first | (simp [entryFrame,mkF,argsToLocals,Value.category]; done) | rfl) k) ?_
  have K0 := Keep.refl h0 []
  refine oG m s₁ 3 #[vR ob0,vI 0,vI 3,oU] [(.int ((3 : Int32) - (0 : Int32)))] (fun _ k => XS.iloadN X0.here hx rfl (hb hby d9_0) rfl (XS.iloadN X0.here hx rfl (hb hby d9_1) rfl (XS.isub X0.here hx rfl (hb hby d9_2) rfl k))) ?_
  rw [show ((3 : Int32) - (0 : Int32)) = (3 : Int32) from by decide]
  refine oG m s₁ 11 #[vR ob0,vI 0,vI 3,oU] [(.int 3),(.int 0),(.ref ob0)] (fun _ k => (X0.ldcInt hx hown (mvT hZ (oH hw 47 rfl)) (g := (mkF m 3 #[vR ob0,vI 0,vI 3,oU] [(.int 3)])) rfl (hb hby d9_3)) _ (XS.icmpNo X0.here hx rfl (hb hby d9_5) rfl (flt (by decide)).2.2.1 (XS.aloadN X0.here hx rfl (hb hby d9_8) rfl rfl (XS.iloadN X0.here hx rfl (hb hby d9_9) rfl (XS.iloadN X0.here hx rfl (hb hby d9_10) rfl k))))) ?_
  obtain ⟨cq1, qp1, qp1'⟩ := E_ob0.cell
  obtain ⟨v1, _, ⟨T1, L1, k1, n1⟩, -, X1, ⟨Lc1, hQ1, l1, y1, z1⟩, st1⟩ := X0.privateBack hx (y := (⟨"clearcut/Text", "decode", "(II)Ljava/lang/String;"⟩ : MethodName)) hown (mvT hZ (oH hw 48 rfl)) (mvT hZ (oH hw 49 rfl)) (own_selP (args := #[]) (mvT hZ (oH hw 13 rfl)) (mvP hZ (oH hw 50 rfl)) (mvT hZ (oH hw 49 rfl)) (by decide)) (Cond.privateMethod_at (mvP hZ (oH hw 50 rfl) (args := #[]))) (mvT hZ (oH hw 51 rfl)) (by decide) (backOf (W := 0) (rmz81 l Z a0 hw [] ob0 ar0b kr0b z0b_0 z0b_1 z0b_2 z0b_3 u8 zc fv h0 n0 Z0 E_ob0 g_ob0 V_ar0b g_ar0b E_ar0b F_ob0_bytes ne_ob0_ar0b SS hq0 hq1 hq2 hq3 hq4 hq5) hZ (oH hw 51 rfl) (oH hw 5 rfl) (by decide) (by decide)) (g := (mkF m 11 #[vR ob0, vI 0, vI 3, oU] [(.int 3), (.int 0), (.ref ob0)])) rfl (by rw [hml]; rfl) (Steps.refl _) (a := ob0) (by rw [e0]; exact qp1) qp1' (argsL := [(.int 0), (.int 3)]) (rest := []) (lenOf pd_313 rfl) rfl (by show 2 * 0 + _ ≤ _; exact Nat.le_of_eq rfl) (hb hby d9_11) (fun _ _ => ⟨rfl, e0, (by decide : 0 + 4 ≤ _), (by decide : 0 + 15 ≤ _)⟩)
  dsimp only [Pt.U, Pt.locs, Pt.cells, Pt.slots] at X1 l1 y1 z1 st1 hQ1
  subst l1 y1 z1
  obtain ⟨na1_0, ka1_0, no1_0, rfl, Nq1, Kc1, sa1_0, va1_0, so1_0, eo1_0, fo1_0_value, fo1_0_coder⟩ := hQ1
  have Kt1 := K0.trans Kc1 (fun x hx => nomatch hx)
  have N1 := Fr.app N0 Nq1
  have Z1 : n0 ≤ T1.heap.size := Nat.le_trans Z0 Kc1.1
  have c1_Eob0 := E_ob0.keep Kc1
  have c1_Var0b := V_ar0b.keep Kc1 nin0
  have c1_Ear0b := E_ar0b.keep Kc1
  have c1_Fob0_bytes := F_ob0_bytes.keep Kc1 nin0
  have c1_USS := SS.keep Kc1 own_ns0
  refine oG m T1 14 #[vR ob0,vI 0,vI 3,oU] [(.ref no1_0)] (fun _ k => st1.trans k) ?_
  have g_na1_0 : n0 ≤ na1_0 := Nat.le_trans Z0 sa1_0
  have sz_na1_0 : h0.size ≤ na1_0 := Nat.le_trans K0.1 sa1_0
  have ne_ob0_na1_0 : ob0 ≠ na1_0 := Nat.ne_of_lt (Nat.lt_of_lt_of_le E_ob0.lt sa1_0)
  have ne_ar0b_na1_0 : ar0b ≠ na1_0 := Nat.ne_of_lt (Nat.lt_of_lt_of_le E_ar0b.lt sa1_0)
  have g_no1_0 : n0 ≤ no1_0 := Nat.le_trans Z0 so1_0
  have sz_no1_0 : h0.size ≤ no1_0 := Nat.le_trans K0.1 so1_0
  have ne_ob0_no1_0 : ob0 ≠ no1_0 := Nat.ne_of_lt (Nat.lt_of_lt_of_le E_ob0.lt so1_0)
  have ne_ar0b_no1_0 : ar0b ≠ no1_0 := Nat.ne_of_lt (Nat.lt_of_lt_of_le E_ar0b.lt so1_0)
  refine own_retA X1 hx hlk (rfl) rfl hrt (hb hby d9_14) (by decide) (by decide) ?_
  exact ⟨na1_0, ka1_0, no1_0, (by first | rfl | decide), N1, Kt1, sz_na1_0, va1_0, sz_no1_0, eo1_0, fo1_0_value, fo1_0_coder⟩
theorem d1_32 : decode C1 32 = .ok (.iconst 4, 1) := by decide +kernel
theorem rmz83 (l : Launch) (Z : State) (a0 : Array Value) (hw : oW a0 Z) (ws : List Jvm.Cond) (x0 : Int32) (u8 : Addr) (zc : Int32) (fv : Value) (h0 : Heap) (n0 : Nat) (Z0 : n0 ≤ h0.size)   (SS : own_Sx Z h0 u8 zc fv) (hq0 : ¬ x0 < (128 : Int32)) (hq1 : ¬ x0 < (2048 : Int32)) (hq2 : ¬ x0 < (65536 : Int32)) : own_K l (⟨"clearcut/Text", "encodedSize", "(I)I"⟩ : MethodName) prog_60_method_9_code 1 (some .int) ws ({ frames := 0, cells := 0, slots := 0, locals := 0 } : Room) Z h0 #[(.int x0)] (own_QP h0 (some (.int 4))) := by
  refine own_met (plainFor_of_name pn_78) ?_
  intro p e s m below meth c s₁ hx hby hlk hml hown hnm hrt hZ hh X0 e0
  have N0 := Fr.nil n0
  refine oG m s₁ 0 #[vI x0] [] (fun _ k => castTop (by first | (simp [entryFrame,mkF,argsToLocals,Value.category]; done) | rfl) k) ?_
  have K0 := Keep.refl h0 []
  refine oG m s₁ 23 #[vI x0] [(.int x0)] (fun _ k => XS.iloadN X0.here hx rfl (hb hby d1_0) rfl (XS.sipush X0.here hx rfl (hb hby d1_1) (XS.icmpYes X0.here hx rfl (pc0 := 4) (pc' := 11) rfl (hb hby d1_4) rfl (flt hq0).2.1 (by decide) (by decide) (XS.iloadN X0.here hx rfl (hb hby d1_11) rfl (XS.sipush X0.here hx rfl (hb hby d1_12) (XS.icmpYes X0.here hx rfl (pc0 := 15) (pc' := 22) rfl (hb hby d1_15) rfl (flt hq1).2.1 (by decide) (by decide) (XS.iloadN X0.here hx rfl (hb hby d1_22) rfl k))))))) ?_
  refine oG m s₁ 33 #[vI x0] [(.int 4)] (fun _ k => (X0.ldcInt hx hown (mvT hZ (oH hw 47 rfl)) (g := (mkF m 23 #[vI x0] [(.int x0)])) rfl (hb hby d1_23)) _ (XS.icmpYes X0.here hx rfl (pc0 := 25) (pc' := 32) rfl (hb hby d1_25) rfl (flt hq2).2.1 (by decide) (by decide) (XS.iconst X0.here hx rfl (hb hby d1_32) k))) ?_
  refine own_retI X0 hx hlk hrt (hb hby d1_33) (by decide) (by decide) ?_
  exact ⟨by first | rfl | decide, e0, rfl⟩
def Q_rmz84 (Z : State) (x0 : Int32) (ar1 : Addr) (kr1 : ClassId) (z1_0 : Int32) (z1_1 : Int32) (z1_2 : Int32) (z1_3 : Int32) (u8 : Addr) (zc : Int32) (fv : Value) (h0 : Heap) (n0 : Nat) (v : Option Value) (h : Heap) (L : List Loc) : Prop := v = some (.int 4) ∧ Fr n0 L ∧ Keep h0 h [ar1] ∧ Arv Z h ar1 kr1 .byte (4 : Int32) [(.int (nar .byte (((4080 : Int32) ||| (((x0 >>> ((6 : Int32) &&& 31)) >>> ((6 : Int32) &&& 31)) >>> ((6 : Int32) &&& 31))).toInt8.toInt32))), (.int (nar .byte (((128 : Int32) ||| (((x0 >>> ((6 : Int32) &&& 31)) >>> ((6 : Int32) &&& 31)) &&& (63 : Int32))).toInt8.toInt32))), (.int (nar .byte (((128 : Int32) ||| ((x0 >>> ((6 : Int32) &&& 31)) &&& (63 : Int32))).toInt8.toInt32))), (.int (nar .byte (((128 : Int32) ||| (x0 &&& (63 : Int32))).toInt8.toInt32)))] (.int 0)
theorem rmz84 (l : Launch) (Z : State) (a0 : Array Value) (hw : oW a0 Z) (ws : List Jvm.Cond) (x0 : Int32) (ar1 : Addr) (kr1 : ClassId) (z1_0 : Int32) (z1_1 : Int32) (z1_2 : Int32) (z1_3 : Int32) (u8 : Addr) (zc : Int32) (fv : Value) (h0 : Heap) (n0 : Nat) (Z0 : n0 ≤ h0.size) (V_ar1 : Arv Z h0 ar1 kr1 .byte (4 : Int32) [(.int z1_0), (.int z1_1), (.int z1_2), (.int z1_3)] (.int 0)) (g_ar1 : n0 ≤ ar1) (E_ar1 : Exa Z h0 ar1 "[B")  (SS : own_Sx Z h0 u8 zc fv) (hq0 : ¬ x0 < (128 : Int32)) (hq1 : ¬ x0 < (2048 : Int32)) (hq2 : ¬ x0 < (65536 : Int32)) : own_K l (⟨"clearcut/Text", "encode", "(I[BI)I"⟩ : MethodName) prog_60_method_10_code 6 (some .int) ws ({ frames := 1, cells := 0, slots := 0, locals := 12 } : Room) Z h0 #[(.int x0), (.ref ar1), (.int 0)] (Q_rmz84 Z x0 ar1 kr1 z1_0 z1_1 z1_2 z1_3 u8 zc fv h0 n0) := by
  refine own_met (plainFor_of_name pn_78) ?_
  intro p e s m below meth c s₁ hx hby hlk hml hown hnm hrt hZ hh X0 e0
  have N0 := Fr.nil n0
  refine oG m s₁ 0 #[vI x0,vR ar1,vI 0,oU,oU,oU] [] (fun _ k => castTop (by first | (simp [entryFrame,mkF,argsToLocals,Value.category]; done) | rfl) k) ?_
  have K0 := Keep.refl h0 [ar1]
  refine oG m s₁ 1 #[vI x0,vR ar1,vI 0,oU,oU,oU] [(.int x0)] (fun _ k => XS.iloadN X0.here hx rfl (hb hby d2_0) rfl k) ?_
  obtain ⟨T1, X1, e1, st1⟩ := own_cP X0 hx hZ hown (oH hw 11 rfl) (oH hw 4 rfl) (oH hw 5 rfl) (oH hw 6 rfl) (by decide) (rmz83 l Z a0 hw [] x0 u8 zc fv h0 n0 Z0  SS hq0 hq1 hq2) (W := 0) (by decide) (by decide) (g := (mkF m 1 #[vI x0, vR ar1, vI 0, oU, oU, oU] [(.int x0)])) rfl (by rw [hml]; rfl) (argsL := [(.int x0)]) (rest := []) (lenOf pd_79 rfl) rfl rfl rfl (hb hby d2_1) e0 rfl (by decide) (by decide) (by decide : 0 ≤ _) (by decide : 0 ≤ _)
  refine oG m T1 11 #[vI x0,vR ar1,vI 0,vI 4,vI x0,oU] [(.int ((4 : Int32) - (1 : Int32)))] (fun _ k => st1 _ (XS.istoreN X1.here hx rfl (hb hby d2_4) rfl (l' := #[vI x0,vR ar1,vI 0,vI 4,oU,oU]) rfl (XS.iloadN X1.here hx rfl (hb hby d2_5) rfl (XS.istore X1.here hx rfl (hb hby d2_6) rfl (l' := #[vI x0,vR ar1,vI 0,vI 4,vI x0,oU]) rfl (XS.iloadN X1.here hx rfl (hb hby d2_8) rfl (XS.iconst X1.here hx rfl (hb hby d2_9) (XS.isub X1.here hx rfl (hb hby d2_10) rfl k))))))) ?_
  rw [show ((4 : Int32) - (1 : Int32)) = (3 : Int32) from by decide]
  refine oG m T1 23 #[vI x0,vR ar1,vI 0,vI 4,vI x0,vI 3] [(.int ((0 : Int32) + (3 : Int32))),(.ref ar1)] (fun _ k => XS.istore X1.here hx rfl (hb hby d2_11) rfl (l' := #[vI x0,vR ar1,vI 0,vI 4,vI x0,vI 3]) rfl (XS.iload X1.here hx rfl (hb hby d2_13) rfl (XS.ifNo X1.here hx rfl (hb hby d2_15) rfl ((if0 _ _).trans (tlt (by decide)).2.2.2) (XS.aloadN X1.here hx rfl (hb hby d2_18) rfl rfl (XS.iloadN X1.here hx rfl (hb hby d2_19) rfl (XS.iload X1.here hx rfl (hb hby d2_20) rfl (XS.iadd X1.here hx rfl (hb hby d2_22) rfl k))))))) ?_
  rw [show ((0 : Int32) + (3 : Int32)) = (3 : Int32) from by decide]
  refine oG m T1 33 #[vI x0,vR ar1,vI 0,vI 4,vI x0,vI 3] [(.int (((128 : Int32) ||| (x0 &&& (63 : Int32))).toInt8.toInt32)),(.int 3),(.ref ar1)] (fun _ k => XS.sipush X1.here hx rfl (hb hby d2_23) (XS.iload X1.here hx rfl (hb hby d2_26) rfl (XS.bipush X1.here hx rfl (hb hby d2_28) (XS.iand X1.here hx rfl (hb hby d2_30) rfl (XS.ior X1.here hx rfl (hb hby d2_31) rfl (XS.i2b X1.here hx rfl (hb hby d2_32) rfl k)))))) ?_
  obtain ⟨cl2, Ar2, qc2, S2, M2, Ha2, Ga2⟩ := id V_ar1
  obtain ⟨T2, h2, X2, e2, W2, st2⟩ := stB X1 hx hZ e1 Ar2 (j := (3 : Int32)) (inb_of S2 ⟨by decide, by decide⟩) (g := (mkF m 33 #[vI x0, vR ar1, vI 0, vI 4, vI x0, vI 3] [(.int (((128 : Int32) ||| (x0 &&& (63 : Int32))).toInt8.toInt32)), (.int 3), (.ref ar1)])) rfl rfl (hb hby d2_33)
  have c2_Ear1 := E_ar1.wr W2
  have c2_USS := SS.wr W2
  have V2 : Arv Z h2 ar1 kr1 .byte (4 : Int32) [(.int z1_0), (.int z1_1), (.int z1_2), (.int (nar .byte (((128 : Int32) ||| (x0 &&& (63 : Int32))).toInt8.toInt32)))] (.int 0) := Arv.set Ar2 qc2 S2 M2 Ha2 Ga2 (fits_nar_byte _) W2 3 (by decide) (Nat.le_of_ble_eq_true rfl)
  have K2 := K0.wr W2 (Or.inl (List.mem_of_getElem? (i := 0) rfl))
  have N2 := Fr.snoc X2 N0 g_ar1
  have Z2 : n0 ≤ h2.size := Nat.le_trans Z0 (Nat.le_of_eq W2.size.symm)
  refine oG m T2 44 #[vI x0,vR ar1,vI 0,vI 4,vI (x0 >>> ((6 : Int32) &&& 31)),vI ((3 : Int32) + (-1 : Int32))] [] (fun _ k => st2 _ (XS.iload X2.here hx rfl (hb hby d2_34) rfl (XS.bipush X2.here hx rfl (hb hby d2_36) (XS.ishr X2.here hx rfl (hb hby d2_38) rfl (XS.istore X2.here hx rfl (hb hby d2_39) rfl (l' := #[vI x0,vR ar1,vI 0,vI 4,vI (x0 >>> ((6 : Int32) &&& 31)),vI 3]) rfl (XS.iinc X2.here hx rfl (hb hby d2_41) rfl (l' := #[vI x0,vR ar1,vI 0,vI 4,vI (x0 >>> ((6 : Int32) &&& 31)),vI ((3 : Int32) + (-1 : Int32))]) rfl k)))))) ?_
  rw [show ((3 : Int32) + (-1 : Int32)) = (2 : Int32) from by decide]
  refine oG m T2 23 #[vI x0,vR ar1,vI 0,vI 4,vI (x0 >>> ((6 : Int32) &&& 31)),vI 2] [(.int ((0 : Int32) + (2 : Int32))),(.ref ar1)] (fun _ k => XS.goto X2.here hx rfl (pc0 := 44) (pc' := 13) rfl (hb hby d2_44) (by decide) (by decide) (XS.iload X2.here hx rfl (hb hby d2_13) rfl (XS.ifNo X2.here hx rfl (hb hby d2_15) rfl ((if0 _ _).trans (tlt (by decide)).2.2.2) (XS.aloadN X2.here hx rfl (hb hby d2_18) rfl rfl (XS.iloadN X2.here hx rfl (hb hby d2_19) rfl (XS.iload X2.here hx rfl (hb hby d2_20) rfl (XS.iadd X2.here hx rfl (hb hby d2_22) rfl k))))))) ?_
  rw [show ((0 : Int32) + (2 : Int32)) = (2 : Int32) from by decide]
  refine oG m T2 33 #[vI x0,vR ar1,vI 0,vI 4,vI (x0 >>> ((6 : Int32) &&& 31)),vI 2] [(.int (((128 : Int32) ||| ((x0 >>> ((6 : Int32) &&& 31)) &&& (63 : Int32))).toInt8.toInt32)),(.int 2),(.ref ar1)] (fun _ k => XS.sipush X2.here hx rfl (hb hby d2_23) (XS.iload X2.here hx rfl (hb hby d2_26) rfl (XS.bipush X2.here hx rfl (hb hby d2_28) (XS.iand X2.here hx rfl (hb hby d2_30) rfl (XS.ior X2.here hx rfl (hb hby d2_31) rfl (XS.i2b X2.here hx rfl (hb hby d2_32) rfl k)))))) ?_
  obtain ⟨cl3, Ar3, qc3, S3, M3, Ha3, Ga3⟩ := id V2
  obtain ⟨T3, h3, X3, e3, W3, st3⟩ := stB X2 hx hZ e2 Ar3 (j := (2 : Int32)) (inb_of S3 ⟨by decide, by decide⟩) (g := (mkF m 33 #[vI x0, vR ar1, vI 0, vI 4, vI (x0 >>> ((6 : Int32) &&& 31)), vI 2] [(.int (((128 : Int32) ||| ((x0 >>> ((6 : Int32) &&& 31)) &&& (63 : Int32))).toInt8.toInt32)), (.int 2), (.ref ar1)])) rfl rfl (hb hby d2_33)
  have c3_Ear1 := c2_Ear1.wr W3
  have c3_USS := c2_USS.wr W3
  have V3 : Arv Z h3 ar1 kr1 .byte (4 : Int32) [(.int z1_0), (.int z1_1), (.int (nar .byte (((128 : Int32) ||| ((x0 >>> ((6 : Int32) &&& 31)) &&& (63 : Int32))).toInt8.toInt32))), (.int (nar .byte (((128 : Int32) ||| (x0 &&& (63 : Int32))).toInt8.toInt32)))] (.int 0) := Arv.set Ar3 qc3 S3 M3 Ha3 Ga3 (fits_nar_byte _) W3 2 (by decide) (Nat.le_of_ble_eq_true rfl)
  have K3 := K2.wr W3 (Or.inl (List.mem_of_getElem? (i := 0) rfl))
  have N3 := Fr.snoc X3 N2 g_ar1
  have Z3 : n0 ≤ h3.size := Nat.le_trans Z2 (Nat.le_of_eq W3.size.symm)
  refine oG m T3 44 #[vI x0,vR ar1,vI 0,vI 4,vI ((x0 >>> ((6 : Int32) &&& 31)) >>> ((6 : Int32) &&& 31)),vI ((2 : Int32) + (-1 : Int32))] [] (fun _ k => st3 _ (XS.iload X3.here hx rfl (hb hby d2_34) rfl (XS.bipush X3.here hx rfl (hb hby d2_36) (XS.ishr X3.here hx rfl (hb hby d2_38) rfl (XS.istore X3.here hx rfl (hb hby d2_39) rfl (l' := #[vI x0,vR ar1,vI 0,vI 4,vI ((x0 >>> ((6 : Int32) &&& 31)) >>> ((6 : Int32) &&& 31)),vI 2]) rfl (XS.iinc X3.here hx rfl (hb hby d2_41) rfl (l' := #[vI x0,vR ar1,vI 0,vI 4,vI ((x0 >>> ((6 : Int32) &&& 31)) >>> ((6 : Int32) &&& 31)),vI ((2 : Int32) + (-1 : Int32))]) rfl k)))))) ?_
  rw [show ((2 : Int32) + (-1 : Int32)) = (1 : Int32) from by decide]
  refine oG m T3 23 #[vI x0,vR ar1,vI 0,vI 4,vI ((x0 >>> ((6 : Int32) &&& 31)) >>> ((6 : Int32) &&& 31)),vI 1] [(.int ((0 : Int32) + (1 : Int32))),(.ref ar1)] (fun _ k => XS.goto X3.here hx rfl (pc0 := 44) (pc' := 13) rfl (hb hby d2_44) (by decide) (by decide) (XS.iload X3.here hx rfl (hb hby d2_13) rfl (XS.ifNo X3.here hx rfl (hb hby d2_15) rfl ((if0 _ _).trans (tlt (by decide)).2.2.2) (XS.aloadN X3.here hx rfl (hb hby d2_18) rfl rfl (XS.iloadN X3.here hx rfl (hb hby d2_19) rfl (XS.iload X3.here hx rfl (hb hby d2_20) rfl (XS.iadd X3.here hx rfl (hb hby d2_22) rfl k))))))) ?_
  rw [show ((0 : Int32) + (1 : Int32)) = (1 : Int32) from by decide]
  refine oG m T3 33 #[vI x0,vR ar1,vI 0,vI 4,vI ((x0 >>> ((6 : Int32) &&& 31)) >>> ((6 : Int32) &&& 31)),vI 1] [(.int (((128 : Int32) ||| (((x0 >>> ((6 : Int32) &&& 31)) >>> ((6 : Int32) &&& 31)) &&& (63 : Int32))).toInt8.toInt32)),(.int 1),(.ref ar1)] (fun _ k => XS.sipush X3.here hx rfl (hb hby d2_23) (XS.iload X3.here hx rfl (hb hby d2_26) rfl (XS.bipush X3.here hx rfl (hb hby d2_28) (XS.iand X3.here hx rfl (hb hby d2_30) rfl (XS.ior X3.here hx rfl (hb hby d2_31) rfl (XS.i2b X3.here hx rfl (hb hby d2_32) rfl k)))))) ?_
  obtain ⟨cl4, Ar4, qc4, S4, M4, Ha4, Ga4⟩ := id V3
  obtain ⟨T4, h4, X4, e4, W4, st4⟩ := stB X3 hx hZ e3 Ar4 (j := (1 : Int32)) (inb_of S4 ⟨by decide, by decide⟩) (g := (mkF m 33 #[vI x0, vR ar1, vI 0, vI 4, vI ((x0 >>> ((6 : Int32) &&& 31)) >>> ((6 : Int32) &&& 31)), vI 1] [(.int (((128 : Int32) ||| (((x0 >>> ((6 : Int32) &&& 31)) >>> ((6 : Int32) &&& 31)) &&& (63 : Int32))).toInt8.toInt32)), (.int 1), (.ref ar1)])) rfl rfl (hb hby d2_33)
  have c4_Ear1 := c3_Ear1.wr W4
  have c4_USS := c3_USS.wr W4
  have V4 : Arv Z h4 ar1 kr1 .byte (4 : Int32) [(.int z1_0), (.int (nar .byte (((128 : Int32) ||| (((x0 >>> ((6 : Int32) &&& 31)) >>> ((6 : Int32) &&& 31)) &&& (63 : Int32))).toInt8.toInt32))), (.int (nar .byte (((128 : Int32) ||| ((x0 >>> ((6 : Int32) &&& 31)) &&& (63 : Int32))).toInt8.toInt32))), (.int (nar .byte (((128 : Int32) ||| (x0 &&& (63 : Int32))).toInt8.toInt32)))] (.int 0) := Arv.set Ar4 qc4 S4 M4 Ha4 Ga4 (fits_nar_byte _) W4 1 (by decide) (Nat.le_of_ble_eq_true rfl)
  have K4 := K3.wr W4 (Or.inl (List.mem_of_getElem? (i := 0) rfl))
  have N4 := Fr.snoc X4 N3 g_ar1
  have Z4 : n0 ≤ h4.size := Nat.le_trans Z3 (Nat.le_of_eq W4.size.symm)
  refine oG m T4 44 #[vI x0,vR ar1,vI 0,vI 4,vI (((x0 >>> ((6 : Int32) &&& 31)) >>> ((6 : Int32) &&& 31)) >>> ((6 : Int32) &&& 31)),vI ((1 : Int32) + (-1 : Int32))] [] (fun _ k => st4 _ (XS.iload X4.here hx rfl (hb hby d2_34) rfl (XS.bipush X4.here hx rfl (hb hby d2_36) (XS.ishr X4.here hx rfl (hb hby d2_38) rfl (XS.istore X4.here hx rfl (hb hby d2_39) rfl (l' := #[vI x0,vR ar1,vI 0,vI 4,vI (((x0 >>> ((6 : Int32) &&& 31)) >>> ((6 : Int32) &&& 31)) >>> ((6 : Int32) &&& 31)),vI 1]) rfl (XS.iinc X4.here hx rfl (hb hby d2_41) rfl (l' := #[vI x0,vR ar1,vI 0,vI 4,vI (((x0 >>> ((6 : Int32) &&& 31)) >>> ((6 : Int32) &&& 31)) >>> ((6 : Int32) &&& 31)),vI ((1 : Int32) + (-1 : Int32))]) rfl k)))))) ?_
  rw [show ((1 : Int32) + (-1 : Int32)) = (0 : Int32) from by decide]
  refine oG m T4 59 #[vI x0,vR ar1,vI 0,vI 4,vI (((x0 >>> ((6 : Int32) &&& 31)) >>> ((6 : Int32) &&& 31)) >>> ((6 : Int32) &&& 31)),vI 0] [(.int 0),(.ref ar1)] (fun _ k => XS.goto X4.here hx rfl (pc0 := 44) (pc' := 13) rfl (hb hby d2_44) (by decide) (by decide) (XS.iload X4.here hx rfl (hb hby d2_13) rfl (XS.ifYes X4.here hx rfl (pc0 := 15) (pc' := 47) rfl (hb hby d2_15) rfl ((if0 _ _).trans (flt (by decide)).2.2.2) (by decide) (by decide) (XS.aloadN X4.here hx rfl (hb hby d2_47) rfl rfl (XS.iloadN X4.here hx rfl (hb hby d2_48) rfl (XS.iloadN X4.here hx rfl (hb hby d2_49) rfl (XS.iconst X4.here hx rfl (hb hby d2_50) (XS.icmpYes X4.here hx rfl (pc0 := 51) (pc' := 59) rfl (hb hby d2_51) rfl (feq (by decide)).2 (by decide) (by decide) k)))))))) ?_
  refine oG m T4 63 #[vI x0,vR ar1,vI 0,vI 4,vI (((x0 >>> ((6 : Int32) &&& 31)) >>> ((6 : Int32) &&& 31)) >>> ((6 : Int32) &&& 31)),vI 0] [(.int ((65280 : Int32) >>> ((4 : Int32) &&& 31))),(.int 0),(.ref ar1)] (fun _ k => (X4.ldcInt hx hown (mvT hZ (oH hw 140 rfl)) (g := (mkF m 59 #[vI x0,vR ar1,vI 0,vI 4,vI (((x0 >>> ((6 : Int32) &&& 31)) >>> ((6 : Int32) &&& 31)) >>> ((6 : Int32) &&& 31)),vI 0] [(.int 0),(.ref ar1)])) rfl (hb hby d2_59)) _ (XS.iloadN X4.here hx rfl (hb hby d2_61) rfl (XS.ishr X4.here hx rfl (hb hby d2_62) rfl k))) ?_
  rw [show ((65280 : Int32) >>> ((4 : Int32) &&& 31)) = (4080 : Int32) from by decide]
  refine oG m T4 67 #[vI x0,vR ar1,vI 0,vI 4,vI (((x0 >>> ((6 : Int32) &&& 31)) >>> ((6 : Int32) &&& 31)) >>> ((6 : Int32) &&& 31)),vI 0] [(.int (((4080 : Int32) ||| (((x0 >>> ((6 : Int32) &&& 31)) >>> ((6 : Int32) &&& 31)) >>> ((6 : Int32) &&& 31))).toInt8.toInt32)),(.int 0),(.ref ar1)] (fun _ k => XS.iload X4.here hx rfl (hb hby d2_63) rfl (XS.ior X4.here hx rfl (hb hby d2_65) rfl (XS.i2b X4.here hx rfl (hb hby d2_66) rfl k))) ?_
  obtain ⟨cl5, Ar5, qc5, S5, M5, Ha5, Ga5⟩ := id V4
  obtain ⟨T5, h5, X5, e5, W5, st5⟩ := stB X4 hx hZ e4 Ar5 (j := (0 : Int32)) (inb_of S5 ⟨by decide, by decide⟩) (g := (mkF m 67 #[vI x0, vR ar1, vI 0, vI 4, vI (((x0 >>> ((6 : Int32) &&& 31)) >>> ((6 : Int32) &&& 31)) >>> ((6 : Int32) &&& 31)), vI 0] [(.int (((4080 : Int32) ||| (((x0 >>> ((6 : Int32) &&& 31)) >>> ((6 : Int32) &&& 31)) >>> ((6 : Int32) &&& 31))).toInt8.toInt32)), (.int 0), (.ref ar1)])) rfl rfl (hb hby d2_67)
  have c5_Ear1 := c4_Ear1.wr W5
  have c5_USS := c4_USS.wr W5
  have V5 : Arv Z h5 ar1 kr1 .byte (4 : Int32) [(.int (nar .byte (((4080 : Int32) ||| (((x0 >>> ((6 : Int32) &&& 31)) >>> ((6 : Int32) &&& 31)) >>> ((6 : Int32) &&& 31))).toInt8.toInt32))), (.int (nar .byte (((128 : Int32) ||| (((x0 >>> ((6 : Int32) &&& 31)) >>> ((6 : Int32) &&& 31)) &&& (63 : Int32))).toInt8.toInt32))), (.int (nar .byte (((128 : Int32) ||| ((x0 >>> ((6 : Int32) &&& 31)) &&& (63 : Int32))).toInt8.toInt32))), (.int (nar .byte (((128 : Int32) ||| (x0 &&& (63 : Int32))).toInt8.toInt32)))] (.int 0) := Arv.set Ar5 qc5 S5 M5 Ha5 Ga5 (fits_nar_byte _) W5 0 (by decide) (Nat.le_of_ble_eq_true rfl)
  have K5 := K4.wr W5 (Or.inl (List.mem_of_getElem? (i := 0) rfl))
  have N5 := Fr.snoc X5 N4 g_ar1
  have Z5 : n0 ≤ h5.size := Nat.le_trans Z4 (Nat.le_of_eq W5.size.symm)
  refine oG m T5 71 #[vI x0,vR ar1,vI 0,vI 4,vI (((x0 >>> ((6 : Int32) &&& 31)) >>> ((6 : Int32) &&& 31)) >>> ((6 : Int32) &&& 31)),vI 0] [(.int ((0 : Int32) + (4 : Int32)))] (fun _ k => st5 _ (XS.iloadN X5.here hx rfl (hb hby d2_68) rfl (XS.iloadN X5.here hx rfl (hb hby d2_69) rfl (XS.iadd X5.here hx rfl (hb hby d2_70) rfl k)))) ?_
  rw [show ((0 : Int32) + (4 : Int32)) = (4 : Int32) from by decide]
  refine own_retI X5 hx hlk hrt (hb hby d2_71) (by decide) (by decide) ?_
  rw [e5]
  exact ⟨(by first | rfl | decide), N5, K5, V5⟩
theorem d7_33 : decode C7 33 = .ok (.iconst 4, 1) := by decide +kernel
theorem rmz85 (l : Launch) (Z : State) (a0 : Array Value) (hw : oW a0 Z) (ws : List Jvm.Cond) (x0 : Int32) (u8 : Addr) (zc : Int32) (fv : Value) (h0 : Heap) (n0 : Nat) (Z0 : n0 ≤ h0.size)   (SS : own_Sx Z h0 u8 zc fv) (hq0 : ¬ x0 < (128 : Int32)) (hq1 : ¬ x0 < (224 : Int32)) (hq2 : ¬ x0 < (240 : Int32)) : own_K l (⟨"clearcut/Text", "size", "(I)I"⟩ : MethodName) prog_60_method_8_code 1 (some .int) ws ({ frames := 0, cells := 0, slots := 0, locals := 0 } : Room) Z h0 #[(.int x0)] (own_QP h0 (some (.int 4))) := by
  refine own_met (plainFor_of_name pn_78) ?_
  intro p e s m below meth c s₁ hx hby hlk hml hown hnm hrt hZ hh X0 e0
  have N0 := Fr.nil n0
  refine oG m s₁ 0 #[vI x0] [] (fun _ k => castTop (by first | (simp [entryFrame,mkF,argsToLocals,Value.category]; done) | rfl) k) ?_
  have K0 := Keep.refl h0 []
  refine oG m s₁ 34 #[vI x0] [(.int 4)] (fun _ k => XS.iloadN X0.here hx rfl (hb hby d7_0) rfl (XS.sipush X0.here hx rfl (hb hby d7_1) (XS.icmpYes X0.here hx rfl (pc0 := 4) (pc' := 11) rfl (hb hby d7_4) rfl (flt hq0).2.1 (by decide) (by decide) (XS.iloadN X0.here hx rfl (hb hby d7_11) rfl (XS.sipush X0.here hx rfl (hb hby d7_12) (XS.icmpYes X0.here hx rfl (pc0 := 15) (pc' := 22) rfl (hb hby d7_15) rfl (flt hq1).2.1 (by decide) (by decide) (XS.iloadN X0.here hx rfl (hb hby d7_22) rfl (XS.sipush X0.here hx rfl (hb hby d7_23) (XS.icmpYes X0.here hx rfl (pc0 := 26) (pc' := 33) rfl (hb hby d7_26) rfl (flt hq2).2.1 (by decide) (by decide) (XS.iconst X0.here hx rfl (hb hby d7_33) k)))))))))) ?_
  refine own_retI X0 hx hlk hrt (hb hby d7_34) (by decide) (by decide) ?_
  exact ⟨by first | rfl | decide, e0, rfl⟩
theorem rmz86 (l : Launch) (Z : State) (a0 : Array Value) (hw : oW a0 Z) (ws : List Jvm.Cond) (ob0 : Addr) (ar0b : Addr) (kr0b : ClassId) (z0b_0 : Int32) (z0b_1 : Int32) (z0b_2 : Int32) (z0b_3 : Int32) (u8 : Addr) (zc : Int32) (fv : Value) (h0 : Heap) (n0 : Nat) (Z0 : n0 ≤ h0.size) (E_ob0 : Exa Z h0 ob0 "clearcut/Text") (g_ob0 : n0 ≤ ob0) (V_ar0b : Arv Z h0 ar0b kr0b .byte (4 : Int32) [(.int z0b_0), (.int z0b_1), (.int z0b_2), (.int z0b_3)] (.int 0)) (g_ar0b : n0 ≤ ar0b) (E_ar0b : Exa Z h0 ar0b "[B") (F_ob0_bytes : Fld Z h0 ob0 "clearcut/Text" "bytes" "[B" (.ref ar0b)) (ne_ob0_ar0b : ob0 ≠ ar0b) (SS : own_Sx Z h0 u8 zc fv) (hq0 : ¬ (z0b_0 &&& (255 : Int32)) < (128 : Int32)) (hq1 : ¬ (z0b_0 &&& (255 : Int32)) < (224 : Int32)) (hq2 : ¬ (z0b_0 &&& (255 : Int32)) < (240 : Int32)) : own_K l (⟨"clearcut/Text", "next", "(I)I"⟩ : MethodName) prog_60_method_7_code 2 (some .int) ws ({ frames := 1, cells := 0, slots := 0, locals := 14 } : Room) Z h0 #[(.ref ob0), (.int 0)] (own_QP h0 (some (.int 4))) := by
  refine own_met (plainFor_of_name pn_78) ?_
  intro p e s m below meth c s₁ hx hby hlk hml hown hnm hrt hZ hh X0 e0
  have N0 := Fr.nil n0
  refine oG m s₁ 0 #[vR ob0,vI 0] [] (fun _ k => castTop (by first | (simp [entryFrame,mkF,argsToLocals,Value.category]; done) | rfl) k) ?_
  have K0 := Keep.refl h0 []
  refine oG m s₁ 3 #[vR ob0,vI 0] [(.int 0),(.ref ob0),(.int 0)] (fun _ k => XS.iloadN X0.here hx rfl (hb hby d5_0) rfl (XS.aloadN X0.here hx rfl (hb hby d5_1) rfl rfl (XS.iloadN X0.here hx rfl (hb hby d5_2) rfl k))) ?_
  obtain ⟨cq1, kq1, q1a, q1b, q1c⟩ := isOf hZ e0 E_ob0
  obtain ⟨v1, _, ⟨T1, L1, k1, n1⟩, -, X1, ⟨Lc1, hQ1, l1, y1, z1⟩, st1⟩ := X0.virtualBack hx (y := (⟨"clearcut/Text", "at", "(I)I"⟩ : MethodName)) (z := (⟨"clearcut/Text", "at", "(I)I"⟩ : MethodName)) hown (mvT hZ (oH hw 29 rfl)) (mvT hZ (oH hw 30 rfl)) (notFace_of_selects (args := #[]) (mvT hZ (oH hw 32 rfl))) (mvT hZ (oH hw 32 rfl)) (mvT hZ (oH hw 31 rfl)) (by decide) (backOf (W := 1) (rmz4 l Z a0 hw [] ob0 ar0b kr0b z0b_0 z0b_1 z0b_2 z0b_3 u8 zc fv h0 n0 Z0 E_ob0 g_ob0 V_ar0b g_ar0b E_ar0b F_ob0_bytes ne_ob0_ar0b SS) hZ (oH hw 33 rfl) (oH hw 5 rfl) (by decide) (by decide)) q1a q1c (g := (mkF m 3 #[vR ob0, vI 0] [(.int 0), (.ref ob0), (.int 0)])) rfl (by rw [hml]; rfl) (Steps.refl _) (argsL := [(.int 0)]) (rest := [(.int 0)]) (lenOf pd_79 rfl) rfl (by show 2 * 0 + _ ≤ _; exact Nat.le_of_eq rfl) (hb hby d5_3) (fun _ _ => ⟨rfl, e0, (by decide : 0 + 0 ≤ _), (by decide : 0 + 0 ≤ _)⟩)
  dsimp only [Pt.U, Pt.locs, Pt.cells, Pt.slots] at X1 l1 y1 z1 st1 hQ1
  subst l1 y1 z1
  obtain ⟨rfl, eh1, rfl⟩ := hQ1
  have N1 := Fr.app N0 (Fr.nil n0)
  refine oG m T1 6 #[vR ob0,vI 0] [(.int (z0b_0 &&& (255 : Int32))),(.int 0)] (fun _ k => st1.trans k) ?_
  obtain ⟨T2, X2, e2, st2⟩ := own_cP X1 hx hZ hown (oH hw 34 rfl) (oH hw 35 rfl) (oH hw 5 rfl) (oH hw 36 rfl) (by decide) (rmz85 l Z a0 hw [] (z0b_0 &&& (255 : Int32)) u8 zc fv h0 n0 Z0  SS hq0 hq1 hq2) (W := 1) (by decide) (by decide) (g := (mkF m 6 #[vR ob0, vI 0] [(.int (z0b_0 &&& (255 : Int32))), (.int 0)])) rfl (by rw [hml]; rfl) (argsL := [(.int (z0b_0 &&& (255 : Int32)))]) (rest := [(.int 0)]) (lenOf pd_79 rfl) rfl rfl rfl (hb hby d5_6) eh1 rfl (by decide) (by decide) (by decide : 0 ≤ _) (by decide : 0 ≤ _)
  refine oG m T2 10 #[vR ob0,vI 0] [(.int ((0 : Int32) + (4 : Int32)))] (fun _ k => st2 _ (XS.iadd X2.here hx rfl (hb hby d5_9) rfl k)) ?_
  rw [show ((0 : Int32) + (4 : Int32)) = (4 : Int32) from by decide]
  refine own_retI X2 hx hlk hrt (hb hby d5_10) (by decide) (by decide) ?_
  exact ⟨by first | rfl | decide, e2, rfl⟩
theorem rmz87 (l : Launch) (Z : State) (a0 : Array Value) (hw : oW a0 Z) (ws : List Jvm.Cond) (ob0 : Addr) (ar0b : Addr) (kr0b : ClassId) (z0b_0 : Int32) (z0b_1 : Int32) (z0b_2 : Int32) (z0b_3 : Int32) (u8 : Addr) (zc : Int32) (fv : Value) (h0 : Heap) (n0 : Nat) (Z0 : n0 ≤ h0.size) (E_ob0 : Exa Z h0 ob0 "clearcut/Text") (g_ob0 : n0 ≤ ob0) (V_ar0b : Arv Z h0 ar0b kr0b .byte (4 : Int32) [(.int z0b_0), (.int z0b_1), (.int z0b_2), (.int z0b_3)] (.int 0)) (g_ar0b : n0 ≤ ar0b) (E_ar0b : Exa Z h0 ar0b "[B") (F_ob0_bytes : Fld Z h0 ob0 "clearcut/Text" "bytes" "[B" (.ref ar0b)) (ne_ob0_ar0b : ob0 ≠ ar0b) (SS : own_Sx Z h0 u8 zc fv) (hq0 : ¬ (z0b_0 &&& (255 : Int32)) < (128 : Int32)) (hq1 : ¬ (z0b_0 &&& (255 : Int32)) < (224 : Int32)) (hq2 : ¬ (z0b_0 &&& (255 : Int32)) < (240 : Int32)) : own_K l (⟨"clearcut/Text", "codePointAt", "(I)I"⟩ : MethodName) prog_60_method_6_code 6 (some .int) ws ({ frames := 1, cells := 0, slots := 0, locals := 13 } : Room) Z h0 #[(.ref ob0), (.int 0)] (own_QP h0 (some (.int ((((((((z0b_0 &&& (255 : Int32)) &&& (7 : Int32)) <<< ((6 : Int32) &&& 31)) ||| (z0b_1 &&& (63 : Int32))) <<< ((6 : Int32) &&& 31)) ||| (z0b_2 &&& (63 : Int32))) <<< ((6 : Int32) &&& 31)) ||| (z0b_3 &&& (63 : Int32)))))) := by
  refine own_met (plainFor_of_name pn_78) ?_
  intro p e s m below meth c s₁ hx hby hlk hml hown hnm hrt hZ hh X0 e0
  have N0 := Fr.nil n0
  refine oG m s₁ 0 #[vR ob0,vI 0,oU,oU,oU,oU] [] (fun _ k => castTop (by first | (simp [entryFrame,mkF,argsToLocals,Value.category]; done) | rfl) k) ?_
  have K0 := Keep.refl h0 []
  refine oG m s₁ 2 #[vR ob0,vI 0,oU,oU,oU,oU] [(.int 0),(.ref ob0)] (fun _ k => XS.aloadN X0.here hx rfl (hb hby d8_0) rfl rfl (XS.iloadN X0.here hx rfl (hb hby d8_1) rfl k)) ?_
  obtain ⟨cq1, kq1, q1a, q1b, q1c⟩ := isOf hZ e0 E_ob0
  obtain ⟨v1, _, ⟨T1, L1, k1, n1⟩, -, X1, ⟨Lc1, hQ1, l1, y1, z1⟩, st1⟩ := X0.virtualBack hx (y := (⟨"clearcut/Text", "at", "(I)I"⟩ : MethodName)) (z := (⟨"clearcut/Text", "at", "(I)I"⟩ : MethodName)) hown (mvT hZ (oH hw 29 rfl)) (mvT hZ (oH hw 30 rfl)) (notFace_of_selects (args := #[]) (mvT hZ (oH hw 32 rfl))) (mvT hZ (oH hw 32 rfl)) (mvT hZ (oH hw 31 rfl)) (by decide) (backOf (W := 0) (rmz4 l Z a0 hw [] ob0 ar0b kr0b z0b_0 z0b_1 z0b_2 z0b_3 u8 zc fv h0 n0 Z0 E_ob0 g_ob0 V_ar0b g_ar0b E_ar0b F_ob0_bytes ne_ob0_ar0b SS) hZ (oH hw 33 rfl) (oH hw 5 rfl) (by decide) (by decide)) q1a q1c (g := (mkF m 2 #[vR ob0, vI 0, oU, oU, oU, oU] [(.int 0), (.ref ob0)])) rfl (by rw [hml]; rfl) (Steps.refl _) (argsL := [(.int 0)]) (rest := []) (lenOf pd_79 rfl) rfl (by show 2 * 0 + _ ≤ _; exact Nat.le_of_eq rfl) (hb hby d8_2) (fun _ _ => ⟨rfl, e0, (by decide : 0 + 0 ≤ _), (by decide : 0 + 0 ≤ _)⟩)
  dsimp only [Pt.U, Pt.locs, Pt.cells, Pt.slots] at X1 l1 y1 z1 st1 hQ1
  subst l1 y1 z1
  obtain ⟨rfl, eh1, rfl⟩ := hQ1
  have N1 := Fr.app N0 (Fr.nil n0)
  refine oG m T1 7 #[vR ob0,vI 0,vI (z0b_0 &&& (255 : Int32)),oU,oU,oU] [(.int (z0b_0 &&& (255 : Int32)))] (fun _ k => st1.trans (XS.istoreN X1.here hx rfl (hb hby d8_5) rfl (l' := #[vR ob0,vI 0,vI (z0b_0 &&& (255 : Int32)),oU,oU,oU]) rfl (XS.iloadN X1.here hx rfl (hb hby d8_6) rfl k))) ?_
  obtain ⟨T2, X2, e2, st2⟩ := own_cP X1 hx hZ hown (oH hw 34 rfl) (oH hw 35 rfl) (oH hw 5 rfl) (oH hw 36 rfl) (by decide) (rmz85 l Z a0 hw [] (z0b_0 &&& (255 : Int32)) u8 zc fv h0 n0 Z0  SS hq0 hq1 hq2) (W := 0) (by decide) (by decide) (g := (mkF m 7 #[vR ob0, vI 0, vI (z0b_0 &&& (255 : Int32)), oU, oU, oU] [(.int (z0b_0 &&& (255 : Int32)))])) rfl (by rw [hml]; rfl) (argsL := [(.int (z0b_0 &&& (255 : Int32)))]) (rest := []) (lenOf pd_79 rfl) rfl rfl rfl (hb hby d8_7) eh1 rfl (by decide) (by decide) (by decide : 0 ≤ _) (by decide : 0 ≤ _)
  refine oG m T2 27 #[vR ob0,vI 0,vI (z0b_0 &&& (255 : Int32)),vI 4,oU,oU] [(.int ((4 : Int32) + (1 : Int32))),(.int 255),(.int (z0b_0 &&& (255 : Int32)))] (fun _ k => st2 _ (XS.istoreN X2.here hx rfl (hb hby d8_10) rfl (l' := #[vR ob0,vI 0,vI (z0b_0 &&& (255 : Int32)),vI 4,oU,oU]) rfl (XS.iloadN X2.here hx rfl (hb hby d8_11) rfl (XS.iconst X2.here hx rfl (hb hby d8_12) (XS.icmpYes X2.here hx rfl (pc0 := 13) (pc' := 20) rfl (hb hby d8_13) rfl (feq (by decide)).2 (by decide) (by decide) (XS.iloadN X2.here hx rfl (hb hby d8_20) rfl (XS.sipush X2.here hx rfl (hb hby d8_21) (XS.iloadN X2.here hx rfl (hb hby d8_24) rfl (XS.iconst X2.here hx rfl (hb hby d8_25) (XS.iadd X2.here hx rfl (hb hby d8_26) rfl k)))))))))) ?_
  rw [show ((4 : Int32) + (1 : Int32)) = (5 : Int32) from by decide]
  refine oG m T2 28 #[vR ob0,vI 0,vI (z0b_0 &&& (255 : Int32)),vI 4,oU,oU] [(.int ((255 : Int32) >>> ((5 : Int32) &&& 31))),(.int (z0b_0 &&& (255 : Int32)))] (fun _ k => XS.ishr X2.here hx rfl (hb hby d8_27) rfl k) ?_
  rw [show ((255 : Int32) >>> ((5 : Int32) &&& 31)) = (7 : Int32) from by decide]
  refine oG m T2 46 #[vR ob0,vI 0,vI (z0b_0 &&& (255 : Int32)),vI 4,vI ((z0b_0 &&& (255 : Int32)) &&& (7 : Int32)),vI 1] [(.ref ob0),(.int (((z0b_0 &&& (255 : Int32)) &&& (7 : Int32)) <<< ((6 : Int32) &&& 31)))] (fun _ k => XS.iand X2.here hx rfl (hb hby d8_28) rfl (XS.istore X2.here hx rfl (hb hby d8_29) rfl (l' := #[vR ob0,vI 0,vI (z0b_0 &&& (255 : Int32)),vI 4,vI ((z0b_0 &&& (255 : Int32)) &&& (7 : Int32)),oU]) rfl (XS.iconst X2.here hx rfl (hb hby d8_31) (XS.istore X2.here hx rfl (hb hby d8_32) rfl (l' := #[vR ob0,vI 0,vI (z0b_0 &&& (255 : Int32)),vI 4,vI ((z0b_0 &&& (255 : Int32)) &&& (7 : Int32)),vI 1]) rfl (XS.iload X2.here hx rfl (hb hby d8_34) rfl (XS.iloadN X2.here hx rfl (hb hby d8_36) rfl (XS.icmpNo X2.here hx rfl (hb hby d8_37) rfl (tlt (by decide)).2.1 (XS.iload X2.here hx rfl (hb hby d8_40) rfl (XS.bipush X2.here hx rfl (hb hby d8_42) (XS.ishl X2.here hx rfl (hb hby d8_44) rfl (XS.aloadN X2.here hx rfl (hb hby d8_45) rfl rfl k))))))))))) ?_
  obtain ⟨T3, X3, e3, st3⟩ := getF X2 hx hZ hown (host := "") (Or.inl (oH hw 20 rfl)) Via.refl e2 F_ob0_bytes (g := (mkF m 46 #[vR ob0, vI 0, vI (z0b_0 &&& (255 : Int32)), vI 4, vI ((z0b_0 &&& (255 : Int32)) &&& (7 : Int32)), vI 1] [(.ref ob0), (.int (((z0b_0 &&& (255 : Int32)) &&& (7 : Int32)) <<< ((6 : Int32) &&& 31)))])) rfl rfl (hb hby d8_46)
  refine oG m T3 53 #[vR ob0,vI 0,vI (z0b_0 &&& (255 : Int32)),vI 4,vI ((z0b_0 &&& (255 : Int32)) &&& (7 : Int32)),vI 1] [(.int ((0 : Int32) + (1 : Int32))),(.ref ar0b),(.int (((z0b_0 &&& (255 : Int32)) &&& (7 : Int32)) <<< ((6 : Int32) &&& 31)))] (fun _ k => st3 _ (XS.iloadN X3.here hx rfl (hb hby d8_49) rfl (XS.iload X3.here hx rfl (hb hby d8_50) rfl (XS.iadd X3.here hx rfl (hb hby d8_52) rfl k)))) ?_
  rw [show ((0 : Int32) + (1 : Int32)) = (1 : Int32) from by decide]
  obtain ⟨cl4, Ar4, -, S4, -, H4, -⟩ := id V_ar0b
  have hin4 := inb_of (j := (1 : Int32)) S4 ⟨by decide, by decide⟩
  have hat4 := Has.at (v := (.int z0b_1)) H4 hin4 (by first | rfl | decide)
  refine own_go (S' := (T3.setTop (mkF m 54 #[vR ob0, vI 0, vI (z0b_0 &&& (255 : Int32)), vI 4, vI ((z0b_0 &&& (255 : Int32)) &&& (7 : Int32)), vI 1] [(.int z0b_1), (.int (((z0b_0 &&& (255 : Int32)) &&& (7 : Int32)) <<< ((6 : Int32) &&& 31)))]))) (fun _ kont => X3.baloadBytes hx (j := (1 : Int32)) (v := (.int z0b_1)) (by rw [e3]; exact Ar4.1) (State.isArrayOf_alike hZ.alike Ar4.2.1) Ar4.2.2 hin4 hat4 (g := (mkF m 53 #[vR ob0, vI 0, vI (z0b_0 &&& (255 : Int32)), vI 4, vI ((z0b_0 &&& (255 : Int32)) &&& (7 : Int32)), vI 1] [(.int 1), (.ref ar0b), (.int (((z0b_0 &&& (255 : Int32)) &&& (7 : Int32)) <<< ((6 : Int32) &&& 31)))])) rfl rfl (hb hby d8_53) _ kont) ?_
  refine oG m T3 63 #[vR ob0,vI 0,vI (z0b_0 &&& (255 : Int32)),vI 4,vI ((((z0b_0 &&& (255 : Int32)) &&& (7 : Int32)) <<< ((6 : Int32) &&& 31)) ||| (z0b_1 &&& (63 : Int32))),vI ((1 : Int32) + (1 : Int32))] [] (fun _ k => XS.bipush X3.here hx rfl (hb hby d8_54) (XS.iand X3.here hx rfl (hb hby d8_56) rfl (XS.ior X3.here hx rfl (hb hby d8_57) rfl (XS.istore X3.here hx rfl (hb hby d8_58) rfl (l' := #[vR ob0,vI 0,vI (z0b_0 &&& (255 : Int32)),vI 4,vI ((((z0b_0 &&& (255 : Int32)) &&& (7 : Int32)) <<< ((6 : Int32) &&& 31)) ||| (z0b_1 &&& (63 : Int32))),vI 1]) rfl (XS.iinc X3.here hx rfl (hb hby d8_60) rfl (l' := #[vR ob0,vI 0,vI (z0b_0 &&& (255 : Int32)),vI 4,vI ((((z0b_0 &&& (255 : Int32)) &&& (7 : Int32)) <<< ((6 : Int32) &&& 31)) ||| (z0b_1 &&& (63 : Int32))),vI ((1 : Int32) + (1 : Int32))]) rfl k))))) ?_
  rw [show ((1 : Int32) + (1 : Int32)) = (2 : Int32) from by decide]
  refine oG m T3 46 #[vR ob0,vI 0,vI (z0b_0 &&& (255 : Int32)),vI 4,vI ((((z0b_0 &&& (255 : Int32)) &&& (7 : Int32)) <<< ((6 : Int32) &&& 31)) ||| (z0b_1 &&& (63 : Int32))),vI 2] [(.ref ob0),(.int (((((z0b_0 &&& (255 : Int32)) &&& (7 : Int32)) <<< ((6 : Int32) &&& 31)) ||| (z0b_1 &&& (63 : Int32))) <<< ((6 : Int32) &&& 31)))] (fun _ k => XS.goto X3.here hx rfl (pc0 := 63) (pc' := 34) rfl (hb hby d8_63) (by decide) (by decide) (XS.iload X3.here hx rfl (hb hby d8_34) rfl (XS.iloadN X3.here hx rfl (hb hby d8_36) rfl (XS.icmpNo X3.here hx rfl (hb hby d8_37) rfl (tlt (by decide)).2.1 (XS.iload X3.here hx rfl (hb hby d8_40) rfl (XS.bipush X3.here hx rfl (hb hby d8_42) (XS.ishl X3.here hx rfl (hb hby d8_44) rfl (XS.aloadN X3.here hx rfl (hb hby d8_45) rfl rfl k)))))))) ?_
  obtain ⟨T5, X5, e5, st5⟩ := getF X3 hx hZ hown (host := "") (Or.inl (oH hw 20 rfl)) Via.refl e3 F_ob0_bytes (g := (mkF m 46 #[vR ob0, vI 0, vI (z0b_0 &&& (255 : Int32)), vI 4, vI ((((z0b_0 &&& (255 : Int32)) &&& (7 : Int32)) <<< ((6 : Int32) &&& 31)) ||| (z0b_1 &&& (63 : Int32))), vI 2] [(.ref ob0), (.int (((((z0b_0 &&& (255 : Int32)) &&& (7 : Int32)) <<< ((6 : Int32) &&& 31)) ||| (z0b_1 &&& (63 : Int32))) <<< ((6 : Int32) &&& 31)))])) rfl rfl (hb hby d8_46)
  refine oG m T5 53 #[vR ob0,vI 0,vI (z0b_0 &&& (255 : Int32)),vI 4,vI ((((z0b_0 &&& (255 : Int32)) &&& (7 : Int32)) <<< ((6 : Int32) &&& 31)) ||| (z0b_1 &&& (63 : Int32))),vI 2] [(.int ((0 : Int32) + (2 : Int32))),(.ref ar0b),(.int (((((z0b_0 &&& (255 : Int32)) &&& (7 : Int32)) <<< ((6 : Int32) &&& 31)) ||| (z0b_1 &&& (63 : Int32))) <<< ((6 : Int32) &&& 31)))] (fun _ k => st5 _ (XS.iloadN X5.here hx rfl (hb hby d8_49) rfl (XS.iload X5.here hx rfl (hb hby d8_50) rfl (XS.iadd X5.here hx rfl (hb hby d8_52) rfl k)))) ?_
  rw [show ((0 : Int32) + (2 : Int32)) = (2 : Int32) from by decide]
  obtain ⟨cl6, Ar6, -, S6, -, H6, -⟩ := id V_ar0b
  have hin6 := inb_of (j := (2 : Int32)) S6 ⟨by decide, by decide⟩
  have hat6 := Has.at (v := (.int z0b_2)) H6 hin6 (by first | rfl | decide)
  refine own_go (S' := (T5.setTop (mkF m 54 #[vR ob0, vI 0, vI (z0b_0 &&& (255 : Int32)), vI 4, vI ((((z0b_0 &&& (255 : Int32)) &&& (7 : Int32)) <<< ((6 : Int32) &&& 31)) ||| (z0b_1 &&& (63 : Int32))), vI 2] [(.int z0b_2), (.int (((((z0b_0 &&& (255 : Int32)) &&& (7 : Int32)) <<< ((6 : Int32) &&& 31)) ||| (z0b_1 &&& (63 : Int32))) <<< ((6 : Int32) &&& 31)))]))) (fun _ kont => X5.baloadBytes hx (j := (2 : Int32)) (v := (.int z0b_2)) (by rw [e5]; exact Ar6.1) (State.isArrayOf_alike hZ.alike Ar6.2.1) Ar6.2.2 hin6 hat6 (g := (mkF m 53 #[vR ob0, vI 0, vI (z0b_0 &&& (255 : Int32)), vI 4, vI ((((z0b_0 &&& (255 : Int32)) &&& (7 : Int32)) <<< ((6 : Int32) &&& 31)) ||| (z0b_1 &&& (63 : Int32))), vI 2] [(.int 2), (.ref ar0b), (.int (((((z0b_0 &&& (255 : Int32)) &&& (7 : Int32)) <<< ((6 : Int32) &&& 31)) ||| (z0b_1 &&& (63 : Int32))) <<< ((6 : Int32) &&& 31)))])) rfl rfl (hb hby d8_53) _ kont) ?_
  refine oG m T5 63 #[vR ob0,vI 0,vI (z0b_0 &&& (255 : Int32)),vI 4,vI ((((((z0b_0 &&& (255 : Int32)) &&& (7 : Int32)) <<< ((6 : Int32) &&& 31)) ||| (z0b_1 &&& (63 : Int32))) <<< ((6 : Int32) &&& 31)) ||| (z0b_2 &&& (63 : Int32))),vI ((2 : Int32) + (1 : Int32))] [] (fun _ k => XS.bipush X5.here hx rfl (hb hby d8_54) (XS.iand X5.here hx rfl (hb hby d8_56) rfl (XS.ior X5.here hx rfl (hb hby d8_57) rfl (XS.istore X5.here hx rfl (hb hby d8_58) rfl (l' := #[vR ob0,vI 0,vI (z0b_0 &&& (255 : Int32)),vI 4,vI ((((((z0b_0 &&& (255 : Int32)) &&& (7 : Int32)) <<< ((6 : Int32) &&& 31)) ||| (z0b_1 &&& (63 : Int32))) <<< ((6 : Int32) &&& 31)) ||| (z0b_2 &&& (63 : Int32))),vI 2]) rfl (XS.iinc X5.here hx rfl (hb hby d8_60) rfl (l' := #[vR ob0,vI 0,vI (z0b_0 &&& (255 : Int32)),vI 4,vI ((((((z0b_0 &&& (255 : Int32)) &&& (7 : Int32)) <<< ((6 : Int32) &&& 31)) ||| (z0b_1 &&& (63 : Int32))) <<< ((6 : Int32) &&& 31)) ||| (z0b_2 &&& (63 : Int32))),vI ((2 : Int32) + (1 : Int32))]) rfl k))))) ?_
  rw [show ((2 : Int32) + (1 : Int32)) = (3 : Int32) from by decide]
  refine oG m T5 46 #[vR ob0,vI 0,vI (z0b_0 &&& (255 : Int32)),vI 4,vI ((((((z0b_0 &&& (255 : Int32)) &&& (7 : Int32)) <<< ((6 : Int32) &&& 31)) ||| (z0b_1 &&& (63 : Int32))) <<< ((6 : Int32) &&& 31)) ||| (z0b_2 &&& (63 : Int32))),vI 3] [(.ref ob0),(.int (((((((z0b_0 &&& (255 : Int32)) &&& (7 : Int32)) <<< ((6 : Int32) &&& 31)) ||| (z0b_1 &&& (63 : Int32))) <<< ((6 : Int32) &&& 31)) ||| (z0b_2 &&& (63 : Int32))) <<< ((6 : Int32) &&& 31)))] (fun _ k => XS.goto X5.here hx rfl (pc0 := 63) (pc' := 34) rfl (hb hby d8_63) (by decide) (by decide) (XS.iload X5.here hx rfl (hb hby d8_34) rfl (XS.iloadN X5.here hx rfl (hb hby d8_36) rfl (XS.icmpNo X5.here hx rfl (hb hby d8_37) rfl (tlt (by decide)).2.1 (XS.iload X5.here hx rfl (hb hby d8_40) rfl (XS.bipush X5.here hx rfl (hb hby d8_42) (XS.ishl X5.here hx rfl (hb hby d8_44) rfl (XS.aloadN X5.here hx rfl (hb hby d8_45) rfl rfl k)))))))) ?_
  obtain ⟨T7, X7, e7, st7⟩ := getF X5 hx hZ hown (host := "") (Or.inl (oH hw 20 rfl)) Via.refl e5 F_ob0_bytes (g := (mkF m 46 #[vR ob0, vI 0, vI (z0b_0 &&& (255 : Int32)), vI 4, vI ((((((z0b_0 &&& (255 : Int32)) &&& (7 : Int32)) <<< ((6 : Int32) &&& 31)) ||| (z0b_1 &&& (63 : Int32))) <<< ((6 : Int32) &&& 31)) ||| (z0b_2 &&& (63 : Int32))), vI 3] [(.ref ob0), (.int (((((((z0b_0 &&& (255 : Int32)) &&& (7 : Int32)) <<< ((6 : Int32) &&& 31)) ||| (z0b_1 &&& (63 : Int32))) <<< ((6 : Int32) &&& 31)) ||| (z0b_2 &&& (63 : Int32))) <<< ((6 : Int32) &&& 31)))])) rfl rfl (hb hby d8_46)
  refine oG m T7 53 #[vR ob0,vI 0,vI (z0b_0 &&& (255 : Int32)),vI 4,vI ((((((z0b_0 &&& (255 : Int32)) &&& (7 : Int32)) <<< ((6 : Int32) &&& 31)) ||| (z0b_1 &&& (63 : Int32))) <<< ((6 : Int32) &&& 31)) ||| (z0b_2 &&& (63 : Int32))),vI 3] [(.int ((0 : Int32) + (3 : Int32))),(.ref ar0b),(.int (((((((z0b_0 &&& (255 : Int32)) &&& (7 : Int32)) <<< ((6 : Int32) &&& 31)) ||| (z0b_1 &&& (63 : Int32))) <<< ((6 : Int32) &&& 31)) ||| (z0b_2 &&& (63 : Int32))) <<< ((6 : Int32) &&& 31)))] (fun _ k => st7 _ (XS.iloadN X7.here hx rfl (hb hby d8_49) rfl (XS.iload X7.here hx rfl (hb hby d8_50) rfl (XS.iadd X7.here hx rfl (hb hby d8_52) rfl k)))) ?_
  rw [show ((0 : Int32) + (3 : Int32)) = (3 : Int32) from by decide]
  obtain ⟨cl8, Ar8, -, S8, -, H8, -⟩ := id V_ar0b
  have hin8 := inb_of (j := (3 : Int32)) S8 ⟨by decide, by decide⟩
  have hat8 := Has.at (v := (.int z0b_3)) H8 hin8 (by first | rfl | decide)
  refine own_go (S' := (T7.setTop (mkF m 54 #[vR ob0, vI 0, vI (z0b_0 &&& (255 : Int32)), vI 4, vI ((((((z0b_0 &&& (255 : Int32)) &&& (7 : Int32)) <<< ((6 : Int32) &&& 31)) ||| (z0b_1 &&& (63 : Int32))) <<< ((6 : Int32) &&& 31)) ||| (z0b_2 &&& (63 : Int32))), vI 3] [(.int z0b_3), (.int (((((((z0b_0 &&& (255 : Int32)) &&& (7 : Int32)) <<< ((6 : Int32) &&& 31)) ||| (z0b_1 &&& (63 : Int32))) <<< ((6 : Int32) &&& 31)) ||| (z0b_2 &&& (63 : Int32))) <<< ((6 : Int32) &&& 31)))]))) (fun _ kont => X7.baloadBytes hx (j := (3 : Int32)) (v := (.int z0b_3)) (by rw [e7]; exact Ar8.1) (State.isArrayOf_alike hZ.alike Ar8.2.1) Ar8.2.2 hin8 hat8 (g := (mkF m 53 #[vR ob0, vI 0, vI (z0b_0 &&& (255 : Int32)), vI 4, vI ((((((z0b_0 &&& (255 : Int32)) &&& (7 : Int32)) <<< ((6 : Int32) &&& 31)) ||| (z0b_1 &&& (63 : Int32))) <<< ((6 : Int32) &&& 31)) ||| (z0b_2 &&& (63 : Int32))), vI 3] [(.int 3), (.ref ar0b), (.int (((((((z0b_0 &&& (255 : Int32)) &&& (7 : Int32)) <<< ((6 : Int32) &&& 31)) ||| (z0b_1 &&& (63 : Int32))) <<< ((6 : Int32) &&& 31)) ||| (z0b_2 &&& (63 : Int32))) <<< ((6 : Int32) &&& 31)))])) rfl rfl (hb hby d8_53) _ kont) ?_
  refine oG m T7 63 #[vR ob0,vI 0,vI (z0b_0 &&& (255 : Int32)),vI 4,vI ((((((((z0b_0 &&& (255 : Int32)) &&& (7 : Int32)) <<< ((6 : Int32) &&& 31)) ||| (z0b_1 &&& (63 : Int32))) <<< ((6 : Int32) &&& 31)) ||| (z0b_2 &&& (63 : Int32))) <<< ((6 : Int32) &&& 31)) ||| (z0b_3 &&& (63 : Int32))),vI ((3 : Int32) + (1 : Int32))] [] (fun _ k => XS.bipush X7.here hx rfl (hb hby d8_54) (XS.iand X7.here hx rfl (hb hby d8_56) rfl (XS.ior X7.here hx rfl (hb hby d8_57) rfl (XS.istore X7.here hx rfl (hb hby d8_58) rfl (l' := #[vR ob0,vI 0,vI (z0b_0 &&& (255 : Int32)),vI 4,vI ((((((((z0b_0 &&& (255 : Int32)) &&& (7 : Int32)) <<< ((6 : Int32) &&& 31)) ||| (z0b_1 &&& (63 : Int32))) <<< ((6 : Int32) &&& 31)) ||| (z0b_2 &&& (63 : Int32))) <<< ((6 : Int32) &&& 31)) ||| (z0b_3 &&& (63 : Int32))),vI 3]) rfl (XS.iinc X7.here hx rfl (hb hby d8_60) rfl (l' := #[vR ob0,vI 0,vI (z0b_0 &&& (255 : Int32)),vI 4,vI ((((((((z0b_0 &&& (255 : Int32)) &&& (7 : Int32)) <<< ((6 : Int32) &&& 31)) ||| (z0b_1 &&& (63 : Int32))) <<< ((6 : Int32) &&& 31)) ||| (z0b_2 &&& (63 : Int32))) <<< ((6 : Int32) &&& 31)) ||| (z0b_3 &&& (63 : Int32))),vI ((3 : Int32) + (1 : Int32))]) rfl k))))) ?_
  rw [show ((3 : Int32) + (1 : Int32)) = (4 : Int32) from by decide]
  refine oG m T7 68 #[vR ob0,vI 0,vI (z0b_0 &&& (255 : Int32)),vI 4,vI ((((((((z0b_0 &&& (255 : Int32)) &&& (7 : Int32)) <<< ((6 : Int32) &&& 31)) ||| (z0b_1 &&& (63 : Int32))) <<< ((6 : Int32) &&& 31)) ||| (z0b_2 &&& (63 : Int32))) <<< ((6 : Int32) &&& 31)) ||| (z0b_3 &&& (63 : Int32))),vI 4] [(.int ((((((((z0b_0 &&& (255 : Int32)) &&& (7 : Int32)) <<< ((6 : Int32) &&& 31)) ||| (z0b_1 &&& (63 : Int32))) <<< ((6 : Int32) &&& 31)) ||| (z0b_2 &&& (63 : Int32))) <<< ((6 : Int32) &&& 31)) ||| (z0b_3 &&& (63 : Int32))))] (fun _ k => XS.goto X7.here hx rfl (pc0 := 63) (pc' := 34) rfl (hb hby d8_63) (by decide) (by decide) (XS.iload X7.here hx rfl (hb hby d8_34) rfl (XS.iloadN X7.here hx rfl (hb hby d8_36) rfl (XS.icmpYes X7.here hx rfl (pc0 := 37) (pc' := 66) rfl (hb hby d8_37) rfl (flt (by decide)).2.1 (by decide) (by decide) (XS.iload X7.here hx rfl (hb hby d8_66) rfl k))))) ?_
  refine own_retI X7 hx hlk hrt (hb hby d8_68) (by decide) (by decide) ?_
  exact ⟨by first | rfl | decide, e7, rfl⟩
theorem rmz88 (l : Launch) (Z : State) (a0 : Array Value) (hw : oW a0 Z) (ws : List Jvm.Cond) (ar0 : Addr) (kr0 : ClassId) (z0_0 : Int32) (z0_1 : Int32) (z0_2 : Int32) (z0_3 : Int32) (u8 : Addr) (zc : Int32) (fv : Value) (h0 : Heap) (n0 : Nat) (Z0 : n0 ≤ h0.size) (V_ar0 : Arv Z h0 ar0 kr0 .byte (4 : Int32) [(.int z0_0), (.int z0_1), (.int z0_2), (.int z0_3)] (.int 0)) (g_ar0 : n0 ≤ ar0) (E_ar0 : Exa Z h0 ar0 "[B")  (SS : own_Sx Z h0 u8 zc fv) (hq0 : z0_0 < (0 : Int32)) : own_K l (⟨"java/lang/StringCoding", "countPositives", "([BII)I"⟩ : MethodName) jdk_123_method_3_code 5 (some .int) ws ({ frames := 0, cells := 0, slots := 0, locals := 0 } : Room) Z h0 #[(.ref ar0), (.int 0), (.int 4)] (own_QP h0 (some (.int 0))) := by
  refine own_met (plainFor_of_name pn_240) ?_
  intro p e s m below meth c s₁ hx hby hlk hml hown hnm hrt hZ hh X0 e0
  have N0 := Fr.nil n0
  refine oG m s₁ 0 #[vR ar0,vI 0,vI 4,oU,oU] [] (fun _ k => castTop (by first | (simp [entryFrame,mkF,argsToLocals,Value.category]; done) | rfl) k) ?_
  have K0 := Keep.refl h0 []
  refine oG m s₁ 3 #[vR ar0,vI 0,vI 4,oU,oU] [(.int ((0 : Int32) + (4 : Int32)))] (fun _ k => XS.iloadN X0.here hx rfl (hb hby d15_0) rfl (XS.iloadN X0.here hx rfl (hb hby d15_1) rfl (XS.iadd X0.here hx rfl (hb hby d15_2) rfl k))) ?_
  rw [show ((0 : Int32) + (4 : Int32)) = (4 : Int32) from by decide]
  refine oG m s₁ 16 #[vR ar0,vI 0,vI 4,vI 4,vI 0] [(.int 0),(.ref ar0)] (fun _ k => XS.istoreN X0.here hx rfl (hb hby d15_3) rfl (l' := #[vR ar0,vI 0,vI 4,vI 4,oU]) rfl (XS.iloadN X0.here hx rfl (hb hby d15_4) rfl (XS.istore X0.here hx rfl (hb hby d15_5) rfl (l' := #[vR ar0,vI 0,vI 4,vI 4,vI 0]) rfl (XS.iload X0.here hx rfl (hb hby d15_7) rfl (XS.iloadN X0.here hx rfl (hb hby d15_9) rfl (XS.icmpNo X0.here hx rfl (hb hby d15_10) rfl (tlt (by decide)).2.1 (XS.aloadN X0.here hx rfl (hb hby d15_13) rfl rfl (XS.iload X0.here hx rfl (hb hby d15_14) rfl k)))))))) ?_
  obtain ⟨cl1, Ar1, -, S1, -, H1, -⟩ := id V_ar0
  have hin1 := inb_of (j := (0 : Int32)) S1 ⟨by decide, by decide⟩
  have hat1 := Has.at (v := (.int z0_0)) H1 hin1 (by first | rfl | decide)
  refine own_go (S' := (s₁.setTop (mkF m 17 #[vR ar0, vI 0, vI 4, vI 4, vI 0] [(.int z0_0)]))) (fun _ kont => X0.baloadBytes hx (j := (0 : Int32)) (v := (.int z0_0)) (by rw [e0]; exact Ar1.1) (State.isArrayOf_alike hZ.alike Ar1.2.1) Ar1.2.2 hin1 hat1 (g := (mkF m 16 #[vR ar0, vI 0, vI 4, vI 4, vI 0] [(.int 0), (.ref ar0)])) rfl rfl (hb hby d15_16) _ kont) ?_
  refine oG m s₁ 24 #[vR ar0,vI 0,vI 4,vI 4,vI 0] [(.int ((0 : Int32) - (0 : Int32)))] (fun _ k => XS.ifNo X0.here hx rfl (hb hby d15_17) rfl ((if0 _ _).trans (tlt hq0).2.1) (XS.iload X0.here hx rfl (hb hby d15_20) rfl (XS.iloadN X0.here hx rfl (hb hby d15_22) rfl (XS.isub X0.here hx rfl (hb hby d15_23) rfl k)))) ?_
  rw [show ((0 : Int32) - (0 : Int32)) = (0 : Int32) from by decide]
  refine own_retI X0 hx hlk hrt (hb hby d15_24) (by decide) (by decide) ?_
  exact ⟨by first | rfl | decide, e0, rfl⟩
theorem d16_17 : decode C16 17 = .ok (.aload_n 0, 1) := by decide +kernel
theorem d16_18 : decode C16 18 = .ok (.invokevirtual 310, 3) := by decide +kernel
theorem d16_21 : decode C16 21 = .ok (.checkcast 311, 3) := by decide +kernel
theorem d16_24 : decode C16 24 = .ok (.areturn, 1) := by decide +kernel
def Q_rmz89 (Z : State) (ar0 : Addr) (kr0 : ClassId) (z0_0 : Int32) (z0_1 : Int32) (z0_2 : Int32) (z0_3 : Int32) (u8 : Addr) (zc : Int32) (fv : Value) (h0 : Heap) (n0 : Nat) (v : Option Value) (h : Heap) (L : List Loc) : Prop := ∃ (NA0 : Addr) (KA0 : ClassId), v = some (.ref NA0) ∧ Fr n0 L ∧ Keep h0 h [] ∧ h0.size ≤ NA0 ∧ Arv Z h NA0 KA0 .byte (4 : Int32) [(.int z0_0), (.int z0_1), (.int z0_2), (.int z0_3)] (.int 0)
theorem rmz89 (l : Launch) (Z : State) (a0 : Array Value) (hw : oW a0 Z) (ws : List Jvm.Cond) (ar0 : Addr) (kr0 : ClassId) (z0_0 : Int32) (z0_1 : Int32) (z0_2 : Int32) (z0_3 : Int32) (u8 : Addr) (zc : Int32) (fv : Value) (h0 : Heap) (n0 : Nat) (Z0 : n0 ≤ h0.size) (V_ar0 : Arv Z h0 ar0 kr0 .byte (4 : Int32) [(.int z0_0), (.int z0_1), (.int z0_2), (.int z0_3)] (.int 0)) (g_ar0 : n0 ≤ ar0) (E_ar0 : Exa Z h0 ar0 "[B")  (SS : own_Sx Z h0 u8 zc fv)  : own_K l (⟨"java/util/Arrays", "copyOfRange", "([BII)[B"⟩ : MethodName) jdk_65_method_132_code 3 (some (.array .byte)) ws ({ frames := 2, cells := 1, slots := 4, locals := 34 } : Room) Z h0 #[(.ref ar0), (.int 0), (.int 4)] (Q_rmz89 Z ar0 kr0 z0_0 z0_1 z0_2 z0_3 u8 zc fv h0 n0) := by
  refine own_met (plainFor_of_name pn_268) ?_
  intro p e s m below meth c s₁ hx hby hlk hml hown hnm hrt hZ hh X0 e0
  have N0 := Fr.nil n0
  refine oG m s₁ 0 #[vR ar0,vI 0,vI 4] [] (fun _ k => castTop (by first | (simp [entryFrame,mkF,argsToLocals,Value.category]; done) | rfl) k) ?_
  have K0 := Keep.refl h0 []
  refine oG m s₁ 6 #[vR ar0,vI 0,vI 4] [(.ref ar0),(.int 4)] (fun _ k => XS.iloadN X0.here hx rfl (hb hby d16_0) rfl (XS.ifNo X0.here hx rfl (hb hby d16_1) rfl ((if0 _ _).trans (teq (by decide)).2) (XS.iloadN X0.here hx rfl (hb hby d16_4) rfl (XS.aloadN X0.here hx rfl (hb hby d16_5) rfl rfl k)))) ?_
  obtain ⟨cl1, Ar1, -, S1, M1, -, -⟩ := id V_ar0
  have ql1 := len_of S1 M1
  refine own_go (S' := (s₁.setTop (mkF m 7 #[vR ar0, vI 0, vI 4] [(.int 4), (.int 4)]))) (fun _ kont => X0.arraylength hx (by rw [e0]; exact Ar1.1) (State.isArrayOf_alike hZ.alike Ar1.2.1) (g := (mkF m 6 #[vR ar0, vI 0, vI 4] [(.ref ar0), (.int 4)])) rfl rfl (hb hby d16_6) _ (by rw [ql1]; exact kont)) ?_
  refine oG m s₁ 18 #[vR ar0,vI 0,vI 4] [(.ref ar0)] (fun _ k => XS.icmpYes X0.here hx rfl (pc0 := 7) (pc' := 17) rfl (hb hby d16_7) rfl (teq (by decide)).1 (by decide) (by decide) (XS.aloadN X0.here hx rfl (hb hby d16_17) rfl rfl k)) ?_
  obtain ⟨T2, h2, X2, e2, E2, A2, Ec2, st2⟩ := cloneH X0 hx hZ hown (oH hw 141 rfl) (oH hw 142 rfl) (oH hw 146 rfl) (oH hw 144 rfl) (oH hw 145 rfl) (oH hw 147 rfl) e0 V_ar0.arh E_ar0 (g := (mkF m 18 #[vR ar0, vI 0, vI 4] [(.ref ar0)])) rfl (by rw [hml]; rfl) rfl (hb hby d16_18) (by decide) (W := 0) (cap := 4) (by show 2 * 0 + _ ≤ _; exact Nat.le_of_eq rfl) (by decide) (by decide) (by decide) (by decide)
  obtain ⟨b2, gz2⟩ : ∃ z, z = h0.size := ⟨_, rfl⟩
  rw [← gz2] at A2 Ec2 st2
  have sz_b2 : h0.size ≤ b2 := Nat.le_trans K0.1 (Nat.le_of_eq gz2.symm)
  have ne_ar0_b2 : ar0 ≠ b2 := Nat.ne_of_lt (by rw [gz2]; exact V_ar0.lt)
  have c2_Var0 := V_ar0.ext E2
  have c2_Ear0 := E_ar0.ext E2
  have c2_USS := SS.ext E2
  have K2 := K0.ext E2
  have g_b2 : n0 ≤ b2 := Nat.le_trans Z0 (Nat.le_of_eq gz2.symm)
  have V2 : Arv Z h2 b2 kr0 .byte (4 : Int32) [(.int z0_0), (.int z0_1), (.int z0_2), (.int z0_3)] (.int 0) := A2
  have Z2 : n0 ≤ h2.size := Nat.le_trans Z0 E2.1
  refine oG m T2 21 #[vR ar0,vI 0,vI 4] [(.ref b2)] (fun _ k => st2 _ k) ?_
  obtain ⟨T3, X3, e3, st3⟩ := castY X2 hx hZ hown (oH hw 148 rfl) e2 (Ins.of_exa Ec2 (oH hw 149 rfl)) (g := (mkF m 21 #[vR ar0, vI 0, vI 4] [(.ref b2)])) rfl rfl (hb hby d16_21)
  refine oG m T3 24 #[vR ar0,vI 0,vI 4] [(.ref b2)] (fun _ k => st3 _ k) ?_
  refine own_retA X3 hx hlk (rfl) rfl hrt (hb hby d16_24) (by decide) (by decide) ?_
  rw [e3]
  exact ⟨b2, kr0, (by first | rfl | decide), N0, K2, sz_b2, V2⟩
def Q_rmz90 (Z : State)  (u8 : Addr) (zc : Int32) (fv : Value) (h0 : Heap) (n0 : Nat) (v : Option Value) (h : Heap) (L : List Loc) : Prop := ∃ (NA0 : Addr) (KA0 : ClassId), v = some (.ref NA0) ∧ Fr n0 L ∧ Keep h0 h [] ∧ h0.size ≤ NA0 ∧ Arv Z h NA0 KA0 .byte (8 : Int32) [(.int 0), (.int 0), (.int 0), (.int 0), (.int 0), (.int 0), (.int 0), (.int 0)] (.int 0)
theorem rmz90 (l : Launch) (Z : State) (a0 : Array Value) (hw : oW a0 Z) (ws : List Jvm.Cond)  (u8 : Addr) (zc : Int32) (fv : Value) (h0 : Heap) (n0 : Nat) (Z0 : n0 ≤ h0.size)   (SS : own_Sx Z h0 u8 zc fv)  : own_K l (⟨"java/lang/StringUTF16", "newBytesFor", "(I)[B"⟩ : MethodName) jdk_52_method_2_code 1 (some (.array .byte)) ws ({ frames := 1, cells := 1, slots := 8, locals := 12 } : Room) Z h0 #[(.int 4)] (Q_rmz90 Z u8 zc fv h0 n0) := by
  refine own_met (plainFor_of_name pn_537) ?_
  intro p e s m below meth c s₁ hx hby hlk hml hown hnm hrt hZ hh X0 e0
  have N0 := Fr.nil n0
  refine oG m s₁ 0 #[vI 4] [] (fun _ k => castTop (by first | (simp [entryFrame,mkF,argsToLocals,Value.category]; done) | rfl) k) ?_
  have K0 := Keep.refl h0 []
  refine oG m s₁ 1 #[vI 4] [(.int 4)] (fun _ k => XS.iloadN X0.here hx rfl (hb hby d27_0) rfl k) ?_
  obtain ⟨T1, X1, e1, st1⟩ := own_cP X0 hx hZ hown (oH hw 154 rfl) (oH hw 155 rfl) (oH hw 152 rfl) (oH hw 156 rfl) (by decide) (rmz41 l Z a0 hw [] (4 : Int32) u8 zc fv h0 n0 Z0  SS (by decide) (by decide)) (W := 0) (by decide) (by decide) (g := (mkF m 1 #[vI 4] [(.int 4)])) rfl (by rw [hml]; rfl) (argsL := [(.int 4)]) (rest := []) (lenOf pd_79 rfl) rfl rfl rfl (hb hby d27_1) e0 rfl (by decide) (by decide) (by decide : 0 ≤ _) (by decide : 0 ≤ _)
  refine oG m T1 4 #[vI 4] [(.int ((4 : Int32) <<< ((1 : Int32) &&& 31)))] (fun _ k => st1 _ k) ?_
  rw [show ((4 : Int32) <<< ((1 : Int32) &&& 31)) = (8 : Int32) from by decide]
  obtain ⟨T2, h2, k2, X2, e2, E2, A2, st2⟩ := newP X1 hx hZ (oH hw 7 rfl) e1 (g := (mkF m 4 #[vI 4] [(.int 8)])) rfl (hb hby d27_4) rfl (by decide) (cap := 8) (by decide) (by decide) (by decide) (by decide)
  obtain ⟨b2, gz2⟩ : ∃ z, z = h0.size := ⟨_, rfl⟩
  rw [← gz2] at A2 st2
  have sz_b2 : h0.size ≤ b2 := Nat.le_trans K0.1 (Nat.le_of_eq gz2.symm)
  have c2_USS := SS.ext E2
  have K2 := K0.ext E2
  have g_b2 : n0 ≤ b2 := Nat.le_trans Z0 (Nat.le_of_eq gz2.symm)
  have V2 := Arv.new A2 (by decide)
  have Z2 : n0 ≤ h2.size := Nat.le_trans Z0 E2.1
  refine oG m T2 6 #[vI 4] [(.ref b2)] (fun _ k => st2 _ k) ?_
  have V3 : Arv Z h2 b2 k2 .byte (8 : Int32) [(.int 0), (.int 0), (.int 0), (.int 0), (.int 0), (.int 0), (.int 0), (.int 0)] (.int 0) := V2.pad (pad_rep [] (.int 0) 8)
  refine own_retA X2 hx hlk (rfl) rfl hrt (hb hby d27_6) (by decide) (by decide) ?_
  rw [e2]
  exact ⟨b2, k2, (by first | rfl | decide), N0, K2, sz_b2, V3⟩
theorem rmz91 (l : Launch) (Z : State) (a0 : Array Value) (hw : oW a0 Z) (ws : List Jvm.Cond) (ar0 : Addr) (kr0 : ClassId) (z0_0 : Int32) (z0_1 : Int32) (z0_2 : Int32) (z0_3 : Int32) (z0_4 : Int32) (z0_5 : Int32) (z0_6 : Int32) (z0_7 : Int32) (u8 : Addr) (zc : Int32) (fv : Value) (h0 : Heap) (n0 : Nat) (Z0 : n0 ≤ h0.size) (V_ar0 : Arv Z h0 ar0 kr0 .byte (8 : Int32) [(.int z0_0), (.int z0_1), (.int z0_2), (.int z0_3), (.int z0_4), (.int z0_5), (.int z0_6), (.int z0_7)] (.int 0)) (g_ar0 : n0 ≤ ar0)  (SS : own_Sx Z h0 u8 zc fv)  : own_K l (⟨"java/lang/StringUTF16", "length", "([B)I"⟩ : MethodName) jdk_52_method_6_code 1 (some .int) ws ({ frames := 0, cells := 0, slots := 0, locals := 0 } : Room) Z h0 #[(.ref ar0)] (own_QP h0 (some (.int 4))) := by
  refine own_met (plainFor_of_name pn_537) ?_
  intro p e s m below meth c s₁ hx hby hlk hml hown hnm hrt hZ hh X0 e0
  have N0 := Fr.nil n0
  refine oG m s₁ 0 #[vR ar0] [] (fun _ k => castTop (by first | (simp [entryFrame,mkF,argsToLocals,Value.category]; done) | rfl) k) ?_
  have K0 := Keep.refl h0 []
  refine oG m s₁ 1 #[vR ar0] [(.ref ar0)] (fun _ k => XS.aloadN X0.here hx rfl (hb hby d32_0) rfl rfl k) ?_
  obtain ⟨cl1, Ar1, -, S1, M1, -, -⟩ := id V_ar0
  have ql1 := len_of S1 M1
  refine own_go (S' := (s₁.setTop (mkF m 2 #[vR ar0] [(.int 8)]))) (fun _ kont => X0.arraylength hx (by rw [e0]; exact Ar1.1) (State.isArrayOf_alike hZ.alike Ar1.2.1) (g := (mkF m 1 #[vR ar0] [(.ref ar0)])) rfl rfl (hb hby d32_1) _ (by rw [ql1]; exact kont)) ?_
  refine oG m s₁ 4 #[vR ar0] [(.int ((8 : Int32) >>> ((1 : Int32) &&& 31)))] (fun _ k => XS.iconst X0.here hx rfl (hb hby d32_2) (XS.ishr X0.here hx rfl (hb hby d32_3) rfl k)) ?_
  rw [show ((8 : Int32) >>> ((1 : Int32) &&& 31)) = (4 : Int32) from by decide]
  refine own_retI X0 hx hlk hrt (hb hby d32_4) (by decide) (by decide) ?_
  exact ⟨by first | rfl | decide, e0, rfl⟩
theorem rmz92 (l : Launch) (Z : State) (a0 : Array Value) (hw : oW a0 Z) (ws : List Jvm.Cond) (ar2 : Addr) (kr2 : ClassId) (z2_0 : Int32) (z2_1 : Int32) (z2_2 : Int32) (z2_3 : Int32) (z2_4 : Int32) (z2_5 : Int32) (z2_6 : Int32) (z2_7 : Int32) (u8 : Addr) (zc : Int32) (fv : Value) (h0 : Heap) (n0 : Nat) (Z0 : n0 ≤ h0.size) (V_ar2 : Arv Z h0 ar2 kr2 .byte (8 : Int32) [(.int z2_0), (.int z2_1), (.int z2_2), (.int z2_3), (.int z2_4), (.int z2_5), (.int z2_6), (.int z2_7)] (.int 0)) (g_ar2 : n0 ≤ ar2)  (SS : own_Sx Z h0 u8 zc fv)  : own_K l (⟨"java/lang/StringUTF16", "checkBoundsOffCount", "(II[B)V"⟩ : MethodName) jdk_52_method_94_code 3 none ws ({ frames := 2, cells := 0, slots := 0, locals := 29 } : Room) Z h0 #[(.int 0), (.int 0), (.ref ar2)] (own_QP h0 (none)) := by
  refine own_met (plainFor_of_name pn_537) ?_
  intro p e s m below meth c s₁ hx hby hlk hml hown hnm hrt hZ hh X0 e0
  have N0 := Fr.nil n0
  refine oG m s₁ 0 #[vI 0,vI 0,vR ar2] [] (fun _ k => castTop (by first | (simp [entryFrame,mkF,argsToLocals,Value.category]; done) | rfl) k) ?_
  have K0 := Keep.refl h0 []
  refine oG m s₁ 3 #[vI 0,vI 0,vR ar2] [(.ref ar2),(.int 0),(.int 0)] (fun _ k => XS.iloadN X0.here hx rfl (hb hby d31_0) rfl (XS.iloadN X0.here hx rfl (hb hby d31_1) rfl (XS.aloadN X0.here hx rfl (hb hby d31_2) rfl rfl k))) ?_
  obtain ⟨T1, X1, e1, st1⟩ := own_cP X0 hx hZ hown (oH hw 167 rfl) (oH hw 168 rfl) (oH hw 152 rfl) (oH hw 169 rfl) (by decide) (rmz91 l Z a0 hw [] ar2 kr2 z2_0 z2_1 z2_2 z2_3 z2_4 z2_5 z2_6 z2_7 u8 zc fv h0 n0 Z0 V_ar2 g_ar2 SS) (W := 2) (by decide) (by decide) (g := (mkF m 3 #[vI 0, vI 0, vR ar2] [(.ref ar2), (.int 0), (.int 0)])) rfl (by rw [hml]; rfl) (argsL := [(.ref ar2)]) (rest := [(.int 0), (.int 0)]) (lenOf pd_566 rfl) rfl rfl rfl (hb hby d31_3) e0 rfl (by decide) (by decide) (by decide : 0 ≤ _) (by decide : 0 ≤ _)
  refine oG m T1 6 #[vI 0,vI 0,vR ar2] [(.int 4),(.int 0),(.int 0)] (fun _ k => st1 _ k) ?_
  obtain ⟨T2, X2, e2, st2⟩ := own_cP X1 hx hZ hown (oH hw 170 rfl) (oH hw 67 rfl) (oH hw 54 rfl) (oH hw 68 rfl) (by decide) (rmz10 l Z a0 hw [] (0 : Int32) (0 : Int32) (4 : Int32) u8 zc fv h0 n0 Z0  SS (by decide) (by decide)) (W := 0) (by decide) (by decide) (g := (mkF m 6 #[vI 0, vI 0, vR ar2] [(.int 4), (.int 0), (.int 0)])) rfl (by rw [hml]; rfl) (argsL := [(.int 0), (.int 0), (.int 4)]) (rest := []) (lenOf pd_209 rfl) rfl rfl rfl (hb hby d31_6) e1 rfl (by decide) (by decide) (by decide : 0 ≤ _) (by decide : 0 ≤ _)
  refine oG m T2 10 #[vI 0,vI 0,vR ar2] [] (fun _ k => st2 _ (XS.pop X2.here hx rfl (hb hby d31_9) rfl rfl k)) ?_
  refine own_ret0 X2 hx hlk hrt (hb hby d31_10) (by decide) (by decide) ?_
  exact ⟨by first | rfl | decide, e2, rfl⟩
theorem rmz93 (l : Launch) (Z : State) (a0 : Array Value) (hw : oW a0 Z) (ws : List Jvm.Cond) (ar0 : Addr) (kr0 : ClassId) (z0_0 : Int32) (z0_1 : Int32) (z0_2 : Int32) (z0_3 : Int32) (ar2 : Addr) (kr2 : ClassId) (z2_0 : Int32) (z2_1 : Int32) (z2_2 : Int32) (z2_3 : Int32) (z2_4 : Int32) (z2_5 : Int32) (z2_6 : Int32) (z2_7 : Int32) (u8 : Addr) (zc : Int32) (fv : Value) (h0 : Heap) (n0 : Nat) (Z0 : n0 ≤ h0.size) (V_ar0 : Arv Z h0 ar0 kr0 .byte (4 : Int32) [(.int z0_0), (.int z0_1), (.int z0_2), (.int z0_3)] (.int 0)) (g_ar0 : n0 ≤ ar0) (V_ar2 : Arv Z h0 ar2 kr2 .byte (8 : Int32) [(.int z2_0), (.int z2_1), (.int z2_2), (.int z2_3), (.int z2_4), (.int z2_5), (.int z2_6), (.int z2_7)] (.int 0)) (g_ar2 : n0 ≤ ar2) (ne_ar0_ar2 : ar0 ≠ ar2) (SS : own_Sx Z h0 u8 zc fv)  : own_K l (⟨"java/lang/StringUTF16", "inflate", "([BI[BII)V"⟩ : MethodName) jdk_52_method_86_code 6 none ws ({ frames := 3, cells := 0, slots := 0, locals := 43 } : Room) Z h0 #[(.ref ar0), (.int 0), (.ref ar2), (.int 0), (.int 0)] (own_QP h0 (none)) := by
  refine own_met (plainFor_of_name pn_537) ?_
  intro p e s m below meth c s₁ hx hby hlk hml hown hnm hrt hZ hh X0 e0
  have N0 := Fr.nil n0
  refine oG m s₁ 0 #[vR ar0,vI 0,vR ar2,vI 0,vI 0,oU] [] (fun _ k => castTop (by first | (simp [entryFrame,mkF,argsToLocals,Value.category]; done) | rfl) k) ?_
  have K0 := Keep.refl h0 []
  refine oG m s₁ 4 #[vR ar0,vI 0,vR ar2,vI 0,vI 0,oU] [(.ref ar2),(.int 0),(.int 0)] (fun _ k => XS.iloadN X0.here hx rfl (hb hby d30_0) rfl (XS.iload X0.here hx rfl (hb hby d30_1) rfl (XS.aloadN X0.here hx rfl (hb hby d30_3) rfl rfl k))) ?_
  obtain ⟨T1, X1, e1, st1⟩ := own_cP X0 hx hZ hown (oH hw 164 rfl) (oH hw 165 rfl) (oH hw 152 rfl) (oH hw 166 rfl) (by decide) (rmz92 l Z a0 hw [] ar2 kr2 z2_0 z2_1 z2_2 z2_3 z2_4 z2_5 z2_6 z2_7 u8 zc fv h0 n0 Z0 V_ar2 g_ar2 SS) (W := 0) (by decide) (by decide) (g := (mkF m 4 #[vR ar0, vI 0, vR ar2, vI 0, vI 0, oU] [(.ref ar2), (.int 0), (.int 0)])) rfl (by rw [hml]; rfl) (argsL := [(.int 0), (.int 0), (.ref ar2)]) (rest := []) (lenOf pd_571 rfl) rfl rfl rfl (hb hby d30_4) e0 rfl (by decide) (by decide) (by decide : 0 ≤ _) (by decide : 0 ≤ _)
  refine oG m T1 41 #[vR ar0,vI 0,vR ar2,vI 0,vI 0,vI 0] [] (fun _ k => st1 _ (XS.iconst X1.here hx rfl (hb hby d30_7) (XS.istore X1.here hx rfl (hb hby d30_8) rfl (l' := #[vR ar0,vI 0,vR ar2,vI 0,vI 0,vI 0]) rfl (XS.iload X1.here hx rfl (hb hby d30_10) rfl (XS.iload X1.here hx rfl (hb hby d30_12) rfl (XS.icmpYes X1.here hx rfl (pc0 := 14) (pc' := 41) rfl (hb hby d30_14) rfl (flt (by decide)).2.1 (by decide) (by decide) k)))))) ?_
  refine own_ret0 X1 hx hlk hrt (hb hby d30_41) (by decide) (by decide) ?_
  exact ⟨by first | rfl | decide, e1, rfl⟩
theorem rmz94 (l : Launch) (Z : State) (a0 : Array Value) (hw : oW a0 Z) (ws : List Jvm.Cond) (ar0 : Addr) (kr0 : ClassId) (z0_0 : Int32) (z0_1 : Int32) (z0_2 : Int32) (z0_3 : Int32) (ar2 : Addr) (kr2 : ClassId) (z2_0 : Int32) (z2_1 : Int32) (z2_2 : Int32) (z2_3 : Int32) (z2_4 : Int32) (z2_5 : Int32) (z2_6 : Int32) (z2_7 : Int32) (u8 : Addr) (zc : Int32) (fv : Value) (h0 : Heap) (n0 : Nat) (Z0 : n0 ≤ h0.size) (V_ar0 : Arv Z h0 ar0 kr0 .byte (4 : Int32) [(.int z0_0), (.int z0_1), (.int z0_2), (.int z0_3)] (.int 0)) (g_ar0 : n0 ≤ ar0) (V_ar2 : Arv Z h0 ar2 kr2 .byte (8 : Int32) [(.int z2_0), (.int z2_1), (.int z2_2), (.int z2_3), (.int z2_4), (.int z2_5), (.int z2_6), (.int z2_7)] (.int 0)) (g_ar2 : n0 ≤ ar2) (ne_ar0_ar2 : ar0 ≠ ar2) (SS : own_Sx Z h0 u8 zc fv)  : own_K l (⟨"java/lang/StringLatin1", "inflate", "([BI[BII)V"⟩ : MethodName) jdk_43_method_50_code 5 none ws ({ frames := 4, cells := 0, slots := 0, locals := 60 } : Room) Z h0 #[(.ref ar0), (.int 0), (.ref ar2), (.int 0), (.int 0)] (own_QP h0 (none)) := by
  refine own_met (plainFor_of_name pn_370) ?_
  intro p e s m below meth c s₁ hx hby hlk hml hown hnm hrt hZ hh X0 e0
  have N0 := Fr.nil n0
  refine oG m s₁ 0 #[vR ar0,vI 0,vR ar2,vI 0,vI 0] [] (fun _ k => castTop (by first | (simp [entryFrame,mkF,argsToLocals,Value.category]; done) | rfl) k) ?_
  have K0 := Keep.refl h0 []
  refine oG m s₁ 6 #[vR ar0,vI 0,vR ar2,vI 0,vI 0] [(.int 0),(.int 0),(.ref ar2),(.int 0),(.ref ar0)] (fun _ k => XS.aloadN X0.here hx rfl (hb hby d29_0) rfl rfl (XS.iloadN X0.here hx rfl (hb hby d29_1) rfl (XS.aloadN X0.here hx rfl (hb hby d29_2) rfl rfl (XS.iloadN X0.here hx rfl (hb hby d29_3) rfl (XS.iload X0.here hx rfl (hb hby d29_4) rfl k))))) ?_
  obtain ⟨T1, X1, e1, st1⟩ := own_cP X0 hx hZ hown (oH hw 161 rfl) (oH hw 162 rfl) (oH hw 152 rfl) (oH hw 163 rfl) (by decide) (rmz93 l Z a0 hw [] ar0 kr0 z0_0 z0_1 z0_2 z0_3 ar2 kr2 z2_0 z2_1 z2_2 z2_3 z2_4 z2_5 z2_6 z2_7 u8 zc fv h0 n0 Z0 V_ar0 g_ar0 V_ar2 g_ar2 ne_ar0_ar2 SS) (W := 0) (by decide) (by decide) (g := (mkF m 6 #[vR ar0, vI 0, vR ar2, vI 0, vI 0] [(.int 0), (.int 0), (.ref ar2), (.int 0), (.ref ar0)])) rfl (by rw [hml]; rfl) (argsL := [(.ref ar0), (.int 0), (.ref ar2), (.int 0), (.int 0)]) (rest := []) (lenOf pd_579 rfl) rfl rfl rfl (hb hby d29_6) e0 rfl (by decide) (by decide) (by decide : 0 ≤ _) (by decide : 0 ≤ _)
  refine oG m T1 9 #[vR ar0,vI 0,vR ar2,vI 0,vI 0] [] (fun _ k => st1 _ k) ?_
  refine own_ret0 X1 hx hlk hrt (hb hby d29_9) (by decide) (by decide) ?_
  exact ⟨by first | rfl | decide, e1, rfl⟩
def own_d4 (x0 x1 x2 x3 : Int32) : Int32 := ((((x0 <<< ((18 : Int32) &&& 31)) ^^^ (x1 <<< ((12 : Int32) &&& 31))) ^^^ (x2 <<< ((6 : Int32) &&& 31))) ^^^ (x3 ^^^ (3678080 : Int32)))
theorem d33_349 : decode C33 349 = .ok (.iload 6, 2) := by decide +kernel
theorem d33_351 : decode C33 351 = .ok (.iconst 3, 1) := by decide +kernel
theorem d33_352 : decode C33 352 = .ok (.ishr, 1) := by decide +kernel
theorem d33_353 : decode C33 353 = .ok (.bipush (-2), 2) := by decide +kernel
theorem d33_355 : decode C33 355 = .ok (.if_icmp .ne 240, 3) := by decide +kernel
theorem d33_358 : decode C33 358 = .ok (.iload_n 1, 1) := by decide +kernel
theorem d33_359 : decode C33 359 = .ok (.iconst 2, 1) := by decide +kernel
theorem d33_360 : decode C33 360 = .ok (.iadd, 1) := by decide +kernel
theorem d33_361 : decode C33 361 = .ok (.iload_n 2, 1) := by decide +kernel
theorem d33_362 : decode C33 362 = .ok (.if_icmp .ge 128, 3) := by decide +kernel
theorem d33_365 : decode C33 365 = .ok (.aload_n 0, 1) := by decide +kernel
theorem d33_366 : decode C33 366 = .ok (.iload_n 1, 1) := by decide +kernel
theorem d33_367 : decode C33 367 = .ok (.iinc 1 1, 3) := by decide +kernel
theorem d33_370 : decode C33 370 = .ok (.baload, 1) := by decide +kernel
theorem d33_371 : decode C33 371 = .ok (.istore 7, 2) := by decide +kernel
theorem d33_373 : decode C33 373 = .ok (.aload_n 0, 1) := by decide +kernel
theorem d33_374 : decode C33 374 = .ok (.iload_n 1, 1) := by decide +kernel
theorem d33_375 : decode C33 375 = .ok (.iinc 1 1, 3) := by decide +kernel
theorem d33_378 : decode C33 378 = .ok (.baload, 1) := by decide +kernel
theorem d33_379 : decode C33 379 = .ok (.istore 8, 2) := by decide +kernel
theorem d33_381 : decode C33 381 = .ok (.aload_n 0, 1) := by decide +kernel
theorem d33_382 : decode C33 382 = .ok (.iload_n 1, 1) := by decide +kernel
theorem d33_383 : decode C33 383 = .ok (.iinc 1 1, 3) := by decide +kernel
theorem d33_386 : decode C33 386 = .ok (.baload, 1) := by decide +kernel
theorem d33_387 : decode C33 387 = .ok (.istore 9, 2) := by decide +kernel
theorem d33_389 : decode C33 389 = .ok (.iload 6, 2) := by decide +kernel
theorem d33_391 : decode C33 391 = .ok (.iload 7, 2) := by decide +kernel
theorem d33_393 : decode C33 393 = .ok (.iload 8, 2) := by decide +kernel
theorem d33_395 : decode C33 395 = .ok (.iload 9, 2) := by decide +kernel
theorem d34_0 : decode C34 0 = .ok (.iload_n 0, 1) := by decide +kernel
theorem d34_1 : decode C34 1 = .ok (.bipush 18, 2) := by decide +kernel
theorem d34_3 : decode C34 3 = .ok (.ishl, 1) := by decide +kernel
theorem d34_4 : decode C34 4 = .ok (.iload_n 1, 1) := by decide +kernel
theorem d34_5 : decode C34 5 = .ok (.bipush 12, 2) := by decide +kernel
theorem d34_7 : decode C34 7 = .ok (.ishl, 1) := by decide +kernel
theorem d34_8 : decode C34 8 = .ok (.ixor, 1) := by decide +kernel
theorem d34_9 : decode C34 9 = .ok (.iload_n 2, 1) := by decide +kernel
theorem d34_10 : decode C34 10 = .ok (.bipush 6, 2) := by decide +kernel
theorem d34_12 : decode C34 12 = .ok (.ishl, 1) := by decide +kernel
theorem d34_13 : decode C34 13 = .ok (.ixor, 1) := by decide +kernel
theorem d34_14 : decode C34 14 = .ok (.iload_n 3, 1) := by decide +kernel
theorem d34_15 : decode C34 15 = .ok (.ldc_w 384, 3) := by decide +kernel
theorem d34_18 : decode C34 18 = .ok (.ixor, 1) := by decide +kernel
theorem d34_19 : decode C34 19 = .ok (.ixor, 1) := by decide +kernel
theorem d34_20 : decode C34 20 = .ok (.ireturn, 1) := by decide +kernel
theorem rmz95 (l : Launch) (Z : State) (a0 : Array Value) (hw : oW a0 Z) (ws : List Jvm.Cond) (x0 : Int32) (x1 : Int32) (x2 : Int32) (x3 : Int32) (u8 : Addr) (zc : Int32) (fv : Value) (h0 : Heap) (n0 : Nat) (Z0 : n0 ≤ h0.size)   (SS : own_Sx Z h0 u8 zc fv)  : own_K l (⟨"java/lang/String", "decode4", "(IIII)I"⟩ : MethodName) jdk_42_method_37_code 4 (some .int) ws ({ frames := 0, cells := 0, slots := 0, locals := 0 } : Room) Z h0 #[(.int x0), (.int x1), (.int x2), (.int x3)] (own_QP h0 (some (.int (own_d4 x0 x1 x2 x3)))) := by
  refine own_met (plainFor_of_name pn_22) ?_
  intro p e s m below meth c s₁ hx hby hlk hml hown hnm hrt hZ hh X0 e0
  have N0 := Fr.nil n0
  refine oG m s₁ 0 #[vI x0,vI x1,vI x2,vI x3] [] (fun _ k => castTop (by first | (simp [entryFrame,mkF,argsToLocals,Value.category]; done) | rfl) k) ?_
  have K0 := Keep.refl h0 []
  refine oG m s₁ 15 #[vI x0,vI x1,vI x2,vI x3] [(.int x3),(.int (((x0 <<< ((18 : Int32) &&& 31)) ^^^ (x1 <<< ((12 : Int32) &&& 31))) ^^^ (x2 <<< ((6 : Int32) &&& 31))))] (fun _ k => XS.iloadN X0.here hx rfl (hb hby d34_0) rfl (XS.bipush X0.here hx rfl (hb hby d34_1) (XS.ishl X0.here hx rfl (hb hby d34_3) rfl (XS.iloadN X0.here hx rfl (hb hby d34_4) rfl (XS.bipush X0.here hx rfl (hb hby d34_5) (XS.ishl X0.here hx rfl (hb hby d34_7) rfl (XS.ixor X0.here hx rfl (hb hby d34_8) rfl (XS.iloadN X0.here hx rfl (hb hby d34_9) rfl (XS.bipush X0.here hx rfl (hb hby d34_10) (XS.ishl X0.here hx rfl (hb hby d34_12) rfl (XS.ixor X0.here hx rfl (hb hby d34_13) rfl (XS.iloadN X0.here hx rfl (hb hby d34_14) rfl k)))))))))))) ?_
  refine oG m s₁ 20 #[vI x0,vI x1,vI x2,vI x3] [(.int ((((x0 <<< ((18 : Int32) &&& 31)) ^^^ (x1 <<< ((12 : Int32) &&& 31))) ^^^ (x2 <<< ((6 : Int32) &&& 31))) ^^^ (x3 ^^^ (3678080 : Int32))))] (fun _ k => (X0.ldcwInt hx hown (mvT hZ (oH hw 177 rfl)) (g := (mkF m 15 #[vI x0,vI x1,vI x2,vI x3] [(.int x3),(.int (((x0 <<< ((18 : Int32) &&& 31)) ^^^ (x1 <<< ((12 : Int32) &&& 31))) ^^^ (x2 <<< ((6 : Int32) &&& 31))))])) rfl (hb hby d34_15)) _ (XS.ixor X0.here hx rfl (hb hby d34_18) rfl (XS.ixor X0.here hx rfl (hb hby d34_19) rfl k))) ?_
  refine own_retI X0 hx hlk hrt (hb hby d34_20) (by decide) (by decide) ?_
  exact ⟨by first | rfl | decide, e0, rfl⟩
def own_hs (x0 : Int32) : Int32 := (nar .char ((((x0.toUInt32 >>> ((10 : Int32) &&& 31).toUInt32).toInt32) + (55232 : Int32)).toUInt32.toUInt16.toUInt32.toInt32))
theorem d33_397 : decode C33 397 = .ok (.invokestatic 411, 3) := by decide +kernel
theorem pd_832 : parseMethodDescriptor "(IIII)I" = some ⟨[.int, .int, .int, .int], some .int⟩ := by decide +kernel
theorem d33_400 : decode C33 400 = .ok (.istore 10, 2) := by decide +kernel
theorem d33_402 : decode C33 402 = .ok (.iload 7, 2) := by decide +kernel
theorem d33_404 : decode C33 404 = .ok (.iload 8, 2) := by decide +kernel
theorem d33_406 : decode C33 406 = .ok (.iload 9, 2) := by decide +kernel
theorem d33_408 : decode C33 408 = .ok (.invokestatic 415, 3) := by decide +kernel
theorem d33_411 : decode C33 411 = .ok (.ifCond .ne 11, 3) := by decide +kernel
theorem d33_414 : decode C33 414 = .ok (.iload 10, 2) := by decide +kernel
theorem d33_416 : decode C33 416 = .ok (.invokestatic 418, 3) := by decide +kernel
theorem d33_419 : decode C33 419 = .ok (.ifCond .ne 40, 3) := by decide +kernel
theorem d33_459 : decode C33 459 = .ok (.aload_n 3, 1) := by decide +kernel
theorem d33_460 : decode C33 460 = .ok (.iload 4, 2) := by decide +kernel
theorem d33_462 : decode C33 462 = .ok (.iinc 4 1, 3) := by decide +kernel
theorem d33_465 : decode C33 465 = .ok (.iload 10, 2) := by decide +kernel
theorem d37_0 : decode C37 0 = .ok (.iload_n 0, 1) := by decide +kernel
theorem d37_1 : decode C37 1 = .ok (.bipush 10, 2) := by decide +kernel
theorem d37_3 : decode C37 3 = .ok (.iushr, 1) := by decide +kernel
theorem d37_4 : decode C37 4 = .ok (.ldc 110, 2) := by decide +kernel
theorem d37_6 : decode C37 6 = .ok (.iadd, 1) := by decide +kernel
theorem d37_7 : decode C37 7 = .ok (.i2c, 1) := by decide +kernel
theorem d37_8 : decode C37 8 = .ok (.ireturn, 1) := by decide +kernel
theorem rmz96 (l : Launch) (Z : State) (a0 : Array Value) (hw : oW a0 Z) (ws : List Jvm.Cond) (x0 : Int32) (u8 : Addr) (zc : Int32) (fv : Value) (h0 : Heap) (n0 : Nat) (Z0 : n0 ≤ h0.size)   (SS : own_Sx Z h0 u8 zc fv)  : own_K l (⟨"java/lang/Character", "highSurrogate", "(I)C"⟩ : MethodName) jdk_89_method_28_code 1 (some .char) ws ({ frames := 0, cells := 0, slots := 0, locals := 0 } : Room) Z h0 #[(.int x0)] (own_QP h0 (some (.int (own_hs x0)))) := by
  refine own_met (plainFor_of_name pn_52) ?_
  intro p e s m below meth c s₁ hx hby hlk hml hown hnm hrt hZ hh X0 e0
  have N0 := Fr.nil n0
  refine oG m s₁ 0 #[vI x0] [] (fun _ k => castTop (by first | (simp [entryFrame,mkF,argsToLocals,Value.category]; done) | rfl) k) ?_
  have K0 := Keep.refl h0 []
  refine oG m s₁ 4 #[vI x0] [(.int ((x0.toUInt32 >>> ((10 : Int32) &&& 31).toUInt32).toInt32))] (fun _ k => XS.iloadN X0.here hx rfl (hb hby d37_0) rfl (XS.bipush X0.here hx rfl (hb hby d37_1) (XS.iushr X0.here hx rfl (hb hby d37_3) rfl k))) ?_
  refine oG m s₁ 8 #[vI x0] [(.int ((((x0.toUInt32 >>> ((10 : Int32) &&& 31).toUInt32).toInt32) + (55232 : Int32)).toUInt32.toUInt16.toUInt32.toInt32))] (fun _ k => (X0.ldcInt hx hown (mvT hZ (oH hw 190 rfl)) (g := (mkF m 4 #[vI x0] [(.int ((x0.toUInt32 >>> ((10 : Int32) &&& 31).toUInt32).toInt32))])) rfl (hb hby d37_4)) _ (XS.iadd X0.here hx rfl (hb hby d37_6) rfl (XS.i2c X0.here hx rfl (hb hby d37_7) rfl k))) ?_
  refine own_retN (t := .char) X0 hx hlk (by simp) hrt (hb hby d37_8) (by decide) (by decide) ?_
  exact ⟨by first | rfl | decide, e0, rfl⟩
theorem d33_467 : decode C33 467 = .ok (.invokestatic 424, 3) := by decide +kernel
def Q_rmz97 (Z : State) (ar0 : Addr) (kr0 : ClassId) (z0_0 : Int32) (z0_1 : Int32) (z0_2 : Int32) (z0_3 : Int32) (z0_4 : Int32) (z0_5 : Int32) (z0_6 : Int32) (z0_7 : Int32) (x2 : Int32) (u8 : Addr) (zc : Int32) (fv : Value) (h0 : Heap) (n0 : Nat) (v : Option Value) (h : Heap) (L : List Loc) : Prop := v = none ∧ Fr n0 L ∧ Keep h0 h [ar0] ∧ Arv Z h ar0 kr0 .byte (8 : Int32) [(.int (own_hi x2)), (.int (own_lo x2)), (.int z0_2), (.int z0_3), (.int z0_4), (.int z0_5), (.int z0_6), (.int z0_7)] (.int 0)
theorem rmz97 (l : Launch) (Z : State) (a0 : Array Value) (hw : oW a0 Z) (ws : List Jvm.Cond) (ar0 : Addr) (kr0 : ClassId) (z0_0 : Int32) (z0_1 : Int32) (z0_2 : Int32) (z0_3 : Int32) (z0_4 : Int32) (z0_5 : Int32) (z0_6 : Int32) (z0_7 : Int32) (x2 : Int32) (u8 : Addr) (zc : Int32) (fv : Value) (h0 : Heap) (n0 : Nat) (Z0 : n0 ≤ h0.size) (V_ar0 : Arv Z h0 ar0 kr0 .byte (8 : Int32) [(.int z0_0), (.int z0_1), (.int z0_2), (.int z0_3), (.int z0_4), (.int z0_5), (.int z0_6), (.int z0_7)] (.int 0)) (g_ar0 : n0 ≤ ar0)  (SS : own_Sx Z h0 u8 zc fv)  : own_K l (⟨"java/lang/StringUTF16", "putChar", "([BII)V"⟩ : MethodName) jdk_52_method_4_code 3 none ws ({ frames := 0, cells := 0, slots := 0, locals := 0 } : Room) Z h0 #[(.ref ar0), (.int 0), (.int x2)] (Q_rmz97 Z ar0 kr0 z0_0 z0_1 z0_2 z0_3 z0_4 z0_5 z0_6 z0_7 x2 u8 zc fv h0 n0) := by
  refine own_met (plainFor_of_name pn_537) ?_
  intro p e s m below meth c s₁ hx hby hlk hml hown hnm hrt hZ hh X0 e0
  have N0 := Fr.nil n0
  refine oG m s₁ 0 #[vR ar0,vI 0,vI x2] [] (fun _ k => castTop (by first | (simp [entryFrame,mkF,argsToLocals,Value.category]; done) | rfl) k) ?_
  have K0 := Keep.refl h0 [ar0]
  have Sg1 := SS.sA
  obtain ⟨T2, X2, e2, st2⟩ := getS2 X0 hx hZ hown (host := "") (Or.inl (oH hw 194 rfl)) Via.refl e0 Sg1 (g := (mkF m 0 #[vR ar0, vI 0, vI x2] [])) rfl (hb hby d38_0)
  refine oG m T2 31 #[vR ar0,vI 0,vI x2] [(.int ((0 : Int32) <<< ((1 : Int32) &&& 31)))] (fun _ k => st2 _ (XS.ifYes X2.here hx rfl (pc0 := 3) (pc' := 28) rfl (hb hby d38_3) rfl ((if0 _ _).trans (feq (by decide)).2) (by decide) (by decide) (XS.iloadN X2.here hx rfl (hb hby d38_28) rfl (XS.iconst X2.here hx rfl (hb hby d38_29) (XS.ishl X2.here hx rfl (hb hby d38_30) rfl k))))) ?_
  rw [show ((0 : Int32) <<< ((1 : Int32) &&& 31)) = (0 : Int32) from by decide]
  refine oG m T2 37 #[vR ar0,vI ((0 : Int32) + (1 : Int32)),vI x2] [(.int 0),(.ref ar0)] (fun _ k => XS.istoreN X2.here hx rfl (hb hby d38_31) rfl (l' := #[vR ar0,vI 0,vI x2]) rfl (XS.aloadN X2.here hx rfl (hb hby d38_32) rfl rfl (XS.iloadN X2.here hx rfl (hb hby d38_33) rfl (XS.iinc X2.here hx rfl (hb hby d38_34) rfl (l' := #[vR ar0,vI ((0 : Int32) + (1 : Int32)),vI x2]) rfl k)))) ?_
  rw [show ((0 : Int32) + (1 : Int32)) = (1 : Int32) from by decide]
  refine oG m T2 38 #[vR ar0,vI 1,vI x2] [(.int x2),(.int 0),(.ref ar0)] (fun _ k => XS.iloadN X2.here hx rfl (hb hby d38_37) rfl k) ?_
  have Sg3 := SS.sH
  obtain ⟨T4, X4, e4, st4⟩ := getS2 X2 hx hZ hown (host := "") (Or.inl (oH hw 195 rfl)) Via.refl e2 Sg3 (g := (mkF m 38 #[vR ar0, vI 1, vI x2] [(.int x2), (.int 0), (.ref ar0)])) rfl (hb hby d38_38)
  refine oG m T4 43 #[vR ar0,vI 1,vI x2] [(.int ((x2 >>> ((0 : Int32) &&& 31)).toInt8.toInt32)),(.int 0),(.ref ar0)] (fun _ k => st4 _ (XS.ishr X4.here hx rfl (hb hby d38_41) rfl (XS.i2b X4.here hx rfl (hb hby d38_42) rfl k))) ?_
  obtain ⟨cl5, Ar5, qc5, S5, M5, Ha5, Ga5⟩ := id V_ar0
  obtain ⟨T5, h5, X5, e5, W5, st5⟩ := stB X4 hx hZ e4 Ar5 (j := (0 : Int32)) (inb_of S5 ⟨by decide, by decide⟩) (g := (mkF m 43 #[vR ar0, vI 1, vI x2] [(.int ((x2 >>> ((0 : Int32) &&& 31)).toInt8.toInt32)), (.int 0), (.ref ar0)])) rfl rfl (hb hby d38_43)
  have c5_USS := SS.wr W5
  have V5 : Arv Z h5 ar0 kr0 .byte (8 : Int32) [(.int (nar .byte ((x2 >>> ((0 : Int32) &&& 31)).toInt8.toInt32))), (.int z0_1), (.int z0_2), (.int z0_3), (.int z0_4), (.int z0_5), (.int z0_6), (.int z0_7)] (.int 0) := Arv.set Ar5 qc5 S5 M5 Ha5 Ga5 (fits_nar_byte _) W5 0 (by decide) (Nat.le_of_ble_eq_true rfl)
  have K5 := K0.wr W5 (Or.inl (List.mem_of_getElem? (i := 0) rfl))
  have N5 := Fr.snoc X5 N0 g_ar0
  have Z5 : n0 ≤ h5.size := Nat.le_trans Z0 (Nat.le_of_eq W5.size.symm)
  refine oG m T5 47 #[vR ar0,vI 1,vI x2] [(.int x2),(.int 1),(.ref ar0)] (fun _ k => st5 _ (XS.aloadN X5.here hx rfl (hb hby d38_44) rfl rfl (XS.iloadN X5.here hx rfl (hb hby d38_45) rfl (XS.iloadN X5.here hx rfl (hb hby d38_46) rfl k)))) ?_
  have Sg6 := c5_USS.sL
  obtain ⟨T7, X7, e7, st7⟩ := getS2 X5 hx hZ hown (host := "") (Or.inl (oH hw 196 rfl)) Via.refl e5 Sg6 (g := (mkF m 47 #[vR ar0, vI 1, vI x2] [(.int x2), (.int 1), (.ref ar0)])) rfl (hb hby d38_47)
  refine oG m T7 52 #[vR ar0,vI 1,vI x2] [(.int ((x2 >>> ((8 : Int32) &&& 31)).toInt8.toInt32)),(.int 1),(.ref ar0)] (fun _ k => st7 _ (XS.ishr X7.here hx rfl (hb hby d38_50) rfl (XS.i2b X7.here hx rfl (hb hby d38_51) rfl k))) ?_
  obtain ⟨cl8, Ar8, qc8, S8, M8, Ha8, Ga8⟩ := id V5
  obtain ⟨T8, h8, X8, e8, W8, st8⟩ := stB X7 hx hZ e7 Ar8 (j := (1 : Int32)) (inb_of S8 ⟨by decide, by decide⟩) (g := (mkF m 52 #[vR ar0, vI 1, vI x2] [(.int ((x2 >>> ((8 : Int32) &&& 31)).toInt8.toInt32)), (.int 1), (.ref ar0)])) rfl rfl (hb hby d38_52)
  have c8_USS := c5_USS.wr W8
  have V8 : Arv Z h8 ar0 kr0 .byte (8 : Int32) [(.int (nar .byte ((x2 >>> ((0 : Int32) &&& 31)).toInt8.toInt32))), (.int (nar .byte ((x2 >>> ((8 : Int32) &&& 31)).toInt8.toInt32))), (.int z0_2), (.int z0_3), (.int z0_4), (.int z0_5), (.int z0_6), (.int z0_7)] (.int 0) := Arv.set Ar8 qc8 S8 M8 Ha8 Ga8 (fits_nar_byte _) W8 1 (by decide) (Nat.le_of_ble_eq_true rfl)
  have K8 := K5.wr W8 (Or.inl (List.mem_of_getElem? (i := 0) rfl))
  have N8 := Fr.snoc X8 N5 g_ar0
  have Z8 : n0 ≤ h8.size := Nat.le_trans Z5 (Nat.le_of_eq W8.size.symm)
  refine oG m T8 53 #[vR ar0,vI 1,vI x2] [] (fun _ k => st8 _ k) ?_
  refine own_ret0 X8 hx hlk hrt (hb hby d38_53) (by decide) (by decide) ?_
  rw [e8]
  exact ⟨(by first | rfl | decide), N8, K8, V8⟩
def own_ls (x0 : Int32) : Int32 := (nar .char (((x0 &&& (1023 : Int32)) + (56320 : Int32)).toUInt32.toUInt16.toUInt32.toInt32))
theorem d33_470 : decode C33 470 = .ok (.invokestatic 64, 3) := by decide +kernel
theorem d33_473 : decode C33 473 = .ok (.aload_n 3, 1) := by decide +kernel
theorem d33_474 : decode C33 474 = .ok (.iload 4, 2) := by decide +kernel
theorem d33_476 : decode C33 476 = .ok (.iinc 4 1, 3) := by decide +kernel
theorem d33_479 : decode C33 479 = .ok (.iload 10, 2) := by decide +kernel
theorem d39_0 : decode C39 0 = .ok (.iload_n 0, 1) := by decide +kernel
theorem d39_1 : decode C39 1 = .ok (.sipush 1023, 3) := by decide +kernel
theorem d39_4 : decode C39 4 = .ok (.iand, 1) := by decide +kernel
theorem d39_5 : decode C39 5 = .ok (.ldc 76, 2) := by decide +kernel
theorem d39_7 : decode C39 7 = .ok (.iadd, 1) := by decide +kernel
theorem d39_8 : decode C39 8 = .ok (.i2c, 1) := by decide +kernel
theorem d39_9 : decode C39 9 = .ok (.ireturn, 1) := by decide +kernel
theorem rmz98 (l : Launch) (Z : State) (a0 : Array Value) (hw : oW a0 Z) (ws : List Jvm.Cond) (x0 : Int32) (u8 : Addr) (zc : Int32) (fv : Value) (h0 : Heap) (n0 : Nat) (Z0 : n0 ≤ h0.size)   (SS : own_Sx Z h0 u8 zc fv)  : own_K l (⟨"java/lang/Character", "lowSurrogate", "(I)C"⟩ : MethodName) jdk_89_method_29_code 1 (some .char) ws ({ frames := 0, cells := 0, slots := 0, locals := 0 } : Room) Z h0 #[(.int x0)] (own_QP h0 (some (.int (own_ls x0)))) := by
  refine own_met (plainFor_of_name pn_52) ?_
  intro p e s m below meth c s₁ hx hby hlk hml hown hnm hrt hZ hh X0 e0
  have N0 := Fr.nil n0
  refine oG m s₁ 0 #[vI x0] [] (fun _ k => castTop (by first | (simp [entryFrame,mkF,argsToLocals,Value.category]; done) | rfl) k) ?_
  have K0 := Keep.refl h0 []
  refine oG m s₁ 5 #[vI x0] [(.int (x0 &&& (1023 : Int32)))] (fun _ k => XS.iloadN X0.here hx rfl (hb hby d39_0) rfl (XS.sipush X0.here hx rfl (hb hby d39_1) (XS.iand X0.here hx rfl (hb hby d39_4) rfl k))) ?_
  refine oG m s₁ 9 #[vI x0] [(.int (((x0 &&& (1023 : Int32)) + (56320 : Int32)).toUInt32.toUInt16.toUInt32.toInt32))] (fun _ k => (X0.ldcInt hx hown (mvT hZ (oH hw 200 rfl)) (g := (mkF m 5 #[vI x0] [(.int (x0 &&& (1023 : Int32)))])) rfl (hb hby d39_5)) _ (XS.iadd X0.here hx rfl (hb hby d39_7) rfl (XS.i2c X0.here hx rfl (hb hby d39_8) rfl k))) ?_
  refine own_retN (t := .char) X0 hx hlk (by simp) hrt (hb hby d39_9) (by decide) (by decide) ?_
  exact ⟨by first | rfl | decide, e0, rfl⟩
theorem d33_481 : decode C33 481 = .ok (.invokestatic 428, 3) := by decide +kernel
def Q_rmz99 (Z : State) (ar0 : Addr) (kr0 : ClassId) (z0_0 : Int32) (z0_1 : Int32) (z0_2 : Int32) (z0_3 : Int32) (z0_4 : Int32) (z0_5 : Int32) (z0_6 : Int32) (z0_7 : Int32) (x2 : Int32) (u8 : Addr) (zc : Int32) (fv : Value) (h0 : Heap) (n0 : Nat) (v : Option Value) (h : Heap) (L : List Loc) : Prop := v = none ∧ Fr n0 L ∧ Keep h0 h [ar0] ∧ Arv Z h ar0 kr0 .byte (8 : Int32) [(.int z0_0), (.int z0_1), (.int (own_hi x2)), (.int (own_lo x2)), (.int z0_4), (.int z0_5), (.int z0_6), (.int z0_7)] (.int 0)
theorem rmz99 (l : Launch) (Z : State) (a0 : Array Value) (hw : oW a0 Z) (ws : List Jvm.Cond) (ar0 : Addr) (kr0 : ClassId) (z0_0 : Int32) (z0_1 : Int32) (z0_2 : Int32) (z0_3 : Int32) (z0_4 : Int32) (z0_5 : Int32) (z0_6 : Int32) (z0_7 : Int32) (x2 : Int32) (u8 : Addr) (zc : Int32) (fv : Value) (h0 : Heap) (n0 : Nat) (Z0 : n0 ≤ h0.size) (V_ar0 : Arv Z h0 ar0 kr0 .byte (8 : Int32) [(.int z0_0), (.int z0_1), (.int z0_2), (.int z0_3), (.int z0_4), (.int z0_5), (.int z0_6), (.int z0_7)] (.int 0)) (g_ar0 : n0 ≤ ar0)  (SS : own_Sx Z h0 u8 zc fv)  : own_K l (⟨"java/lang/StringUTF16", "putChar", "([BII)V"⟩ : MethodName) jdk_52_method_4_code 3 none ws ({ frames := 0, cells := 0, slots := 0, locals := 0 } : Room) Z h0 #[(.ref ar0), (.int 1), (.int x2)] (Q_rmz99 Z ar0 kr0 z0_0 z0_1 z0_2 z0_3 z0_4 z0_5 z0_6 z0_7 x2 u8 zc fv h0 n0) := by
  refine own_met (plainFor_of_name pn_537) ?_
  intro p e s m below meth c s₁ hx hby hlk hml hown hnm hrt hZ hh X0 e0
  have N0 := Fr.nil n0
  refine oG m s₁ 0 #[vR ar0,vI 1,vI x2] [] (fun _ k => castTop (by first | (simp [entryFrame,mkF,argsToLocals,Value.category]; done) | rfl) k) ?_
  have K0 := Keep.refl h0 [ar0]
  have Sg1 := SS.sA
  obtain ⟨T2, X2, e2, st2⟩ := getS2 X0 hx hZ hown (host := "") (Or.inl (oH hw 194 rfl)) Via.refl e0 Sg1 (g := (mkF m 0 #[vR ar0, vI 1, vI x2] [])) rfl (hb hby d38_0)
  refine oG m T2 31 #[vR ar0,vI 1,vI x2] [(.int ((1 : Int32) <<< ((1 : Int32) &&& 31)))] (fun _ k => st2 _ (XS.ifYes X2.here hx rfl (pc0 := 3) (pc' := 28) rfl (hb hby d38_3) rfl ((if0 _ _).trans (feq (by decide)).2) (by decide) (by decide) (XS.iloadN X2.here hx rfl (hb hby d38_28) rfl (XS.iconst X2.here hx rfl (hb hby d38_29) (XS.ishl X2.here hx rfl (hb hby d38_30) rfl k))))) ?_
  rw [show ((1 : Int32) <<< ((1 : Int32) &&& 31)) = (2 : Int32) from by decide]
  refine oG m T2 37 #[vR ar0,vI ((2 : Int32) + (1 : Int32)),vI x2] [(.int 2),(.ref ar0)] (fun _ k => XS.istoreN X2.here hx rfl (hb hby d38_31) rfl (l' := #[vR ar0,vI 2,vI x2]) rfl (XS.aloadN X2.here hx rfl (hb hby d38_32) rfl rfl (XS.iloadN X2.here hx rfl (hb hby d38_33) rfl (XS.iinc X2.here hx rfl (hb hby d38_34) rfl (l' := #[vR ar0,vI ((2 : Int32) + (1 : Int32)),vI x2]) rfl k)))) ?_
  rw [show ((2 : Int32) + (1 : Int32)) = (3 : Int32) from by decide]
  refine oG m T2 38 #[vR ar0,vI 3,vI x2] [(.int x2),(.int 2),(.ref ar0)] (fun _ k => XS.iloadN X2.here hx rfl (hb hby d38_37) rfl k) ?_
  have Sg3 := SS.sH
  obtain ⟨T4, X4, e4, st4⟩ := getS2 X2 hx hZ hown (host := "") (Or.inl (oH hw 195 rfl)) Via.refl e2 Sg3 (g := (mkF m 38 #[vR ar0, vI 3, vI x2] [(.int x2), (.int 2), (.ref ar0)])) rfl (hb hby d38_38)
  refine oG m T4 43 #[vR ar0,vI 3,vI x2] [(.int ((x2 >>> ((0 : Int32) &&& 31)).toInt8.toInt32)),(.int 2),(.ref ar0)] (fun _ k => st4 _ (XS.ishr X4.here hx rfl (hb hby d38_41) rfl (XS.i2b X4.here hx rfl (hb hby d38_42) rfl k))) ?_
  obtain ⟨cl5, Ar5, qc5, S5, M5, Ha5, Ga5⟩ := id V_ar0
  obtain ⟨T5, h5, X5, e5, W5, st5⟩ := stB X4 hx hZ e4 Ar5 (j := (2 : Int32)) (inb_of S5 ⟨by decide, by decide⟩) (g := (mkF m 43 #[vR ar0, vI 3, vI x2] [(.int ((x2 >>> ((0 : Int32) &&& 31)).toInt8.toInt32)), (.int 2), (.ref ar0)])) rfl rfl (hb hby d38_43)
  have c5_USS := SS.wr W5
  have V5 : Arv Z h5 ar0 kr0 .byte (8 : Int32) [(.int z0_0), (.int z0_1), (.int (nar .byte ((x2 >>> ((0 : Int32) &&& 31)).toInt8.toInt32))), (.int z0_3), (.int z0_4), (.int z0_5), (.int z0_6), (.int z0_7)] (.int 0) := Arv.set Ar5 qc5 S5 M5 Ha5 Ga5 (fits_nar_byte _) W5 2 (by decide) (Nat.le_of_ble_eq_true rfl)
  have K5 := K0.wr W5 (Or.inl (List.mem_of_getElem? (i := 0) rfl))
  have N5 := Fr.snoc X5 N0 g_ar0
  have Z5 : n0 ≤ h5.size := Nat.le_trans Z0 (Nat.le_of_eq W5.size.symm)
  refine oG m T5 47 #[vR ar0,vI 3,vI x2] [(.int x2),(.int 3),(.ref ar0)] (fun _ k => st5 _ (XS.aloadN X5.here hx rfl (hb hby d38_44) rfl rfl (XS.iloadN X5.here hx rfl (hb hby d38_45) rfl (XS.iloadN X5.here hx rfl (hb hby d38_46) rfl k)))) ?_
  have Sg6 := c5_USS.sL
  obtain ⟨T7, X7, e7, st7⟩ := getS2 X5 hx hZ hown (host := "") (Or.inl (oH hw 196 rfl)) Via.refl e5 Sg6 (g := (mkF m 47 #[vR ar0, vI 3, vI x2] [(.int x2), (.int 3), (.ref ar0)])) rfl (hb hby d38_47)
  refine oG m T7 52 #[vR ar0,vI 3,vI x2] [(.int ((x2 >>> ((8 : Int32) &&& 31)).toInt8.toInt32)),(.int 3),(.ref ar0)] (fun _ k => st7 _ (XS.ishr X7.here hx rfl (hb hby d38_50) rfl (XS.i2b X7.here hx rfl (hb hby d38_51) rfl k))) ?_
  obtain ⟨cl8, Ar8, qc8, S8, M8, Ha8, Ga8⟩ := id V5
  obtain ⟨T8, h8, X8, e8, W8, st8⟩ := stB X7 hx hZ e7 Ar8 (j := (3 : Int32)) (inb_of S8 ⟨by decide, by decide⟩) (g := (mkF m 52 #[vR ar0, vI 3, vI x2] [(.int ((x2 >>> ((8 : Int32) &&& 31)).toInt8.toInt32)), (.int 3), (.ref ar0)])) rfl rfl (hb hby d38_52)
  have c8_USS := c5_USS.wr W8
  have V8 : Arv Z h8 ar0 kr0 .byte (8 : Int32) [(.int z0_0), (.int z0_1), (.int (nar .byte ((x2 >>> ((0 : Int32) &&& 31)).toInt8.toInt32))), (.int (nar .byte ((x2 >>> ((8 : Int32) &&& 31)).toInt8.toInt32))), (.int z0_4), (.int z0_5), (.int z0_6), (.int z0_7)] (.int 0) := Arv.set Ar8 qc8 S8 M8 Ha8 Ga8 (fits_nar_byte _) W8 3 (by decide) (Nat.le_of_ble_eq_true rfl)
  have K8 := K5.wr W8 (Or.inl (List.mem_of_getElem? (i := 0) rfl))
  have N8 := Fr.snoc X8 N5 g_ar0
  have Z8 : n0 ≤ h8.size := Nat.le_trans Z5 (Nat.le_of_eq W8.size.symm)
  refine oG m T8 53 #[vR ar0,vI 3,vI x2] [] (fun _ k => st8 _ k) ?_
  refine own_ret0 X8 hx hlk hrt (hb hby d38_53) (by decide) (by decide) ?_
  rw [e8]
  exact ⟨(by first | rfl | decide), N8, K8, V8⟩
theorem d33_484 : decode C33 484 = .ok (.invokestatic 64, 3) := by decide +kernel
theorem d33_487 : decode C33 487 = .ok (.goto (-487), 3) := by decide +kernel
def Q_rmz100 (Z : State) (ar0 : Addr) (kr0 : ClassId) (z0_0 : Int32) (z0_1 : Int32) (z0_2 : Int32) (z0_3 : Int32) (ar3 : Addr) (kr3 : ClassId) (z3_0 : Int32) (z3_1 : Int32) (z3_2 : Int32) (z3_3 : Int32) (z3_4 : Int32) (z3_5 : Int32) (z3_6 : Int32) (z3_7 : Int32) (u8 : Addr) (zc : Int32) (fv : Value) (h0 : Heap) (n0 : Nat) (v : Option Value) (h : Heap) (L : List Loc) : Prop := v = some (.int 2) ∧ Fr n0 L ∧ Keep h0 h [ar3] ∧ Arv Z h ar3 kr3 .byte (8 : Int32) [(.int (own_hi (own_hs (own_d4 z0_0 z0_1 z0_2 z0_3)))), (.int (own_lo (own_hs (own_d4 z0_0 z0_1 z0_2 z0_3)))), (.int (own_hi (own_ls (own_d4 z0_0 z0_1 z0_2 z0_3)))), (.int (own_lo (own_ls (own_d4 z0_0 z0_1 z0_2 z0_3)))), (.int z3_4), (.int z3_5), (.int z3_6), (.int z3_7)] (.int 0)
theorem rmz100 (l : Launch) (Z : State) (a0 : Array Value) (hw : oW a0 Z) (ws : List Jvm.Cond) (ar0 : Addr) (kr0 : ClassId) (z0_0 : Int32) (z0_1 : Int32) (z0_2 : Int32) (z0_3 : Int32) (ar3 : Addr) (kr3 : ClassId) (z3_0 : Int32) (z3_1 : Int32) (z3_2 : Int32) (z3_3 : Int32) (z3_4 : Int32) (z3_5 : Int32) (z3_6 : Int32) (z3_7 : Int32) (u8 : Addr) (zc : Int32) (fv : Value) (h0 : Heap) (n0 : Nat) (Z0 : n0 ≤ h0.size) (V_ar0 : Arv Z h0 ar0 kr0 .byte (4 : Int32) [(.int z0_0), (.int z0_1), (.int z0_2), (.int z0_3)] (.int 0)) (g_ar0 : n0 ≤ ar0) (V_ar3 : Arv Z h0 ar3 kr3 .byte (8 : Int32) [(.int z3_0), (.int z3_1), (.int z3_2), (.int z3_3), (.int z3_4), (.int z3_5), (.int z3_6), (.int z3_7)] (.int 0)) (g_ar3 : n0 ≤ ar3) (ne_ar0_ar3 : ar0 ≠ ar3) (SS : own_Sx Z h0 u8 zc fv) (hq0 : z0_0 < (0 : Int32)) (hq1 : ¬ (z0_0 >>> ((5 : Int32) &&& 31)) = (-2 : Int32)) (hq2 : ¬ (z0_0 >>> ((4 : Int32) &&& 31)) = (-2 : Int32)) (hq3 : (z0_0 >>> ((3 : Int32) &&& 31)) = (-2 : Int32)) (hq4 : (own_im4_0 z0_1 z0_2 z0_3) = (0 : Int32)) (hq5 : ¬ (own_sup_0 (own_d4 z0_0 z0_1 z0_2 z0_3)) = (0 : Int32)) : own_K l (⟨"java/lang/String", "decodeUTF8_UTF16", "([BII[BIZ)I"⟩ : MethodName) jdk_42_method_38_code 11 (some .int) ws ({ frames := 1, cells := 0, slots := 0, locals := 15 } : Room) Z h0 #[(.ref ar0), (.int 0), (.int 4), (.ref ar3), (.int 0), (.int 1)] (Q_rmz100 Z ar0 kr0 z0_0 z0_1 z0_2 z0_3 ar3 kr3 z3_0 z3_1 z3_2 z3_3 z3_4 z3_5 z3_6 z3_7 u8 zc fv h0 n0) := by
  refine own_met (plainFor_of_name pn_22) ?_
  intro p e s m below meth c s₁ hx hby hlk hml hown hnm hrt hZ hh X0 e0
  have N0 := Fr.nil n0
  refine oG m s₁ 0 #[vR ar0,vI 0,vI 4,vR ar3,vI 0,vI 1,oU,oU,oU,oU,oU] [] (fun _ k => castTop (by first | (simp [entryFrame,mkF,argsToLocals,Value.category]; done) | rfl) k) ?_
  have K0 := Keep.refl h0 [ar3]
  refine oG m s₁ 10 #[vR ar0,vI ((0 : Int32) + (1 : Int32)),vI 4,vR ar3,vI 0,vI 1,oU,oU,oU,oU,oU] [(.int 0),(.ref ar0)] (fun _ k => XS.iloadN X0.here hx rfl (hb hby d33_0) rfl (XS.iloadN X0.here hx rfl (hb hby d33_1) rfl (XS.icmpNo X0.here hx rfl (hb hby d33_2) rfl (tlt (by decide)).2.1 (XS.aloadN X0.here hx rfl (hb hby d33_5) rfl rfl (XS.iloadN X0.here hx rfl (hb hby d33_6) rfl (XS.iinc X0.here hx rfl (hb hby d33_7) rfl (l' := #[vR ar0,vI ((0 : Int32) + (1 : Int32)),vI 4,vR ar3,vI 0,vI 1,oU,oU,oU,oU,oU]) rfl k)))))) ?_
  rw [show ((0 : Int32) + (1 : Int32)) = (1 : Int32) from by decide]
  obtain ⟨cl1, Ar1, -, S1, -, H1, -⟩ := id V_ar0
  have hin1 := inb_of (j := (0 : Int32)) S1 ⟨by decide, by decide⟩
  have hat1 := Has.at (v := (.int z0_0)) H1 hin1 (by first | rfl | decide)
  refine own_go (S' := (s₁.setTop (mkF m 11 #[vR ar0, vI 1, vI 4, vR ar3, vI 0, vI 1, oU, oU, oU, oU, oU] [(.int z0_0)]))) (fun _ kont => X0.baloadBytes hx (j := (0 : Int32)) (v := (.int z0_0)) (by rw [e0]; exact Ar1.1) (State.isArrayOf_alike hZ.alike Ar1.2.1) Ar1.2.2 hin1 hat1 (g := (mkF m 10 #[vR ar0, vI 1, vI 4, vR ar3, vI 0, vI 1, oU, oU, oU, oU, oU] [(.int 0), (.ref ar0)])) rfl rfl (hb hby d33_10) _ kont) ?_
  refine oG m s₁ 360 #[vR ar0,vI 1,vI 4,vR ar3,vI 0,vI 1,vI z0_0,oU,oU,oU,oU] [(.int 2),(.int 1)] (fun _ k => XS.istore X0.here hx rfl (hb hby d33_11) rfl (l' := #[vR ar0,vI 1,vI 4,vR ar3,vI 0,vI 1,vI z0_0,oU,oU,oU,oU]) rfl (XS.iload X0.here hx rfl (hb hby d33_13) rfl (XS.ifYes X0.here hx rfl (pc0 := 15) (pc' := 33) rfl (hb hby d33_15) rfl ((if0 _ _).trans (tlt hq0).1) (by decide) (by decide) (XS.iload X0.here hx rfl (hb hby d33_33) rfl (XS.iconst X0.here hx rfl (hb hby d33_35) (XS.ishr X0.here hx rfl (hb hby d33_36) rfl (XS.bipush X0.here hx rfl (hb hby d33_37) (XS.icmpYes X0.here hx rfl (pc0 := 39) (pc' := 143) rfl (hb hby d33_39) rfl (feq hq1).2 (by decide) (by decide) (XS.iload X0.here hx rfl (hb hby d33_143) rfl (XS.iconst X0.here hx rfl (hb hby d33_145) (XS.ishr X0.here hx rfl (hb hby d33_146) rfl (XS.bipush X0.here hx rfl (hb hby d33_147) (XS.icmpYes X0.here hx rfl (pc0 := 149) (pc' := 349) rfl (hb hby d33_149) rfl (feq hq2).2 (by decide) (by decide) (XS.iload X0.here hx rfl (hb hby d33_349) rfl (XS.iconst X0.here hx rfl (hb hby d33_351) (XS.ishr X0.here hx rfl (hb hby d33_352) rfl (XS.bipush X0.here hx rfl (hb hby d33_353) (XS.icmpNo X0.here hx rfl (hb hby d33_355) rfl (teq hq3).2 (XS.iloadN X0.here hx rfl (hb hby d33_358) rfl (XS.iconst X0.here hx rfl (hb hby d33_359) k)))))))))))))))))))) ?_
  refine oG m s₁ 361 #[vR ar0,vI 1,vI 4,vR ar3,vI 0,vI 1,vI z0_0,oU,oU,oU,oU] [(.int ((1 : Int32) + (2 : Int32)))] (fun _ k => XS.iadd X0.here hx rfl (hb hby d33_360) rfl k) ?_
  rw [show ((1 : Int32) + (2 : Int32)) = (3 : Int32) from by decide]
  refine oG m s₁ 370 #[vR ar0,vI ((1 : Int32) + (1 : Int32)),vI 4,vR ar3,vI 0,vI 1,vI z0_0,oU,oU,oU,oU] [(.int 1),(.ref ar0)] (fun _ k => XS.iloadN X0.here hx rfl (hb hby d33_361) rfl (XS.icmpNo X0.here hx rfl (hb hby d33_362) rfl (tlt (by decide)).2.1 (XS.aloadN X0.here hx rfl (hb hby d33_365) rfl rfl (XS.iloadN X0.here hx rfl (hb hby d33_366) rfl (XS.iinc X0.here hx rfl (hb hby d33_367) rfl (l' := #[vR ar0,vI ((1 : Int32) + (1 : Int32)),vI 4,vR ar3,vI 0,vI 1,vI z0_0,oU,oU,oU,oU]) rfl k))))) ?_
  rw [show ((1 : Int32) + (1 : Int32)) = (2 : Int32) from by decide]
  obtain ⟨cl2, Ar2, -, S2, -, H2, -⟩ := id V_ar0
  have hin2 := inb_of (j := (1 : Int32)) S2 ⟨by decide, by decide⟩
  have hat2 := Has.at (v := (.int z0_1)) H2 hin2 (by first | rfl | decide)
  refine own_go (S' := (s₁.setTop (mkF m 371 #[vR ar0, vI 2, vI 4, vR ar3, vI 0, vI 1, vI z0_0, oU, oU, oU, oU] [(.int z0_1)]))) (fun _ kont => X0.baloadBytes hx (j := (1 : Int32)) (v := (.int z0_1)) (by rw [e0]; exact Ar2.1) (State.isArrayOf_alike hZ.alike Ar2.2.1) Ar2.2.2 hin2 hat2 (g := (mkF m 370 #[vR ar0, vI 2, vI 4, vR ar3, vI 0, vI 1, vI z0_0, oU, oU, oU, oU] [(.int 1), (.ref ar0)])) rfl rfl (hb hby d33_370) _ kont) ?_
  refine oG m s₁ 378 #[vR ar0,vI ((2 : Int32) + (1 : Int32)),vI 4,vR ar3,vI 0,vI 1,vI z0_0,vI z0_1,oU,oU,oU] [(.int 2),(.ref ar0)] (fun _ k => XS.istore X0.here hx rfl (hb hby d33_371) rfl (l' := #[vR ar0,vI 2,vI 4,vR ar3,vI 0,vI 1,vI z0_0,vI z0_1,oU,oU,oU]) rfl (XS.aloadN X0.here hx rfl (hb hby d33_373) rfl rfl (XS.iloadN X0.here hx rfl (hb hby d33_374) rfl (XS.iinc X0.here hx rfl (hb hby d33_375) rfl (l' := #[vR ar0,vI ((2 : Int32) + (1 : Int32)),vI 4,vR ar3,vI 0,vI 1,vI z0_0,vI z0_1,oU,oU,oU]) rfl k)))) ?_
  rw [show ((2 : Int32) + (1 : Int32)) = (3 : Int32) from by decide]
  obtain ⟨cl3, Ar3, -, S3, -, H3, -⟩ := id V_ar0
  have hin3 := inb_of (j := (2 : Int32)) S3 ⟨by decide, by decide⟩
  have hat3 := Has.at (v := (.int z0_2)) H3 hin3 (by first | rfl | decide)
  refine own_go (S' := (s₁.setTop (mkF m 379 #[vR ar0, vI 3, vI 4, vR ar3, vI 0, vI 1, vI z0_0, vI z0_1, oU, oU, oU] [(.int z0_2)]))) (fun _ kont => X0.baloadBytes hx (j := (2 : Int32)) (v := (.int z0_2)) (by rw [e0]; exact Ar3.1) (State.isArrayOf_alike hZ.alike Ar3.2.1) Ar3.2.2 hin3 hat3 (g := (mkF m 378 #[vR ar0, vI 3, vI 4, vR ar3, vI 0, vI 1, vI z0_0, vI z0_1, oU, oU, oU] [(.int 2), (.ref ar0)])) rfl rfl (hb hby d33_378) _ kont) ?_
  refine oG m s₁ 386 #[vR ar0,vI ((3 : Int32) + (1 : Int32)),vI 4,vR ar3,vI 0,vI 1,vI z0_0,vI z0_1,vI z0_2,oU,oU] [(.int 3),(.ref ar0)] (fun _ k => XS.istore X0.here hx rfl (hb hby d33_379) rfl (l' := #[vR ar0,vI 3,vI 4,vR ar3,vI 0,vI 1,vI z0_0,vI z0_1,vI z0_2,oU,oU]) rfl (XS.aloadN X0.here hx rfl (hb hby d33_381) rfl rfl (XS.iloadN X0.here hx rfl (hb hby d33_382) rfl (XS.iinc X0.here hx rfl (hb hby d33_383) rfl (l' := #[vR ar0,vI ((3 : Int32) + (1 : Int32)),vI 4,vR ar3,vI 0,vI 1,vI z0_0,vI z0_1,vI z0_2,oU,oU]) rfl k)))) ?_
  rw [show ((3 : Int32) + (1 : Int32)) = (4 : Int32) from by decide]
  obtain ⟨cl4, Ar4, -, S4, -, H4, -⟩ := id V_ar0
  have hin4 := inb_of (j := (3 : Int32)) S4 ⟨by decide, by decide⟩
  have hat4 := Has.at (v := (.int z0_3)) H4 hin4 (by first | rfl | decide)
  refine own_go (S' := (s₁.setTop (mkF m 387 #[vR ar0, vI 4, vI 4, vR ar3, vI 0, vI 1, vI z0_0, vI z0_1, vI z0_2, oU, oU] [(.int z0_3)]))) (fun _ kont => X0.baloadBytes hx (j := (3 : Int32)) (v := (.int z0_3)) (by rw [e0]; exact Ar4.1) (State.isArrayOf_alike hZ.alike Ar4.2.1) Ar4.2.2 hin4 hat4 (g := (mkF m 386 #[vR ar0, vI 4, vI 4, vR ar3, vI 0, vI 1, vI z0_0, vI z0_1, vI z0_2, oU, oU] [(.int 3), (.ref ar0)])) rfl rfl (hb hby d33_386) _ kont) ?_
  refine oG m s₁ 397 #[vR ar0,vI 4,vI 4,vR ar3,vI 0,vI 1,vI z0_0,vI z0_1,vI z0_2,vI z0_3,oU] [(.int z0_3),(.int z0_2),(.int z0_1),(.int z0_0)] (fun _ k => XS.istore X0.here hx rfl (hb hby d33_387) rfl (l' := #[vR ar0,vI 4,vI 4,vR ar3,vI 0,vI 1,vI z0_0,vI z0_1,vI z0_2,vI z0_3,oU]) rfl (XS.iload X0.here hx rfl (hb hby d33_389) rfl (XS.iload X0.here hx rfl (hb hby d33_391) rfl (XS.iload X0.here hx rfl (hb hby d33_393) rfl (XS.iload X0.here hx rfl (hb hby d33_395) rfl k))))) ?_
  obtain ⟨T5, X5, e5, st5⟩ := own_cP X0 hx hZ hown (oH hw 174 rfl) (oH hw 175 rfl) (oH hw 54 rfl) (oH hw 176 rfl) (by decide) (rmz95 l Z a0 hw [] z0_0 z0_1 z0_2 z0_3 u8 zc fv h0 n0 Z0  SS) (W := 0) (by decide) (by decide) (g := (mkF m 397 #[vR ar0, vI 4, vI 4, vR ar3, vI 0, vI 1, vI z0_0, vI z0_1, vI z0_2, vI z0_3, oU] [(.int z0_3), (.int z0_2), (.int z0_1), (.int z0_0)])) rfl (by rw [hml]; rfl) (argsL := [(.int z0_0), (.int z0_1), (.int z0_2), (.int z0_3)]) (rest := []) (lenOf pd_832 rfl) rfl rfl rfl (hb hby d33_397) e0 rfl (by decide) (by decide) (by decide : 0 ≤ _) (by decide : 0 ≤ _)
  refine oG m T5 408 #[vR ar0,vI 4,vI 4,vR ar3,vI 0,vI 1,vI z0_0,vI z0_1,vI z0_2,vI z0_3,vI (own_d4 z0_0 z0_1 z0_2 z0_3)] [(.int z0_3),(.int z0_2),(.int z0_1)] (fun _ k => st5 _ (XS.istore X5.here hx rfl (hb hby d33_400) rfl (l' := #[vR ar0,vI 4,vI 4,vR ar3,vI 0,vI 1,vI z0_0,vI z0_1,vI z0_2,vI z0_3,vI (own_d4 z0_0 z0_1 z0_2 z0_3)]) rfl (XS.iload X5.here hx rfl (hb hby d33_402) rfl (XS.iload X5.here hx rfl (hb hby d33_404) rfl (XS.iload X5.here hx rfl (hb hby d33_406) rfl k))))) ?_
  obtain ⟨T6, X6, e6, st6⟩ := own_cP X5 hx hZ hown (oH hw 178 rfl) (oH hw 179 rfl) (oH hw 54 rfl) (oH hw 180 rfl) (by decide) (rm35 l Z a0 hw [] z0_1 z0_2 z0_3 h0 n0 Z0) (W := 0) (by decide) (by decide) (g := (mkF m 408 #[vR ar0, vI 4, vI 4, vR ar3, vI 0, vI 1, vI z0_0, vI z0_1, vI z0_2, vI z0_3, vI (own_d4 z0_0 z0_1 z0_2 z0_3)] [(.int z0_3), (.int z0_2), (.int z0_1)])) rfl (by rw [hml]; rfl) (argsL := [(.int z0_1), (.int z0_2), (.int z0_3)]) (rest := []) (lenOf pd_749 rfl) rfl rfl rfl (hb hby d33_408) e5 rfl (by decide) (by decide) (by decide : 0 ≤ _) (by decide : 0 ≤ _)
  refine oG m T6 416 #[vR ar0,vI 4,vI 4,vR ar3,vI 0,vI 1,vI z0_0,vI z0_1,vI z0_2,vI z0_3,vI (own_d4 z0_0 z0_1 z0_2 z0_3)] [(.int (own_d4 z0_0 z0_1 z0_2 z0_3))] (fun _ k => st6 _ (XS.ifNo X6.here hx rfl (hb hby d33_411) rfl ((if0 _ _).trans (teq hq4).2) (XS.iload X6.here hx rfl (hb hby d33_414) rfl k))) ?_
  obtain ⟨T7, X7, e7, st7⟩ := own_cP X6 hx hZ hown (oH hw 181 rfl) (oH hw 182 rfl) (oH hw 183 rfl) (oH hw 184 rfl) (by decide) (rm36 l Z a0 hw [] (own_d4 z0_0 z0_1 z0_2 z0_3) h0 n0 Z0) (W := 0) (by decide) (by decide) (g := (mkF m 416 #[vR ar0, vI 4, vI 4, vR ar3, vI 0, vI 1, vI z0_0, vI z0_1, vI z0_2, vI z0_3, vI (own_d4 z0_0 z0_1 z0_2 z0_3)] [(.int (own_d4 z0_0 z0_1 z0_2 z0_3))])) rfl (by rw [hml]; rfl) (argsL := [(.int (own_d4 z0_0 z0_1 z0_2 z0_3))]) (rest := []) (lenOf pd_617 rfl) rfl rfl rfl (hb hby d33_416) e6 rfl (by decide) (by decide) (by decide : 0 ≤ _) (by decide : 0 ≤ _)
  refine oG m T7 465 #[vR ar0,vI 4,vI 4,vR ar3,vI ((0 : Int32) + (1 : Int32)),vI 1,vI z0_0,vI z0_1,vI z0_2,vI z0_3,vI (own_d4 z0_0 z0_1 z0_2 z0_3)] [(.int 0),(.ref ar3)] (fun _ k => st7 _ (XS.ifYes X7.here hx rfl (pc0 := 419) (pc' := 459) rfl (hb hby d33_419) rfl ((if0 _ _).trans (feq hq5).2) (by decide) (by decide) (XS.aloadN X7.here hx rfl (hb hby d33_459) rfl rfl (XS.iload X7.here hx rfl (hb hby d33_460) rfl (XS.iinc X7.here hx rfl (hb hby d33_462) rfl (l' := #[vR ar0,vI 4,vI 4,vR ar3,vI ((0 : Int32) + (1 : Int32)),vI 1,vI z0_0,vI z0_1,vI z0_2,vI z0_3,vI (own_d4 z0_0 z0_1 z0_2 z0_3)]) rfl k))))) ?_
  rw [show ((0 : Int32) + (1 : Int32)) = (1 : Int32) from by decide]
  refine oG m T7 467 #[vR ar0,vI 4,vI 4,vR ar3,vI 1,vI 1,vI z0_0,vI z0_1,vI z0_2,vI z0_3,vI (own_d4 z0_0 z0_1 z0_2 z0_3)] [(.int (own_d4 z0_0 z0_1 z0_2 z0_3)),(.int 0),(.ref ar3)] (fun _ k => XS.iload X7.here hx rfl (hb hby d33_465) rfl k) ?_
  obtain ⟨T8, X8, e8, st8⟩ := own_cP X7 hx hZ hown (oH hw 187 rfl) (oH hw 188 rfl) (oH hw 183 rfl) (oH hw 189 rfl) (by decide) (rmz96 l Z a0 hw [] (own_d4 z0_0 z0_1 z0_2 z0_3) u8 zc fv h0 n0 Z0  SS) (W := 2) (by decide) (by decide) (g := (mkF m 467 #[vR ar0, vI 4, vI 4, vR ar3, vI 1, vI 1, vI z0_0, vI z0_1, vI z0_2, vI z0_3, vI (own_d4 z0_0 z0_1 z0_2 z0_3)] [(.int (own_d4 z0_0 z0_1 z0_2 z0_3)), (.int 0), (.ref ar3)])) rfl (by rw [hml]; rfl) (argsL := [(.int (own_d4 z0_0 z0_1 z0_2 z0_3))]) (rest := [(.int 0), (.ref ar3)]) (lenOf pd_374 rfl) rfl rfl rfl (hb hby d33_467) e7 rfl (by decide) (by decide) (by decide : 0 ≤ _) (by decide : 0 ≤ _)
  refine oG m T8 470 #[vR ar0,vI 4,vI 4,vR ar3,vI 1,vI 1,vI z0_0,vI z0_1,vI z0_2,vI z0_3,vI (own_d4 z0_0 z0_1 z0_2 z0_3)] [(.int (own_hs (own_d4 z0_0 z0_1 z0_2 z0_3))),(.int 0),(.ref ar3)] (fun _ k => st8 _ k) ?_
  obtain ⟨v9, T9, Lc9, X9, hQ9, st9⟩ := own_cS X8 hx hZ hown (oH hw 191 rfl) (oH hw 192 rfl) (oH hw 152 rfl) (oH hw 193 rfl) (by decide) (rmz97 l Z a0 hw [] ar3 kr3 z3_0 z3_1 z3_2 z3_3 z3_4 z3_5 z3_6 z3_7 (own_hs (own_d4 z0_0 z0_1 z0_2 z0_3)) u8 zc fv h0 n0 Z0 V_ar3 g_ar3 SS) (W := 0) (by decide) (by decide) (g := (mkF m 470 #[vR ar0, vI 4, vI 4, vR ar3, vI 1, vI 1, vI z0_0, vI z0_1, vI z0_2, vI z0_3, vI (own_d4 z0_0 z0_1 z0_2 z0_3)] [(.int (own_hs (own_d4 z0_0 z0_1 z0_2 z0_3))), (.int 0), (.ref ar3)])) rfl (by rw [hml]; rfl) (argsL := [(.ref ar3), (.int 0), (.int (own_hs (own_d4 z0_0 z0_1 z0_2 z0_3)))]) (rest := []) (lenOf pd_648 rfl) rfl rfl rfl (hb hby d33_470) e8 rfl (by decide : 0 + 0 ≤ _) (by decide : 0 + 0 ≤ _)
  obtain ⟨rfl, Nq9, Kc9, wa9_0⟩ := hQ9
  have Kt9 := K0.trans Kc9 (fun x hx => by simp only [List.mem_cons, List.mem_singleton, List.not_mem_nil, or_false] at hx; rcases hx with rfl <;> first | (left; simp; done) | (right; assumption))
  have N9 := Fr.app N0 Nq9
  have Z9 : n0 ≤ T9.heap.size := Nat.le_trans Z0 Kc9.1
  have c9_Var0 := V_ar0.keep Kc9 (ninS ne_ar0_ar3 nin0)
  have c9_USS := SS.keep Kc9 (own_nsS (own_nsA V_ar3) own_ns0)
  refine oG m T9 479 #[vR ar0,vI 4,vI 4,vR ar3,vI ((1 : Int32) + (1 : Int32)),vI 1,vI z0_0,vI z0_1,vI z0_2,vI z0_3,vI (own_d4 z0_0 z0_1 z0_2 z0_3)] [(.int 1),(.ref ar3)] (fun _ k => st9 _ (XS.aloadN X9.here hx rfl (hb hby d33_473) rfl rfl (XS.iload X9.here hx rfl (hb hby d33_474) rfl (XS.iinc X9.here hx rfl (hb hby d33_476) rfl (l' := #[vR ar0,vI 4,vI 4,vR ar3,vI ((1 : Int32) + (1 : Int32)),vI 1,vI z0_0,vI z0_1,vI z0_2,vI z0_3,vI (own_d4 z0_0 z0_1 z0_2 z0_3)]) rfl k)))) ?_
  rw [show ((1 : Int32) + (1 : Int32)) = (2 : Int32) from by decide]
  refine oG m T9 481 #[vR ar0,vI 4,vI 4,vR ar3,vI 2,vI 1,vI z0_0,vI z0_1,vI z0_2,vI z0_3,vI (own_d4 z0_0 z0_1 z0_2 z0_3)] [(.int (own_d4 z0_0 z0_1 z0_2 z0_3)),(.int 1),(.ref ar3)] (fun _ k => XS.iload X9.here hx rfl (hb hby d33_479) rfl k) ?_
  obtain ⟨T10, X10, e10, st10⟩ := own_cP X9 hx hZ hown (oH hw 197 rfl) (oH hw 198 rfl) (oH hw 183 rfl) (oH hw 199 rfl) (by decide) (rmz98 l Z a0 hw [] (own_d4 z0_0 z0_1 z0_2 z0_3) u8 zc fv T9.heap n0 Z9  c9_USS) (W := 2) (by decide) (by decide) (g := (mkF m 481 #[vR ar0, vI 4, vI 4, vR ar3, vI 2, vI 1, vI z0_0, vI z0_1, vI z0_2, vI z0_3, vI (own_d4 z0_0 z0_1 z0_2 z0_3)] [(.int (own_d4 z0_0 z0_1 z0_2 z0_3)), (.int 1), (.ref ar3)])) rfl (by rw [hml]; rfl) (argsL := [(.int (own_d4 z0_0 z0_1 z0_2 z0_3))]) (rest := [(.int 1), (.ref ar3)]) (lenOf pd_374 rfl) rfl rfl rfl (hb hby d33_481) rfl rfl (by decide) (by decide) (by decide : 0 ≤ _) (by decide : 0 ≤ _)
  refine oG m T10 484 #[vR ar0,vI 4,vI 4,vR ar3,vI 2,vI 1,vI z0_0,vI z0_1,vI z0_2,vI z0_3,vI (own_d4 z0_0 z0_1 z0_2 z0_3)] [(.int (own_ls (own_d4 z0_0 z0_1 z0_2 z0_3))),(.int 1),(.ref ar3)] (fun _ k => st10 _ k) ?_
  obtain ⟨v11, T11, Lc11, X11, hQ11, st11⟩ := own_cS X10 hx hZ hown (oH hw 191 rfl) (oH hw 192 rfl) (oH hw 152 rfl) (oH hw 193 rfl) (by decide) (rmz99 l Z a0 hw [] ar3 kr3 (own_hi (own_hs (own_d4 z0_0 z0_1 z0_2 z0_3))) (own_lo (own_hs (own_d4 z0_0 z0_1 z0_2 z0_3))) z3_2 z3_3 z3_4 z3_5 z3_6 z3_7 (own_ls (own_d4 z0_0 z0_1 z0_2 z0_3)) u8 zc fv T9.heap n0 Z9 wa9_0 g_ar3 c9_USS) (W := 0) (by decide) (by decide) (g := (mkF m 484 #[vR ar0, vI 4, vI 4, vR ar3, vI 2, vI 1, vI z0_0, vI z0_1, vI z0_2, vI z0_3, vI (own_d4 z0_0 z0_1 z0_2 z0_3)] [(.int (own_ls (own_d4 z0_0 z0_1 z0_2 z0_3))), (.int 1), (.ref ar3)])) rfl (by rw [hml]; rfl) (argsL := [(.ref ar3), (.int 1), (.int (own_ls (own_d4 z0_0 z0_1 z0_2 z0_3)))]) (rest := []) (lenOf pd_648 rfl) rfl rfl rfl (hb hby d33_484) e10 rfl (by decide : 0 + 0 ≤ _) (by decide : 0 + 0 ≤ _)
  obtain ⟨rfl, Nq11, Kc11, wa11_0⟩ := hQ11
  have Kt11 := Kt9.trans Kc11 (fun x hx => by simp only [List.mem_cons, List.mem_singleton, List.not_mem_nil, or_false] at hx; rcases hx with rfl <;> first | (left; simp; done) | (right; assumption))
  have N11 := Fr.app N9 Nq11
  have Z11 : n0 ≤ T11.heap.size := Nat.le_trans Z9 Kc11.1
  have c11_Var0 := c9_Var0.keep Kc11 (ninS ne_ar0_ar3 nin0)
  have c11_USS := c9_USS.keep Kc11 (own_nsS (own_nsA wa9_0) own_ns0)
  refine oG m T11 623 #[vR ar0,vI 4,vI 4,vR ar3,vI 2,vI 1,vI z0_0,vI z0_1,vI z0_2,vI z0_3,vI (own_d4 z0_0 z0_1 z0_2 z0_3)] [(.int 2)] (fun _ k => st11 _ (XS.goto X11.here hx rfl (pc0 := 487) (pc' := 0) rfl (hb hby d33_487) (by decide) (by decide) (XS.iloadN X11.here hx rfl (hb hby d33_0) rfl (XS.iloadN X11.here hx rfl (hb hby d33_1) rfl (XS.icmpYes X11.here hx rfl (pc0 := 2) (pc' := 621) rfl (hb hby d33_2) rfl (flt (by decide)).2.1 (by decide) (by decide) (XS.iload X11.here hx rfl (hb hby d33_621) rfl k)))))) ?_
  refine own_retI X11 hx hlk hrt (hb hby d33_623) (by decide) (by decide) ?_
  exact ⟨(by first | rfl | decide), N11, Kt11, wa11_0⟩
def Q_rmz101 (Z : State) (ar0 : Addr) (kr0 : ClassId) (z0_0 : Int32) (z0_1 : Int32) (z0_2 : Int32) (z0_3 : Int32) (z0_4 : Int32) (z0_5 : Int32) (z0_6 : Int32) (z0_7 : Int32) (u8 : Addr) (zc : Int32) (fv : Value) (h0 : Heap) (n0 : Nat) (v : Option Value) (h : Heap) (L : List Loc) : Prop := ∃ (NA0 : Addr) (KA0 : ClassId), v = some (.ref NA0) ∧ Fr n0 L ∧ Keep h0 h [] ∧ h0.size ≤ NA0 ∧ Arv Z h NA0 KA0 .byte (4 : Int32) [(.int z0_0), (.int z0_1), (.int z0_2), (.int z0_3)] (.int 0)
theorem rmz101 (l : Launch) (Z : State) (a0 : Array Value) (hw : oW a0 Z) (ws : List Jvm.Cond) (ar0 : Addr) (kr0 : ClassId) (z0_0 : Int32) (z0_1 : Int32) (z0_2 : Int32) (z0_3 : Int32) (z0_4 : Int32) (z0_5 : Int32) (z0_6 : Int32) (z0_7 : Int32) (u8 : Addr) (zc : Int32) (fv : Value) (h0 : Heap) (n0 : Nat) (Z0 : n0 ≤ h0.size) (V_ar0 : Arv Z h0 ar0 kr0 .byte (8 : Int32) [(.int z0_0), (.int z0_1), (.int z0_2), (.int z0_3), (.int z0_4), (.int z0_5), (.int z0_6), (.int z0_7)] (.int 0)) (g_ar0 : n0 ≤ ar0)  (SS : own_Sx Z h0 u8 zc fv)  : own_K l (⟨"java/util/Arrays", "copyOf", "([BI)[B"⟩ : MethodName) jdk_65_method_121_code 3 (some (.array .byte)) ws ({ frames := 1, cells := 1, slots := 4, locals := 18 } : Room) Z h0 #[(.ref ar0), (.int 4)] (Q_rmz101 Z ar0 kr0 z0_0 z0_1 z0_2 z0_3 z0_4 z0_5 z0_6 z0_7 u8 zc fv h0 n0) := by
  refine own_met (plainFor_of_name pn_268) ?_
  intro p e s m below meth c s₁ hx hby hlk hml hown hnm hrt hZ hh X0 e0
  have N0 := Fr.nil n0
  refine oG m s₁ 0 #[vR ar0,vI 4,oU] [] (fun _ k => castTop (by first | (simp [entryFrame,mkF,argsToLocals,Value.category]; done) | rfl) k) ?_
  have K0 := Keep.refl h0 []
  refine oG m s₁ 2 #[vR ar0,vI 4,oU] [(.ref ar0),(.int 4)] (fun _ k => XS.iloadN X0.here hx rfl (hb hby d40_0) rfl (XS.aloadN X0.here hx rfl (hb hby d40_1) rfl rfl k)) ?_
  obtain ⟨cl1, Ar1, -, S1, M1, -, -⟩ := id V_ar0
  have ql1 := len_of S1 M1
  refine own_go (S' := (s₁.setTop (mkF m 3 #[vR ar0, vI 4, oU] [(.int 8), (.int 4)]))) (fun _ kont => X0.arraylength hx (by rw [e0]; exact Ar1.1) (State.isArrayOf_alike hZ.alike Ar1.2.1) (g := (mkF m 2 #[vR ar0, vI 4, oU] [(.ref ar0), (.int 4)])) rfl rfl (hb hby d40_2) _ (by rw [ql1]; exact kont)) ?_
  refine oG m s₁ 15 #[vR ar0,vI 4,oU] [(.int 4)] (fun _ k => XS.icmpYes X0.here hx rfl (pc0 := 3) (pc' := 14) rfl (hb hby d40_3) rfl (feq (by decide)).2 (by decide) (by decide) (XS.iloadN X0.here hx rfl (hb hby d40_14) rfl k)) ?_
  obtain ⟨T2, h2, k2, X2, e2, E2, A2, st2⟩ := newP X0 hx hZ (oH hw 7 rfl) e0 (g := (mkF m 15 #[vR ar0, vI 4, oU] [(.int 4)])) rfl (hb hby d40_15) rfl (by decide) (cap := 4) (by decide) (by decide) (by decide) (by decide)
  obtain ⟨b2, gz2⟩ : ∃ z, z = h0.size := ⟨_, rfl⟩
  rw [← gz2] at A2 st2
  have sz_b2 : h0.size ≤ b2 := Nat.le_trans K0.1 (Nat.le_of_eq gz2.symm)
  have ne_ar0_b2 : ar0 ≠ b2 := Nat.ne_of_lt (by rw [gz2]; exact V_ar0.lt)
  have c2_Var0 := V_ar0.ext E2
  have c2_USS := SS.ext E2
  have K2 := K0.ext E2
  have g_b2 : n0 ≤ b2 := Nat.le_trans Z0 (Nat.le_of_eq gz2.symm)
  have V2 := Arv.new A2 (by decide)
  have Z2 : n0 ≤ h2.size := Nat.le_trans Z0 E2.1
  refine oG m T2 17 #[vR ar0,vI 4,oU] [(.ref b2)] (fun _ k => st2 _ k) ?_
  have V3 : Arv Z h2 b2 k2 .byte (4 : Int32) [(.int 0), (.int 0), (.int 0), (.int 0)] (.int 0) := V2.pad (pad_rep [] (.int 0) 4)
  refine oG m T2 23 #[vR ar0,vI 4,vR b2] [(.ref ar0),(.int 0),(.ref b2),(.int 0),(.ref ar0)] (fun _ k => XS.astoreN X2.here hx rfl (hb hby d40_17) rfl rfl (l' := #[vR ar0,vI 4,vR b2]) rfl (XS.aloadN X2.here hx rfl (hb hby d40_18) rfl rfl (XS.iconst X2.here hx rfl (hb hby d40_19) (XS.aloadN X2.here hx rfl (hb hby d40_20) rfl rfl (XS.iconst X2.here hx rfl (hb hby d40_21) (XS.aloadN X2.here hx rfl (hb hby d40_22) rfl rfl k)))))) ?_
  obtain ⟨cl4, Ar4, -, S4, M4, -, -⟩ := id c2_Var0
  have ql4 := len_of S4 M4
  refine own_go (S' := (T2.setTop (mkF m 24 #[vR ar0, vI 4, vR b2] [(.int 8), (.int 0), (.ref b2), (.int 0), (.ref ar0)]))) (fun _ kont => X2.arraylength hx (by rw [e2]; exact Ar4.1) (State.isArrayOf_alike hZ.alike Ar4.2.1) (g := (mkF m 23 #[vR ar0, vI 4, vR b2] [(.ref ar0), (.int 0), (.ref b2), (.int 0), (.ref ar0)])) rfl rfl (hb hby d40_23) _ (by rw [ql4]; exact kont)) ?_
  refine oG m T2 25 #[vR ar0,vI 4,vR b2] [(.int 4),(.int 8),(.int 0),(.ref b2),(.int 0),(.ref ar0)] (fun _ k => XS.iloadN X2.here hx rfl (hb hby d40_24) rfl k) ?_
  obtain ⟨T5, X5, e5, st5⟩ := own_cP X2 hx hZ hown (oH hw 96 rfl) (oH hw 97 rfl) (oH hw 98 rfl) (oH hw 99 rfl) (by decide) (rmz13 l Z a0 hw [] (8 : Int32) (4 : Int32) u8 zc fv h2 n0 Z2  c2_USS (by decide)) (W := 4) (by decide) (by decide) (g := (mkF m 25 #[vR ar0, vI 4, vR b2] [(.int 4), (.int 8), (.int 0), (.ref b2), (.int 0), (.ref ar0)])) rfl (by rw [hml]; rfl) (argsL := [(.int 8), (.int 4)]) (rest := [(.int 0), (.ref b2), (.int 0), (.ref ar0)]) (lenOf pd_293 rfl) rfl rfl rfl (hb hby d40_25) e2 rfl (by decide) (by decide) (by decide : 1 ≤ _) (by decide : 4 ≤ _)
  refine oG m T5 28 #[vR ar0,vI 4,vR b2] [(.int 4),(.int 0),(.ref b2),(.int 0),(.ref ar0)] (fun _ k => st5 _ k) ?_
  obtain ⟨T6, h6, L6, X6, e6, N6, Kc6, Vd6, st6⟩ := cpA X5 hx hZ hown (oH hw 100 rfl) (oH hw 103 rfl) (oH hw 101 rfl) (oH hw 102 rfl) e5 (us := [(.int z0_0), (.int z0_1), (.int z0_2), (.int z0_3)]) c2_Var0 V3 (Or.inl ⟨rfl, rfl⟩) (sp := (0 : Int32)) (dp := (0 : Int32)) (nn := (4 : Int32)) (by decide) (by decide) (by decide) (by decide) (by decide) (by first | rfl | simp) (by first | decide | exact Nat.le_of_ble_eq_true rfl) N0 g_b2 (g := (mkF m 28 #[vR ar0, vI 4, vR b2] [(.int 4), (.int 0), (.ref b2), (.int 0), (.ref ar0)])) rfl (by rw [hml]; rfl) rfl (hb hby d40_28) (by decide) (W := 0) (by show 2 * 0 + _ ≤ _; exact Nat.le_of_eq rfl) (by decide)
  have Vn6 : Arv Z h6 b2 k2 .byte (4 : Int32) [(.int z0_0), (.int z0_1), (.int z0_2), (.int z0_3)] (.int 0) := Vd6
  have Z6 : n0 ≤ h6.size := Nat.le_trans Z2 Kc6.1
  have Kt6 := K2.trans Kc6 (fun x hx => by cases List.mem_singleton.mp hx; first | (left; simp; done) | (right; assumption))
  have c6_Var0 := c2_Var0.keep Kc6 (ninS ne_ar0_b2 nin0)
  have c6_USS := c2_USS.keep Kc6 (own_nsS (own_nsA V3) own_ns0)
  refine oG m T6 32 #[vR ar0,vI 4,vR b2] [(.ref b2)] (fun _ k => st6 _ (XS.aloadN X6.here hx rfl (hb hby d40_31) rfl rfl k)) ?_
  refine own_retA X6 hx hlk (rfl) rfl hrt (hb hby d40_32) (by decide) (by decide) ?_
  rw [e6]
  exact ⟨b2, k2, (by first | rfl | decide), N6, Kt6, sz_b2, Vn6⟩
theorem ef_rmz102 (m : MethodId) (x0 : Addr) (x1 : Addr) (x2 : Addr) (x3 : Int32) (x4 : Int32) : entryFrame m #[(.ref x0), (.ref x1), (.ref x2), (.int x3), (.int x4)] 11 = mkF m 0 #[vR x0, vR x1, vR x2, vI x3, vI x4, oU, oU, oU, oU, oU, oU] [] := by first | (simp [entryFrame, mkF, argsToLocals, Value.category]; done) | rfl
def Q_rmz102 (Z : State) (ob0 : Addr) (ar2 : Addr) (kr2 : ClassId) (z2_0 : Int32) (z2_1 : Int32) (z2_2 : Int32) (z2_3 : Int32) (u8 : Addr) (zc : Int32) (fv : Value) (h0 : Heap) (n0 : Nat) (v : Option Value) (h : Heap) (L : List Loc) : Prop := ∃ (NA0 : Addr) (KA0 : ClassId), v = none ∧ Fr n0 L ∧ Keep h0 h [ob0] ∧ h0.size ≤ NA0 ∧ Arv Z h NA0 KA0 .byte (4 : Int32) [(.int (own_hi (own_hs (own_d4 z2_0 z2_1 z2_2 z2_3)))), (.int (own_lo (own_hs (own_d4 z2_0 z2_1 z2_2 z2_3)))), (.int (own_hi (own_ls (own_d4 z2_0 z2_1 z2_2 z2_3)))), (.int (own_lo (own_ls (own_d4 z2_0 z2_1 z2_2 z2_3))))] (.int 0) ∧ Fld Z h ob0 "java/lang/String" "value" "[B" (.ref NA0) ∧ Fld Z h ob0 "java/lang/String" "coder" "B" (.int 1)
theorem rmz102 (l : Launch) (Z : State) (a0 : Array Value) (hw : ∀ d ∈ tables_1, d.before a0 Z = true) (ws : List Jvm.Cond) (ob0 : Addr) (ar2 : Addr) (kr2 : ClassId) (z2_0 : Int32) (z2_1 : Int32) (z2_2 : Int32) (z2_3 : Int32) (u8 : Addr) (zc : Int32) (fv : Value) (h0 : Heap) (n0 : Nat) (Z0 : n0 ≤ h0.size) (E_ob0 : Exa Z h0 ob0 "java/lang/String") (g_ob0 : n0 ≤ ob0) (F_ob0_value : Fld Z h0 ob0 "java/lang/String" "value" "[B" .null) (F_ob0_coder : Fld Z h0 ob0 "java/lang/String" "coder" "B" (.int 0)) (V_ar2 : Arv Z h0 ar2 kr2 .byte (4 : Int32) [(.int z2_0), (.int z2_1), (.int z2_2), (.int z2_3)] (.int 0)) (g_ar2 : n0 ≤ ar2) (E_ar2 : Exa Z h0 ar2 "[B") (ne_ob0_ar2 : ob0 ≠ ar2) (SS : own_Sx Z h0 u8 zc fv) (hq0 : z2_0 < (0 : Int32)) (hq1 : ¬ (z2_0 &&& (254 : Int32)) = (194 : Int32)) (hq2 : ¬ (z2_0 >>> ((5 : Int32) &&& 31)) = (-2 : Int32)) (hq3 : ¬ (z2_0 >>> ((4 : Int32) &&& 31)) = (-2 : Int32)) (hq4 : (z2_0 >>> ((3 : Int32) &&& 31)) = (-2 : Int32)) (hq5 : (own_im4_0 z2_1 z2_2 z2_3) = (0 : Int32)) (hq6 : ¬ (own_sup_0 (own_d4 z2_0 z2_1 z2_2 z2_3)) = (0 : Int32)) :
    MetFree l (⟨"java/lang/String", "<init>", "(Ljava/nio/charset/Charset;[BII)V"⟩ : MethodName) (head1 (Jvm.Cond.codeWith (⟨"java/lang/String", "<init>", "(Ljava/nio/charset/Charset;[BII)V"⟩ : MethodName) jdk_42_method_11_code 11 none [(800, 813, 816, 202)] :: ws) ({ frames := 5, cells := 3, slots := 16, locals := 76 } : Room)) (fun a U => a = #[(.ref ob0), (.ref u8), (.ref ar2), (.int 0), (.int 4)] ∧ Z.Warmed39 U.vm ∧ U.heap = h0) (fun _ _ _ _ _ => True) (fun _ U o U' => ∃ v L, o = .returned v ∧ Q_rmz102 Z ob0 ar2 kr2 z2_0 z2_1 z2_2 z2_3 u8 zc fv h0 n0 v U'.heap L ∧ FrameEnd U o U' L ({ frames := 5, cells := 3, slots := 16, locals := 76 } : Room).cells ({ frames := 5, cells := 3, slots := 16, locals := 76 } : Room).slots) := by
  refine MetFree.of_bodySF (plainFor_of_name pn_22) hisWith ?_
  intro p e s m args below meth c s₁ Bd hml0 hP hK
  obtain ⟨rfl, hZ, hh⟩ := hP
  have hx := Bd.exec
  have hby := Bd.bytes
  have hlk := Bd.notSynchronized
  have hml : c.maxLocals = 11 := hml0
  have hown : s.vm.findClass "java/lang/String" = some m.cls := findClass_of_methodNamed Bd.named
  have hnm := (name_of_methodNamed Bd.named Bd.method).1
  have X0 : Stand p l e ({ frames := 5, cells := 3, slots := 16, locals := 76 } : Room) s m #[(.ref ob0), (.ref u8), (.ref ar2), (.int 0), (.int 4)] below meth c s₁ [] 0 0 := Stand.of_body Bd
  have e0 : s₁.heap = h0 := by rw [← hh, Bd.state]; rfl
  have N0 := Fr.nil n0
  change own_Go p e below s (Q_rmz102 Z ob0 ar2 kr2 z2_0 z2_1 z2_2 z2_3 u8 zc fv h0 n0) ({ frames := 5, cells := 3, slots := 16, locals := 76 } : Room).cells ({ frames := 5, cells := 3, slots := 16, locals := 76 } : Room).slots _
  refine own_go (S' := (s₁.setTop (mkF m 0 #[vR ob0, vR u8, vR ar2, vI 0, vI 4, oU, oU, oU, oU, oU, oU] []))) (fun _ kont => castTop (ef_rmz102 m ob0 u8 ar2 (0 : Int32) (4 : Int32)) kont) ?_
  have K0 := Keep.refl h0 [ob0]
  refine oG m s₁ 1 #[vR ob0,vR u8,vR ar2,vI 0,vI 4,oU,oU,oU,oU,oU,oU] [(.ref ob0)] (fun _ k => XS.aloadN X0.here hx rfl (hb hby d49_0) rfl rfl k) ?_
  obtain ⟨T1, X1, e1, st1⟩ := initO X0 hx hZ hown (oH hw 78 rfl) (oH hw 18 rfl) (oH hw 19 rfl) e0 (g := (mkF m 1 #[vR ob0, vR u8, vR ar2, vI 0, vI 4, oU, oU, oU, oU, oU, oU] [(.ref ob0)])) rfl (by rw [hml]; rfl) rfl (hb hby d49_1) (by decide) (W := 0) (by show 2 * 0 + _ ≤ _; exact Nat.le_of_eq rfl) (by decide)
  refine oG m T1 31 #[vR ob0,vR u8,vR ar2,vI 0,vI 4,oU,oU,oU,oU,oU,oU] [(.ref u8)] (fun _ k => st1 _ (XS.iload X1.here hx rfl (hb hby d49_4) rfl (XS.ifYes X1.here hx rfl (pc0 := 6) (pc' := 30) rfl (hb hby d49_6) rfl ((if0 _ _).trans (feq (by decide)).2) (by decide) (by decide) (XS.aloadN X1.here hx rfl (hb hby d49_30) rfl rfl k)))) ?_
  have Sg2 := SS.sI
  obtain ⟨T3, X3, e3, st3⟩ := getS2 X1 hx hZ hown (host := "") (Or.inl (oH hw 79 rfl)) Via.refl e1 Sg2 (g := (mkF m 31 #[vR ob0, vR u8, vR ar2, vI 0, vI 4, oU, oU, oU, oU, oU, oU] [(.ref u8)])) rfl (hb hby d49_31)
  refine oG m T3 37 #[vR ob0,vR u8,vR ar2,vI 0,vI 4,oU,oU,oU,oU,oU,oU] [] (fun _ k => st3 _ (Jvm.RoadKit.acmp (g := (mkF m 34 #[vR ob0,vR u8,vR ar2,vI 0,vI 4,oU,oU,oU,oU,oU,oU] [(.ref u8),(.ref u8)])) X3 hx rfl rfl rfl (pc0 := 34) (pc' := 37) (same := true) rfl (hb hby d49_34) rfl (decide_eq_true rfl) (by decide) (by decide) k)) ?_
  have Sg4 := SS.sC
  obtain ⟨T5, X5, e5, st5⟩ := getS2 X3 hx hZ hown (host := "") (Or.inl (oH hw 81 rfl)) Via.refl e3 Sg4 (g := (mkF m 37 #[vR ob0, vR u8, vR ar2, vI 0, vI 4, oU, oU, oU, oU, oU, oU] [])) rfl (hb hby d49_37)
  refine oG m T5 47 #[vR ob0,vR u8,vR ar2,vI 0,vI 4,oU,oU,oU,oU,oU,oU] [(.int 4),(.int 0),(.ref ar2)] (fun _ k => st5 _ (XS.ifNo X5.here hx rfl (hb hby d49_40) rfl ((if0 _ _).trans (feq SS.nz).1) (XS.aloadN X5.here hx rfl (hb hby d49_43) rfl rfl (XS.iloadN X5.here hx rfl (hb hby d49_44) rfl (XS.iload X5.here hx rfl (hb hby d49_45) rfl k))))) ?_
  obtain ⟨T6, X6, e6, st6⟩ := own_cP X5 hx hZ hown (oH hw 82 rfl) (oH hw 83 rfl) (oH hw 84 rfl) (oH hw 85 rfl) (by decide) (rmz88 l Z a0 hw [] ar2 kr2 z2_0 z2_1 z2_2 z2_3 u8 zc fv h0 n0 Z0 V_ar2 g_ar2 E_ar2 SS hq0) (W := 0) (by decide) (by decide) (g := (mkF m 47 #[vR ob0, vR u8, vR ar2, vI 0, vI 4, oU, oU, oU, oU, oU, oU] [(.int 4), (.int 0), (.ref ar2)])) rfl (by rw [hml]; rfl) (argsL := [(.ref ar2), (.int 0), (.int 4)]) (rest := []) (lenOf pd_242 rfl) rfl rfl rfl (hb hby d49_47) e5 rfl (by decide) (by decide) (by decide : 0 ≤ _) (by decide : 0 ≤ _)
  refine oG m T6 84 #[vR ob0,vR u8,vR ar2,vI 0,vI 4,vI 0,oU,oU,oU,oU,oU] [(.int ((0 : Int32) + (4 : Int32))),(.int 0),(.ref ar2)] (fun _ k => st6 _ (XS.istore X6.here hx rfl (hb hby d49_50) rfl (l' := #[vR ob0,vR u8,vR ar2,vI 0,vI 4,vI 0,oU,oU,oU,oU,oU]) rfl (XS.iload X6.here hx rfl (hb hby d49_52) rfl (XS.iload X6.here hx rfl (hb hby d49_54) rfl (XS.icmpYes X6.here hx rfl (pc0 := 56) (pc' := 78) rfl (hb hby d49_56) rfl (feq (by decide)).2 (by decide) (by decide) (XS.aloadN X6.here hx rfl (hb hby d49_78) rfl rfl (XS.iloadN X6.here hx rfl (hb hby d49_79) rfl (XS.iloadN X6.here hx rfl (hb hby d49_80) rfl (XS.iload X6.here hx rfl (hb hby d49_81) rfl (XS.iadd X6.here hx rfl (hb hby d49_83) rfl k)))))))))) ?_
  rw [show ((0 : Int32) + (4 : Int32)) = (4 : Int32) from by decide]
  obtain ⟨v7, T7, Lc7, X7, hQ7, st7⟩ := own_cS X6 hx hZ hown (oH hw 86 rfl) (oH hw 87 rfl) (oH hw 88 rfl) (oH hw 89 rfl) (by decide) (rmz89 l Z a0 hw [] ar2 kr2 z2_0 z2_1 z2_2 z2_3 u8 zc fv h0 n0 Z0 V_ar2 g_ar2 E_ar2 SS) (W := 0) (by decide) (by decide) (g := (mkF m 84 #[vR ob0, vR u8, vR ar2, vI 0, vI 4, vI 0, oU, oU, oU, oU, oU] [(.int 4), (.int 0), (.ref ar2)])) rfl (by rw [hml]; rfl) (argsL := [(.ref ar2), (.int 0), (.int 4)]) (rest := []) (lenOf pd_298 rfl) rfl rfl rfl (hb hby d49_84) e6 rfl (by decide : 0 + 1 ≤ _) (by decide : 0 + 4 ≤ _)
  obtain ⟨na7_0, ka7_0, rfl, Nq7, Kc7, sa7_0, va7_0⟩ := hQ7
  have Kt7 := K0.trans Kc7 (fun x hx => nomatch hx)
  have N7 := Fr.app N0 Nq7
  have Z7 : n0 ≤ T7.heap.size := Nat.le_trans Z0 Kc7.1
  have c7_Eob0 := E_ob0.keep Kc7
  have c7_Fob0_value := F_ob0_value.keep Kc7 nin0
  have c7_Fob0_coder := F_ob0_coder.keep Kc7 nin0
  have c7_Var2 := V_ar2.keep Kc7 nin0
  have c7_Ear2 := E_ar2.keep Kc7
  have c7_USS := SS.keep Kc7 own_ns0
  refine oG m T7 87 #[vR ob0,vR u8,vR ar2,vI 0,vI 4,vI 0,oU,oU,oU,oU,oU] [(.ref na7_0)] (fun _ k => st7 _ k) ?_
  have g_na7_0 : n0 ≤ na7_0 := Nat.le_trans Z0 sa7_0
  have sz_na7_0 : h0.size ≤ na7_0 := Nat.le_trans K0.1 sa7_0
  have ne_ob0_na7_0 : ob0 ≠ na7_0 := Nat.ne_of_lt (Nat.lt_of_lt_of_le E_ob0.lt sa7_0)
  have ne_ar2_na7_0 : ar2 ≠ na7_0 := Nat.ne_of_lt (Nat.lt_of_lt_of_le E_ar2.lt sa7_0)
  refine oG m T7 107 #[vR ob0,vR u8,vR ar2,vI 0,vI 4,vI 0,vR na7_0,vI ((0 : Int32) + (1 : Int32)),oU,oU,oU] [(.int 0),(.ref na7_0)] (fun _ k => XS.astore X7.here hx rfl (hb hby d49_87) rfl rfl (l' := #[vR ob0,vR u8,vR ar2,vI 0,vI 4,vI 0,vR na7_0,oU,oU,oU,oU]) rfl (XS.iload X7.here hx rfl (hb hby d49_89) rfl (XS.istore X7.here hx rfl (hb hby d49_91) rfl (l' := #[vR ob0,vR u8,vR ar2,vI 0,vI 4,vI 0,vR na7_0,vI 0,oU,oU,oU]) rfl (XS.iload X7.here hx rfl (hb hby d49_93) rfl (XS.iload X7.here hx rfl (hb hby d49_95) rfl (XS.icmpNo X7.here hx rfl (hb hby d49_97) rfl (tlt (by decide)).2.1 (XS.aload X7.here hx rfl (hb hby d49_100) rfl rfl (XS.iload X7.here hx rfl (hb hby d49_102) rfl (XS.iinc X7.here hx rfl (hb hby d49_104) rfl (l' := #[vR ob0,vR u8,vR ar2,vI 0,vI 4,vI 0,vR na7_0,vI ((0 : Int32) + (1 : Int32)),oU,oU,oU]) rfl k))))))))) ?_
  rw [show ((0 : Int32) + (1 : Int32)) = (1 : Int32) from by decide]
  obtain ⟨cl8, Ar8, -, S8, -, H8, -⟩ := id va7_0
  have hin8 := inb_of (j := (0 : Int32)) S8 ⟨by decide, by decide⟩
  have hat8 := Has.at (v := (.int z2_0)) H8 hin8 (by first | rfl | decide)
  refine own_go (S' := (T7.setTop (mkF m 108 #[vR ob0, vR u8, vR ar2, vI 0, vI 4, vI 0, vR na7_0, vI 1, oU, oU, oU] [(.int z2_0)]))) (fun _ kont => X7.baloadBytes hx (j := (0 : Int32)) (v := (.int z2_0)) Ar8.1 (State.isArrayOf_alike hZ.alike Ar8.2.1) Ar8.2.2 hin8 hat8 (g := (mkF m 107 #[vR ob0, vR u8, vR ar2, vI 0, vI 4, vI 0, vR na7_0, vI 1, oU, oU, oU] [(.int 0), (.ref na7_0)])) rfl rfl (hb hby d49_107) _ kont) ?_
  refine oG m T7 187 #[vR ob0,vR u8,vR ar2,vI 0,vI 4,vI 0,vR na7_0,vI ((1 : Int32) + (-1 : Int32)),vI z2_0,oU,oU] [] (fun _ k => XS.istore X7.here hx rfl (hb hby d49_108) rfl (l' := #[vR ob0,vR u8,vR ar2,vI 0,vI 4,vI 0,vR na7_0,vI 1,vI z2_0,oU,oU]) rfl (XS.iload X7.here hx rfl (hb hby d49_110) rfl (XS.ifYes X7.here hx rfl (pc0 := 112) (pc' := 129) rfl (hb hby d49_112) rfl ((if0 _ _).trans (tlt hq0).1) (by decide) (by decide) (XS.iload X7.here hx rfl (hb hby d49_129) rfl (XS.sipush X7.here hx rfl (hb hby d49_131) (XS.iand X7.here hx rfl (hb hby d49_134) rfl (XS.sipush X7.here hx rfl (hb hby d49_135) (XS.icmpYes X7.here hx rfl (pc0 := 138) (pc' := 184) rfl (hb hby d49_138) rfl (feq hq1).2 (by decide) (by decide) (XS.iinc X7.here hx rfl (hb hby d49_184) rfl (l' := #[vR ob0,vR u8,vR ar2,vI 0,vI 4,vI 0,vR na7_0,vI ((1 : Int32) + (-1 : Int32)),vI z2_0,oU,oU]) rfl k))))))))) ?_
  rw [show ((1 : Int32) + (-1 : Int32)) = (0 : Int32) from by decide]
  refine oG m T7 228 #[vR ob0,vR u8,vR ar2,vI 0,vI 4,vI 0,vR na7_0,vI 0,vI z2_0,oU,oU] [(.int 4)] (fun _ k => XS.goto X7.here hx rfl (pc0 := 187) (pc' := 190) rfl (hb hby d49_187) (by decide) (by decide) (XS.iload X7.here hx rfl (hb hby d49_190) rfl (XS.iload X7.here hx rfl (hb hby d49_192) rfl (XS.icmpYes X7.here hx rfl (pc0 := 194) (pc' := 226) rfl (hb hby d49_194) rfl (feq (by decide)).2 (by decide) (by decide) (XS.iload X7.here hx rfl (hb hby d49_226) rfl k))))) ?_
  obtain ⟨v9, T9, Lc9, X9, hQ9, st9⟩ := own_cS X7 hx hZ hown (oH hw 150 rfl) (oH hw 151 rfl) (oH hw 152 rfl) (oH hw 153 rfl) (by decide) (rmz90 l Z a0 hw []  u8 zc fv T7.heap n0 Z7  c7_USS) (W := 0) (by decide) (by decide) (g := (mkF m 228 #[vR ob0, vR u8, vR ar2, vI 0, vI 4, vI 0, vR na7_0, vI 0, vI z2_0, oU, oU] [(.int 4)])) rfl (by rw [hml]; rfl) (argsL := [(.int 4)]) (rest := []) (lenOf pd_542 rfl) rfl rfl rfl (hb hby d49_228) rfl rfl (by decide : 1 + 1 ≤ _) (by decide : 4 + 8 ≤ _)
  obtain ⟨na9_0, ka9_0, rfl, Nq9, Kc9, sa9_0, va9_0⟩ := hQ9
  have Kt9 := Kt7.trans Kc9 (fun x hx => nomatch hx)
  have N9 := Fr.app N7 Nq9
  have Z9 : n0 ≤ T9.heap.size := Nat.le_trans Z7 Kc9.1
  have c9_Eob0 := c7_Eob0.keep Kc9
  have c9_Fob0_value := c7_Fob0_value.keep Kc9 nin0
  have c9_Fob0_coder := c7_Fob0_coder.keep Kc9 nin0
  have c9_Var2 := c7_Var2.keep Kc9 nin0
  have c9_Ear2 := c7_Ear2.keep Kc9
  have c9_USS := c7_USS.keep Kc9 own_ns0
  have c9_Vna7_0 := va7_0.keep Kc9 nin0
  refine oG m T9 231 #[vR ob0,vR u8,vR ar2,vI 0,vI 4,vI 0,vR na7_0,vI 0,vI z2_0,oU,oU] [(.ref na9_0)] (fun _ k => st9 _ k) ?_
  have g_na9_0 : n0 ≤ na9_0 := Nat.le_trans Z7 sa9_0
  have sz_na9_0 : h0.size ≤ na9_0 := Nat.le_trans Kt7.1 sa9_0
  have ne_ob0_na9_0 : ob0 ≠ na9_0 := Nat.ne_of_lt (Nat.lt_of_lt_of_le c7_Eob0.lt sa9_0)
  have ne_ar2_na9_0 : ar2 ≠ na9_0 := Nat.ne_of_lt (Nat.lt_of_lt_of_le c7_Ear2.lt sa9_0)
  have ne_na7_0_na9_0 : na7_0 ≠ na9_0 := Nat.ne_of_lt (Nat.lt_of_lt_of_le va7_0.lt sa9_0)
  refine oG m T9 241 #[vR ob0,vR u8,vR ar2,vI 0,vI 4,vI 0,vR na7_0,vI 0,vR na9_0,oU,oU] [(.int 0),(.int 0),(.ref na9_0),(.int 0),(.ref na7_0)] (fun _ k => XS.astore X9.here hx rfl (hb hby d49_231) rfl rfl (l' := #[vR ob0,vR u8,vR ar2,vI 0,vI 4,vI 0,vR na7_0,vI 0,vR na9_0,oU,oU]) rfl (XS.aload X9.here hx rfl (hb hby d49_233) rfl rfl (XS.iconst X9.here hx rfl (hb hby d49_235) (XS.aload X9.here hx rfl (hb hby d49_236) rfl rfl (XS.iconst X9.here hx rfl (hb hby d49_238) (XS.iload X9.here hx rfl (hb hby d49_239) rfl k)))))) ?_
  obtain ⟨T10, X10, e10, st10⟩ := own_cP X9 hx hZ hown (oH hw 158 rfl) (oH hw 159 rfl) (oH hw 131 rfl) (oH hw 160 rfl) (by decide) (rmz94 l Z a0 hw [] na7_0 ka7_0 z2_0 z2_1 z2_2 z2_3 na9_0 ka9_0 (0 : Int32) (0 : Int32) (0 : Int32) (0 : Int32) (0 : Int32) (0 : Int32) (0 : Int32) (0 : Int32) u8 zc fv T9.heap n0 Z9 c9_Vna7_0 g_na7_0 va9_0 g_na9_0 ne_na7_0_na9_0 c9_USS) (W := 0) (by decide) (by decide) (g := (mkF m 241 #[vR ob0, vR u8, vR ar2, vI 0, vI 4, vI 0, vR na7_0, vI 0, vR na9_0, oU, oU] [(.int 0), (.int 0), (.ref na9_0), (.int 0), (.ref na7_0)])) rfl (by rw [hml]; rfl) (argsL := [(.ref na7_0), (.int 0), (.ref na9_0), (.int 0), (.int 0)]) (rest := []) (lenOf pd_579 rfl) rfl rfl rfl (hb hby d49_241) rfl rfl (by decide) (by decide) (by decide : 2 ≤ _) (by decide : 12 ≤ _)
  refine oG m T10 255 #[vR ob0,vR u8,vR ar2,vI 0,vI 4,vI 0,vR na7_0,vI 0,vR na9_0,oU,oU] [(.int 1),(.int 0),(.ref na9_0),(.int 4),(.int 0),(.ref na7_0)] (fun _ k => st10 _ (XS.aload X10.here hx rfl (hb hby d49_244) rfl rfl (XS.iload X10.here hx rfl (hb hby d49_246) rfl (XS.iload X10.here hx rfl (hb hby d49_248) rfl (XS.aload X10.here hx rfl (hb hby d49_250) rfl rfl (XS.iload X10.here hx rfl (hb hby d49_252) rfl (XS.iconst X10.here hx rfl (hb hby d49_254) k))))))) ?_
  obtain ⟨v11, T11, Lc11, X11, hQ11, st11⟩ := own_cS X10 hx hZ hown (oH hw 171 rfl) (oH hw 172 rfl) (oH hw 54 rfl) (oH hw 173 rfl) (by decide) (rmz100 l Z a0 hw [] na7_0 ka7_0 z2_0 z2_1 z2_2 z2_3 na9_0 ka9_0 (0 : Int32) (0 : Int32) (0 : Int32) (0 : Int32) (0 : Int32) (0 : Int32) (0 : Int32) (0 : Int32) u8 zc fv T9.heap n0 Z9 c9_Vna7_0 g_na7_0 va9_0 g_na9_0 ne_na7_0_na9_0 c9_USS hq0 hq2 hq3 hq4 hq5 hq6) (W := 0) (by decide) (by decide) (g := (mkF m 255 #[vR ob0, vR u8, vR ar2, vI 0, vI 4, vI 0, vR na7_0, vI 0, vR na9_0, oU, oU] [(.int 1), (.int 0), (.ref na9_0), (.int 4), (.int 0), (.ref na7_0)])) rfl (by rw [hml]; rfl) (argsL := [(.ref na7_0), (.int 0), (.int 4), (.ref na9_0), (.int 0), (.int 1)]) (rest := []) (lenOf pd_653 rfl) rfl rfl rfl (hb hby d49_255) e10 rfl (by decide : 2 + 0 ≤ _) (by decide : 12 + 0 ≤ _)
  obtain ⟨rfl, Nq11, Kc11, wa11_0⟩ := hQ11
  have Kt11 := Kt9.trans Kc11 (fun x hx => by simp only [List.mem_cons, List.mem_singleton, List.not_mem_nil, or_false] at hx; rcases hx with rfl <;> first | (left; simp; done) | (right; assumption))
  have N11 := Fr.app N9 Nq11
  have Z11 : n0 ≤ T11.heap.size := Nat.le_trans Z9 Kc11.1
  have c11_Eob0 := c9_Eob0.keep Kc11
  have c11_Fob0_value := c9_Fob0_value.keep Kc11 (ninS ne_ob0_na9_0 nin0)
  have c11_Fob0_coder := c9_Fob0_coder.keep Kc11 (ninS ne_ob0_na9_0 nin0)
  have c11_Var2 := c9_Var2.keep Kc11 (ninS ne_ar2_na9_0 nin0)
  have c11_Ear2 := c9_Ear2.keep Kc11
  have c11_USS := c9_USS.keep Kc11 (own_nsS (own_nsA va9_0) own_ns0)
  have c11_Vna7_0 := c9_Vna7_0.keep Kc11 (ninS ne_na7_0_na9_0 nin0)
  refine oG m T11 273 #[vR ob0,vR u8,vR ar2,vI 0,vI 4,vI 2,vR na7_0,vI 0,vR na9_0,oU,oU] [(.int ((2 : Int32) <<< ((1 : Int32) &&& 31))),(.ref na9_0)] (fun _ k => st11 _ (XS.istore X11.here hx rfl (hb hby d49_258) rfl (l' := #[vR ob0,vR u8,vR ar2,vI 0,vI 4,vI 2,vR na7_0,vI 0,vR na9_0,oU,oU]) rfl (XS.iload X11.here hx rfl (hb hby d49_260) rfl (XS.iload X11.here hx rfl (hb hby d49_262) rfl (XS.icmpNo X11.here hx rfl (hb hby d49_264) rfl (feq (by decide)).1 (XS.aload X11.here hx rfl (hb hby d49_267) rfl rfl (XS.iload X11.here hx rfl (hb hby d49_269) rfl (XS.iconst X11.here hx rfl (hb hby d49_271) (XS.ishl X11.here hx rfl (hb hby d49_272) rfl k))))))))) ?_
  rw [show ((2 : Int32) <<< ((1 : Int32) &&& 31)) = (4 : Int32) from by decide]
  obtain ⟨v12, T12, Lc12, X12, hQ12, st12⟩ := own_cS X11 hx hZ hown (oH hw 201 rfl) (oH hw 202 rfl) (oH hw 88 rfl) (oH hw 203 rfl) (by decide) (rmz101 l Z a0 hw [] na9_0 ka9_0 (own_hi (own_hs (own_d4 z2_0 z2_1 z2_2 z2_3))) (own_lo (own_hs (own_d4 z2_0 z2_1 z2_2 z2_3))) (own_hi (own_ls (own_d4 z2_0 z2_1 z2_2 z2_3))) (own_lo (own_ls (own_d4 z2_0 z2_1 z2_2 z2_3))) (0 : Int32) (0 : Int32) (0 : Int32) (0 : Int32) u8 zc fv T11.heap n0 Z11 wa11_0 g_na9_0 c11_USS) (W := 0) (by decide) (by decide) (g := (mkF m 273 #[vR ob0, vR u8, vR ar2, vI 0, vI 4, vI 2, vR na7_0, vI 0, vR na9_0, oU, oU] [(.int 4), (.ref na9_0)])) rfl (by rw [hml]; rfl) (argsL := [(.ref na9_0), (.int 4)]) (rest := []) (lenOf pd_515 rfl) rfl rfl rfl (hb hby d49_273) rfl rfl (by decide : 2 + 1 ≤ _) (by decide : 12 + 4 ≤ _)
  obtain ⟨na12_0, ka12_0, rfl, Nq12, Kc12, sa12_0, va12_0⟩ := hQ12
  have Kt12 := Kt11.trans Kc12 (fun x hx => nomatch hx)
  have N12 := Fr.app N11 Nq12
  have Z12 : n0 ≤ T12.heap.size := Nat.le_trans Z11 Kc12.1
  have c12_Eob0 := c11_Eob0.keep Kc12
  have c12_Fob0_value := c11_Fob0_value.keep Kc12 nin0
  have c12_Fob0_coder := c11_Fob0_coder.keep Kc12 nin0
  have c12_Var2 := c11_Var2.keep Kc12 nin0
  have c12_Ear2 := c11_Ear2.keep Kc12
  have c12_USS := c11_USS.keep Kc12 own_ns0
  have c12_Vna7_0 := c11_Vna7_0.keep Kc12 nin0
  have c12_Vna9_0 := wa11_0.keep Kc12 nin0
  refine oG m T12 276 #[vR ob0,vR u8,vR ar2,vI 0,vI 4,vI 2,vR na7_0,vI 0,vR na9_0,oU,oU] [(.ref na12_0)] (fun _ k => st12 _ k) ?_
  have g_na12_0 : n0 ≤ na12_0 := Nat.le_trans Z11 sa12_0
  have sz_na12_0 : h0.size ≤ na12_0 := Nat.le_trans Kt11.1 sa12_0
  have ne_ob0_na12_0 : ob0 ≠ na12_0 := Nat.ne_of_lt (Nat.lt_of_lt_of_le c11_Eob0.lt sa12_0)
  have ne_ar2_na12_0 : ar2 ≠ na12_0 := Nat.ne_of_lt (Nat.lt_of_lt_of_le c11_Ear2.lt sa12_0)
  have ne_na7_0_na12_0 : na7_0 ≠ na12_0 := Nat.ne_of_lt (Nat.lt_of_lt_of_le c11_Vna7_0.lt sa12_0)
  have ne_na9_0_na12_0 : na9_0 ≠ na12_0 := Nat.ne_of_lt (Nat.lt_of_lt_of_le wa11_0.lt sa12_0)
  refine oG m T12 281 #[vR ob0,vR u8,vR ar2,vI 0,vI 4,vI 2,vR na7_0,vI 0,vR na12_0,oU,oU] [(.ref na12_0),(.ref ob0)] (fun _ k => XS.astore X12.here hx rfl (hb hby d49_276) rfl rfl (l' := #[vR ob0,vR u8,vR ar2,vI 0,vI 4,vI 2,vR na7_0,vI 0,vR na12_0,oU,oU]) rfl (XS.aloadN X12.here hx rfl (hb hby d49_278) rfl rfl (XS.aload X12.here hx rfl (hb hby d49_279) rfl rfl k))) ?_
  obtain ⟨T13, h13, X13, e13, W13, st13⟩ := putF X12 hx hZ hown (host := "") (Or.inl (oH hw 104 rfl)) Via.refl rfl c12_Fob0_value c12_Eob0 (Or.inr ⟨(oH hw 105 rfl), rfl, hnm⟩) (oH hw 53 rfl) (ty := (.array .byte)) (by decide) rfl rfl (g := (mkF m 281 #[vR ob0, vR u8, vR ar2, vI 0, vI 4, vI 2, vR na7_0, vI 0, vR na12_0, oU, oU] [(.ref na12_0), (.ref ob0)])) rfl rfl (hb hby d49_281)
  have c13_Eob0 := c12_Eob0.wr W13
  have c13_Fob0_value := c12_Fob0_value.same W13
  have c13_Fob0_coder := c12_Fob0_coder.other W13 (Or.inr (slot_ne (Or.inr (oH hw 107 rfl)) (Or.inr (oH hw 105 rfl)) (by decide) (by decide : parseFieldDescriptor "B" = some .byte) (by decide : parseFieldDescriptor "[B" = some (.array .byte))))
  have c13_Var2 := c12_Var2.other W13 (Ne.symm ne_ob0_ar2)
  have c13_Ear2 := c12_Ear2.wr W13
  have c13_USS := c12_USS.wr W13
  have c13_Vna7_0 := c12_Vna7_0.other W13 (Ne.symm ne_ob0_na7_0)
  have c13_Vna9_0 := c12_Vna9_0.other W13 (Ne.symm ne_ob0_na9_0)
  have c13_Vna12_0 := va12_0.other W13 (Ne.symm ne_ob0_na12_0)
  have K13 := Kt12.wr W13 (Or.inl (List.mem_of_getElem? (i := 0) rfl))
  have N13 := Fr.snoc X13 N12 g_ob0
  have Z13 : n0 ≤ h13.size := Nat.le_trans Z12 (Nat.le_of_eq W13.size.symm)
  refine oG m T13 286 #[vR ob0,vR u8,vR ar2,vI 0,vI 4,vI 2,vR na7_0,vI 0,vR na12_0,oU,oU] [(.int 1),(.ref ob0)] (fun _ k => st13 _ (XS.aloadN X13.here hx rfl (hb hby d49_284) rfl rfl (XS.iconst X13.here hx rfl (hb hby d49_285) k))) ?_
  obtain ⟨T14, h14, X14, e14, W14, st14⟩ := putFN X13 hx hZ hown (oH hw 106 rfl) Via.refl e13 c13_Fob0_coder c13_Eob0 (Or.inr ⟨(oH hw 107 rfl), rfl, hnm⟩) (oH hw 53 rfl) (ty := .byte) (v' := (.int 1)) (by decide) rfl (by first | exact fits_nar_byte _ | rfl | decide) (g := (mkF m 286 #[vR ob0, vR u8, vR ar2, vI 0, vI 4, vI 2, vR na7_0, vI 0, vR na12_0, oU, oU] [(.int 1), (.ref ob0)])) rfl rfl (hb hby d49_286)
  have c14_Eob0 := c13_Eob0.wr W14
  have c14_Fob0_value := c13_Fob0_value.other W14 (Or.inr (slot_ne (Or.inr (oH hw 105 rfl)) (Or.inr (oH hw 107 rfl)) (by decide) (by decide : parseFieldDescriptor "[B" = some (.array .byte)) (by decide : parseFieldDescriptor "B" = some .byte)))
  have c14_Fob0_coder := c13_Fob0_coder.same W14
  have c14_Var2 := c13_Var2.other W14 (Ne.symm ne_ob0_ar2)
  have c14_Ear2 := c13_Ear2.wr W14
  have c14_USS := c13_USS.wr W14
  have c14_Vna7_0 := c13_Vna7_0.other W14 (Ne.symm ne_ob0_na7_0)
  have c14_Vna9_0 := c13_Vna9_0.other W14 (Ne.symm ne_ob0_na9_0)
  have c14_Vna12_0 := c13_Vna12_0.other W14 (Ne.symm ne_ob0_na12_0)
  have K14 := K13.wr W14 (Or.inl (List.mem_of_getElem? (i := 0) rfl))
  have N14 := Fr.snoc X14 N13 g_ob0
  have Z14 : n0 ≤ h14.size := Nat.le_trans Z13 (Nat.le_of_eq W14.size.symm)
  refine oG m T14 879 #[vR ob0,vR u8,vR ar2,vI 0,vI 4,vI 2,vR na7_0,vI 0,vR na12_0,oU,oU] [] (fun _ k => st14 _ (XS.goto X14.here hx rfl (pc0 := 289) (pc' := 879) rfl (hb hby d49_289) (by decide) (by decide) k)) ?_
  refine own_ret0 X14 hx hlk Bd.returns (hb hby d49_879) (by decide) (by decide) ?_
  rw [e14]
  exact ⟨na12_0, ka12_0, (by first | rfl | decide), N14, K14, sz_na12_0, c14_Vna12_0, c14_Fob0_value, c14_Fob0_coder⟩
def Q_rmz103 (Z : State) (ob0 : Addr) (ar1 : Addr) (kr1 : ClassId) (z1_0 : Int32) (z1_1 : Int32) (z1_2 : Int32) (z1_3 : Int32) (u8 : Addr) (zc : Int32) (fv : Value) (h0 : Heap) (n0 : Nat) (v : Option Value) (h : Heap) (L : List Loc) : Prop := ∃ (NA0 : Addr) (KA0 : ClassId), v = none ∧ Fr n0 L ∧ Keep h0 h [ob0] ∧ h0.size ≤ NA0 ∧ Arv Z h NA0 KA0 .byte (4 : Int32) [(.int (own_hi (own_hs (own_d4 z1_0 z1_1 z1_2 z1_3)))), (.int (own_lo (own_hs (own_d4 z1_0 z1_1 z1_2 z1_3)))), (.int (own_hi (own_ls (own_d4 z1_0 z1_1 z1_2 z1_3)))), (.int (own_lo (own_ls (own_d4 z1_0 z1_1 z1_2 z1_3))))] (.int 0) ∧ Fld Z h ob0 "java/lang/String" "value" "[B" (.ref NA0) ∧ Fld Z h ob0 "java/lang/String" "coder" "B" (.int 1)
theorem rmz103 (l : Launch) (Z : State) (a0 : Array Value) (hw : oW a0 Z) (ws : List Jvm.Cond) (ob0 : Addr) (ar1 : Addr) (kr1 : ClassId) (z1_0 : Int32) (z1_1 : Int32) (z1_2 : Int32) (z1_3 : Int32) (u8 : Addr) (zc : Int32) (fv : Value) (h0 : Heap) (n0 : Nat) (Z0 : n0 ≤ h0.size) (E_ob0 : Exa Z h0 ob0 "java/lang/String") (g_ob0 : n0 ≤ ob0) (F_ob0_value : Fld Z h0 ob0 "java/lang/String" "value" "[B" .null) (F_ob0_coder : Fld Z h0 ob0 "java/lang/String" "coder" "B" (.int 0)) (V_ar1 : Arv Z h0 ar1 kr1 .byte (4 : Int32) [(.int z1_0), (.int z1_1), (.int z1_2), (.int z1_3)] (.int 0)) (g_ar1 : n0 ≤ ar1) (E_ar1 : Exa Z h0 ar1 "[B") (ne_ob0_ar1 : ob0 ≠ ar1) (SS : own_Sx Z h0 u8 zc fv) (hq0 : z1_0 < (0 : Int32)) (hq1 : ¬ (z1_0 &&& (254 : Int32)) = (194 : Int32)) (hq2 : ¬ (z1_0 >>> ((5 : Int32) &&& 31)) = (-2 : Int32)) (hq3 : ¬ (z1_0 >>> ((4 : Int32) &&& 31)) = (-2 : Int32)) (hq4 : (z1_0 >>> ((3 : Int32) &&& 31)) = (-2 : Int32)) (hq5 : (own_im4_0 z1_1 z1_2 z1_3) = (0 : Int32)) (hq6 : ¬ (own_sup_0 (own_d4 z1_0 z1_1 z1_2 z1_3)) = (0 : Int32)) : own_K l (⟨"java/lang/String", "<init>", "([BIILjava/nio/charset/Charset;)V"⟩ : MethodName) jdk_42_method_10_code 5 none ws ({ frames := 6, cells := 3, slots := 16, locals := 98 } : Room) Z h0 #[(.ref ob0), (.ref ar1), (.int 0), (.int 4), (.ref u8)] (Q_rmz103 Z ob0 ar1 kr1 z1_0 z1_1 z1_2 z1_3 u8 zc fv h0 n0) := by
  refine own_met (plainFor_of_name pn_22) ?_
  intro p e s m below meth c s₁ hx hby hlk hml hown hnm hrt hZ hh X0 e0
  have N0 := Fr.nil n0
  refine oG m s₁ 0 #[vR ob0,vR ar1,vI 0,vI 4,vR u8] [] (fun _ k => castTop (by first | (simp [entryFrame,mkF,argsToLocals,Value.category]; done) | rfl) k) ?_
  have K0 := Keep.refl h0 [ob0]
  refine oG m s₁ 3 #[vR ob0,vR ar1,vI 0,vI 4,vR u8] [(.ref u8),(.ref ob0)] (fun _ k => XS.aloadN X0.here hx rfl (hb hby d11_0) rfl rfl (XS.aload X0.here hx rfl (hb hby d11_1) rfl rfl k)) ?_
  obtain ⟨T1, X1, e1, st1⟩ := own_cP X0 hx hZ hown (oH hw 60 rfl) (oH hw 61 rfl) (oH hw 62 rfl) (oH hw 63 rfl) (by decide) (rmz8 l Z a0 hw []  u8 zc fv h0 n0 Z0  SS) (W := 1) (by decide) (by decide) (g := (mkF m 3 #[vR ob0, vR ar1, vI 0, vI 4, vR u8] [(.ref u8), (.ref ob0)])) rfl (by rw [hml]; rfl) (argsL := [(.ref u8)]) (rest := [(.ref ob0)]) (lenOf pd_180 rfl) rfl rfl rfl (hb hby d11_3) e0 rfl (by decide) (by decide) (by decide : 0 ≤ _) (by decide : 0 ≤ _)
  refine oG m T1 6 #[vR ob0,vR ar1,vI 0,vI 4,vR u8] [(.ref u8),(.ref ob0)] (fun _ k => st1 _ k) ?_
  obtain ⟨T2, X2, e2, st2⟩ := castY X1 hx hZ hown (oH hw 64 rfl) e1 (Ins.of_exa SS.eu (oH hw 65 rfl)) (g := (mkF m 6 #[vR ob0, vR ar1, vI 0, vI 4, vR u8] [(.ref u8), (.ref ob0)])) rfl rfl (hb hby d11_6)
  refine oG m T2 13 #[vR ob0,vR ar1,vI 0,vI 4,vR u8] [(.ref ar1),(.int 4),(.int 0),(.ref ar1),(.ref u8),(.ref ob0)] (fun _ k => st2 _ (XS.aloadN X2.here hx rfl (hb hby d11_9) rfl rfl (XS.iloadN X2.here hx rfl (hb hby d11_10) rfl (XS.iloadN X2.here hx rfl (hb hby d11_11) rfl (XS.aloadN X2.here hx rfl (hb hby d11_12) rfl rfl k))))) ?_
  obtain ⟨cl3, Ar3, -, S3, M3, -, -⟩ := id V_ar1
  have ql3 := len_of S3 M3
  refine own_go (S' := (T2.setTop (mkF m 14 #[vR ob0, vR ar1, vI 0, vI 4, vR u8] [(.int 4), (.int 4), (.int 0), (.ref ar1), (.ref u8), (.ref ob0)]))) (fun _ kont => X2.arraylength hx (by rw [e2]; exact Ar3.1) (State.isArrayOf_alike hZ.alike Ar3.2.1) (g := (mkF m 13 #[vR ob0, vR ar1, vI 0, vI 4, vR u8] [(.ref ar1), (.int 4), (.int 0), (.ref ar1), (.ref u8), (.ref ob0)])) rfl rfl (hb hby d11_13) _ (by rw [ql3]; exact kont)) ?_
  obtain ⟨T4, X4, e4, st4⟩ := own_cP X2 hx hZ hown (oH hw 66 rfl) (oH hw 67 rfl) (oH hw 54 rfl) (oH hw 68 rfl) (by decide) (rmz10 l Z a0 hw [] (0 : Int32) (4 : Int32) (4 : Int32) u8 zc fv h0 n0 Z0  SS (by decide) (by decide)) (W := 3) (by decide) (by decide) (g := (mkF m 14 #[vR ob0, vR ar1, vI 0, vI 4, vR u8] [(.int 4), (.int 4), (.int 0), (.ref ar1), (.ref u8), (.ref ob0)])) rfl (by rw [hml]; rfl) (argsL := [(.int 0), (.int 4), (.int 4)]) (rest := [(.ref ar1), (.ref u8), (.ref ob0)]) (lenOf pd_209 rfl) rfl rfl rfl (hb hby d11_14) e2 rfl (by decide) (by decide) (by decide : 0 ≤ _) (by decide : 0 ≤ _)
  refine oG m T4 18 #[vR ob0,vR ar1,vI 0,vI 4,vR u8] [(.int 4),(.int 0),(.ref ar1),(.ref u8),(.ref ob0)] (fun _ k => st4 _ (XS.iloadN X4.here hx rfl (hb hby d11_17) rfl k)) ?_
  obtain ⟨v5, _, ⟨T5, L5, k5, n5⟩, -, X5, ⟨Lc5, hQ5, l5, y5, z5⟩, st5⟩ := X4.specialBackH hx (y := (⟨"java/lang/String", "<init>", "(Ljava/nio/charset/Charset;[BII)V"⟩ : MethodName)) rfl hown (mvT hZ (oH hw 74 rfl)) (mvT hZ (oH hw 75 rfl)) (mvT hZ (oH hw 77 rfl)) (by decide) (backOfWith (W := 0) (rmz102 l Z a0 hw [] ob0 ar1 kr1 z1_0 z1_1 z1_2 z1_3 u8 zc fv h0 n0 Z0 E_ob0 g_ob0 F_ob0_value F_ob0_coder V_ar1 g_ar1 E_ar1 ne_ob0_ar1 SS hq0 hq1 hq2 hq3 hq4 hq5 hq6) hZ (oH hw 77 rfl) (oH hw 54 rfl) (by decide) (by decide)) (g := (mkF m 18 #[vR ob0, vR ar1, vI 0, vI 4, vR u8] [(.int 4), (.int 0), (.ref ar1), (.ref u8), (.ref ob0)])) rfl (by rw [hml]; rfl) (Steps.refl _) (a := ob0) (argsL := [(.ref u8), (.ref ar1), (.int 0), (.int 4)]) (rest := []) (lenOf pd_307 rfl) rfl (by show 2 * 0 + _ ≤ _; exact Nat.le_of_eq rfl) (hb hby d11_18) (fun _ _ => ⟨rfl, e4, (by decide : 0 + 3 ≤ _), (by decide : 0 + 16 ≤ _)⟩)
  dsimp only [Pt.U, Pt.locs, Pt.cells, Pt.slots] at X5 l5 y5 z5 st5 hQ5
  subst l5 y5 z5
  obtain ⟨na5_0, ka5_0, rfl, Nq5, Kc5, sa5_0, va5_0, wo5_0_value, wo5_0_coder⟩ := hQ5
  have Kt5 := K0.trans Kc5 (fun x hx => by simp only [List.mem_cons, List.mem_singleton, List.not_mem_nil, or_false] at hx; rcases hx with rfl <;> first | (left; simp; done) | (right; assumption))
  have N5 := Fr.app N0 Nq5
  have Z5 : n0 ≤ T5.heap.size := Nat.le_trans Z0 Kc5.1
  have c5_Eob0 := E_ob0.keep Kc5
  have c5_Var1 := V_ar1.keep Kc5 (ninS (Ne.symm ne_ob0_ar1) nin0)
  have c5_Ear1 := E_ar1.keep Kc5
  have c5_USS := SS.keep Kc5 (own_nsS (own_nsE E_ob0) own_ns0)
  refine oG m T5 21 #[vR ob0,vR ar1,vI 0,vI 4,vR u8] [] (fun _ k => st5.trans k) ?_
  have g_na5_0 : n0 ≤ na5_0 := Nat.le_trans Z0 sa5_0
  have sz_na5_0 : h0.size ≤ na5_0 := Nat.le_trans K0.1 sa5_0
  have ne_ob0_na5_0 : ob0 ≠ na5_0 := Nat.ne_of_lt (Nat.lt_of_lt_of_le E_ob0.lt sa5_0)
  have ne_ar1_na5_0 : ar1 ≠ na5_0 := Nat.ne_of_lt (Nat.lt_of_lt_of_le E_ar1.lt sa5_0)
  refine own_ret0 X5 hx hlk hrt (hb hby d11_21) (by decide) (by decide) ?_
  exact ⟨na5_0, ka5_0, (by first | rfl | decide), N5, Kt5, sz_na5_0, va5_0, wo5_0_value, wo5_0_coder⟩
def Q_rmz104 (Z : State) (ob0 : Addr) (ar0b : Addr) (kr0b : ClassId) (z0b_0 : Int32) (z0b_1 : Int32) (z0b_2 : Int32) (z0b_3 : Int32) (u8 : Addr) (zc : Int32) (fv : Value) (h0 : Heap) (n0 : Nat) (v : Option Value) (h : Heap) (L : List Loc) : Prop := ∃ (NA0 : Addr) (KA0 : ClassId), ∃ NO0 : Addr, v = some (.ref NO0) ∧ Fr n0 L ∧ Keep h0 h [] ∧ h0.size ≤ NA0 ∧ Arv Z h NA0 KA0 .byte (4 : Int32) [(.int (own_hi (own_hs (own_d4 z0b_0 z0b_1 z0b_2 z0b_3)))), (.int (own_lo (own_hs (own_d4 z0b_0 z0b_1 z0b_2 z0b_3)))), (.int (own_hi (own_ls (own_d4 z0b_0 z0b_1 z0b_2 z0b_3)))), (.int (own_lo (own_ls (own_d4 z0b_0 z0b_1 z0b_2 z0b_3))))] (.int 0) ∧ h0.size ≤ NO0 ∧ Exa Z h NO0 "java/lang/String" ∧ Fld Z h NO0 "java/lang/String" "value" "[B" (.ref NA0) ∧ Fld Z h NO0 "java/lang/String" "coder" "B" (.int 1)
theorem rmz104 (l : Launch) (Z : State) (a0 : Array Value) (hw : oW a0 Z) (ws : List Jvm.Cond) (ob0 : Addr) (ar0b : Addr) (kr0b : ClassId) (z0b_0 : Int32) (z0b_1 : Int32) (z0b_2 : Int32) (z0b_3 : Int32) (u8 : Addr) (zc : Int32) (fv : Value) (h0 : Heap) (n0 : Nat) (Z0 : n0 ≤ h0.size) (E_ob0 : Exa Z h0 ob0 "clearcut/Text") (g_ob0 : n0 ≤ ob0) (V_ar0b : Arv Z h0 ar0b kr0b .byte (4 : Int32) [(.int z0b_0), (.int z0b_1), (.int z0b_2), (.int z0b_3)] (.int 0)) (g_ar0b : n0 ≤ ar0b) (E_ar0b : Exa Z h0 ar0b "[B") (F_ob0_bytes : Fld Z h0 ob0 "clearcut/Text" "bytes" "[B" (.ref ar0b)) (ne_ob0_ar0b : ob0 ≠ ar0b) (SS : own_Sx Z h0 u8 zc fv) (hq0 : z0b_0 < (0 : Int32)) (hq1 : ¬ (z0b_0 &&& (254 : Int32)) = (194 : Int32)) (hq2 : ¬ (z0b_0 >>> ((5 : Int32) &&& 31)) = (-2 : Int32)) (hq3 : ¬ (z0b_0 >>> ((4 : Int32) &&& 31)) = (-2 : Int32)) (hq4 : (z0b_0 >>> ((3 : Int32) &&& 31)) = (-2 : Int32)) (hq5 : (own_im4_0 z0b_1 z0b_2 z0b_3) = (0 : Int32)) (hq6 : ¬ (own_sup_0 (own_d4 z0b_0 z0b_1 z0b_2 z0b_3)) = (0 : Int32)) : own_K l (⟨"clearcut/Text", "decode", "(II)Ljava/lang/String;"⟩ : MethodName) prog_60_method_17_code 3 (some (.object "java/lang/String")) ws ({ frames := 7, cells := 4, slots := 20, locals := 115 } : Room) Z h0 #[(.ref ob0), (.int 0), (.int 4)] (Q_rmz104 Z ob0 ar0b kr0b z0b_0 z0b_1 z0b_2 z0b_3 u8 zc fv h0 n0) := by
  refine own_met (plainFor_of_name pn_78) ?_
  intro p e s m below meth c s₁ hx hby hlk hml hown hnm hrt hZ hh X0 e0
  have N0 := Fr.nil n0
  refine oG m s₁ 0 #[vR ob0,vI 0,vI 4] [] (fun _ k => castTop (by first | (simp [entryFrame,mkF,argsToLocals,Value.category]; done) | rfl) k) ?_
  have K0 := Keep.refl h0 []
  obtain ⟨T1, h1, X1, e1, E1, A1, D1, -, st1⟩ := newO X0 hx hZ hown (oH hw 52 rfl) (oH hw 53 rfl) (oH hw 54 rfl) e0 (g := (mkF m 0 #[vR ob0, vI 0, vI 4] [])) rfl (hb hby d10_0) (by decide) (by decide)
  obtain ⟨b1, gz1⟩ : ∃ z, z = h0.size := ⟨_, rfl⟩
  rw [← gz1] at A1 D1 st1
  have sz_b1 : h0.size ≤ b1 := Nat.le_trans K0.1 (Nat.le_of_eq gz1.symm)
  have ne_ob0_b1 : ob0 ≠ b1 := Nat.ne_of_lt (by rw [gz1]; exact E_ob0.lt)
  have ne_ar0b_b1 : ar0b ≠ b1 := Nat.ne_of_lt (by rw [gz1]; exact V_ar0b.lt)
  have c1_Eob0 := E_ob0.ext E1
  have c1_Var0b := V_ar0b.ext E1
  have c1_Ear0b := E_ar0b.ext E1
  have c1_Fob0_bytes := F_ob0_bytes.ext E1
  have c1_USS := SS.ext E1
  have K1 := K0.ext E1
  have g_b1 : n0 ≤ b1 := Nat.le_trans Z0 (Nat.le_of_eq gz1.symm)
  have F1_value : Fld Z h1 b1 "java/lang/String" "value" "[B" .null := D1 (Or.inr (oH hw 105 rfl)) (ty := (.array .byte)) (by decide)
  have F1_coder : Fld Z h1 b1 "java/lang/String" "coder" "B" (.int 0) := D1 (Or.inr (oH hw 107 rfl)) (ty := .byte) (by decide)
  have Z1 : n0 ≤ h1.size := Nat.le_trans Z0 E1.1
  refine oG m T1 5 #[vR ob0,vI 0,vI 4] [(.ref ob0),(.ref b1),(.ref b1)] (fun _ k => st1 _ (XS.dup X1.here hx rfl (hb hby d10_3) rfl rfl (XS.aloadN X1.here hx rfl (hb hby d10_4) rfl rfl k))) ?_
  obtain ⟨T2, X2, e2, st2⟩ := getF X1 hx hZ hown (host := "") (Or.inl (oH hw 20 rfl)) Via.refl e1 c1_Fob0_bytes (g := (mkF m 5 #[vR ob0, vI 0, vI 4] [(.ref ob0), (.ref b1), (.ref b1)])) rfl rfl (hb hby d10_5)
  refine oG m T2 12 #[vR ob0,vI 0,vI 4] [(.int ((4 : Int32) - (0 : Int32))),(.int 0),(.ref ar0b),(.ref b1),(.ref b1)] (fun _ k => st2 _ (XS.iloadN X2.here hx rfl (hb hby d10_8) rfl (XS.iloadN X2.here hx rfl (hb hby d10_9) rfl (XS.iloadN X2.here hx rfl (hb hby d10_10) rfl (XS.isub X2.here hx rfl (hb hby d10_11) rfl k))))) ?_
  rw [show ((4 : Int32) - (0 : Int32)) = (4 : Int32) from by decide]
  have Sg3 := c1_USS.sU
  obtain ⟨T4, X4, e4, st4⟩ := getS2 X2 hx hZ hown (host := "") (Or.inl (oH hw 55 rfl)) Via.refl e2 Sg3 (g := (mkF m 12 #[vR ob0, vI 0, vI 4] [(.int 4), (.int 0), (.ref ar0b), (.ref b1), (.ref b1)])) rfl (hb hby d10_12)
  refine oG m T4 15 #[vR ob0,vI 0,vI 4] [(.ref u8),(.int 4),(.int 0),(.ref ar0b),(.ref b1),(.ref b1)] (fun _ k => st4 _ k) ?_
  obtain ⟨v5, _, ⟨T5, L5, k5, n5⟩, -, X5, ⟨Lc5, hQ5, l5, y5, z5⟩, st5⟩ := X4.specialBack hx (y := (⟨"java/lang/String", "<init>", "([BIILjava/nio/charset/Charset;)V"⟩ : MethodName)) rfl hown (mvT hZ (oH hw 57 rfl)) (mvT hZ (oH hw 58 rfl)) (mvT hZ (oH hw 59 rfl)) (by decide) (backOf (W := 1) (rmz103 l Z a0 hw [] b1 ar0b kr0b z0b_0 z0b_1 z0b_2 z0b_3 u8 zc fv h1 n0 Z1 A1 g_b1 F1_value F1_coder c1_Var0b g_ar0b c1_Ear0b (Ne.symm ne_ar0b_b1) c1_USS hq0 hq1 hq2 hq3 hq4 hq5 hq6) hZ (oH hw 59 rfl) (oH hw 54 rfl) (by decide) (by decide)) (g := (mkF m 15 #[vR ob0, vI 0, vI 4] [(.ref u8), (.int 4), (.int 0), (.ref ar0b), (.ref b1), (.ref b1)])) rfl (by rw [hml]; rfl) (Steps.refl _) (a := b1) (argsL := [(.ref ar0b), (.int 0), (.int 4), (.ref u8)]) (rest := [(.ref b1)]) (lenOf pd_310 rfl) rfl (by show 2 * 0 + _ ≤ _; exact Nat.le_of_eq rfl) (hb hby d10_15) (fun _ _ => ⟨rfl, e4, (by decide : 1 + 3 ≤ _), (by decide : 4 + 16 ≤ _)⟩)
  dsimp only [Pt.U, Pt.locs, Pt.cells, Pt.slots] at X5 l5 y5 z5 st5 hQ5
  subst l5 y5 z5
  obtain ⟨na5_0, ka5_0, rfl, Nq5, Kc5, sa5_0, va5_0, wo5_0_value, wo5_0_coder⟩ := hQ5
  have Kt5 := K1.trans Kc5 (fun x hx => by simp only [List.mem_cons, List.mem_singleton, List.not_mem_nil, or_false] at hx; rcases hx with rfl <;> first | (left; simp; done) | (right; assumption))
  have N5 := Fr.app N0 Nq5
  have Z5 : n0 ≤ T5.heap.size := Nat.le_trans Z1 Kc5.1
  have c5_Eob0 := c1_Eob0.keep Kc5
  have c5_Var0b := c1_Var0b.keep Kc5 (ninS ne_ar0b_b1 nin0)
  have c5_Ear0b := c1_Ear0b.keep Kc5
  have c5_Fob0_bytes := c1_Fob0_bytes.keep Kc5 (ninS ne_ob0_b1 nin0)
  have c5_USS := c1_USS.keep Kc5 (own_nsS (own_nsE A1) own_ns0)
  have c5_Eb1 := A1.keep Kc5
  refine oG m T5 18 #[vR ob0,vI 0,vI 4] [(.ref b1)] (fun _ k => st5.trans k) ?_
  have g_na5_0 : n0 ≤ na5_0 := Nat.le_trans Z1 sa5_0
  have sz_na5_0 : h0.size ≤ na5_0 := Nat.le_trans K1.1 sa5_0
  have ne_ob0_na5_0 : ob0 ≠ na5_0 := Nat.ne_of_lt (Nat.lt_of_lt_of_le c1_Eob0.lt sa5_0)
  have ne_ar0b_na5_0 : ar0b ≠ na5_0 := Nat.ne_of_lt (Nat.lt_of_lt_of_le c1_Ear0b.lt sa5_0)
  have ne_b1_na5_0 : b1 ≠ na5_0 := Nat.ne_of_lt (Nat.lt_of_lt_of_le A1.lt sa5_0)
  refine own_retA X5 hx hlk (rfl) rfl hrt (hb hby d10_18) (by decide) (by decide) ?_
  exact ⟨na5_0, ka5_0, b1, (by first | rfl | decide), N5, Kt5, sz_na5_0, va5_0, sz_b1, c5_Eb1, wo5_0_value, wo5_0_coder⟩
def Q_rmz105 (Z : State) (ob0 : Addr) (ar0b : Addr) (kr0b : ClassId) (z0b_0 : Int32) (z0b_1 : Int32) (z0b_2 : Int32) (z0b_3 : Int32) (u8 : Addr) (zc : Int32) (fv : Value) (h0 : Heap) (n0 : Nat) (v : Option Value) (h : Heap) (L : List Loc) : Prop := ∃ (NA0 : Addr) (KA0 : ClassId), ∃ NO0 : Addr, v = some (.ref NO0) ∧ Fr n0 L ∧ Keep h0 h [] ∧ h0.size ≤ NA0 ∧ Arv Z h NA0 KA0 .byte (4 : Int32) [(.int (own_hi (own_hs (own_d4 z0b_0 z0b_1 z0b_2 z0b_3)))), (.int (own_lo (own_hs (own_d4 z0b_0 z0b_1 z0b_2 z0b_3)))), (.int (own_hi (own_ls (own_d4 z0b_0 z0b_1 z0b_2 z0b_3)))), (.int (own_lo (own_ls (own_d4 z0b_0 z0b_1 z0b_2 z0b_3))))] (.int 0) ∧ h0.size ≤ NO0 ∧ Exa Z h NO0 "java/lang/String" ∧ Fld Z h NO0 "java/lang/String" "value" "[B" (.ref NA0) ∧ Fld Z h NO0 "java/lang/String" "coder" "B" (.int 1)
theorem rmz105 (l : Launch) (Z : State) (a0 : Array Value) (hw : oW a0 Z) (ws : List Jvm.Cond) (ob0 : Addr) (ar0b : Addr) (kr0b : ClassId) (z0b_0 : Int32) (z0b_1 : Int32) (z0b_2 : Int32) (z0b_3 : Int32) (u8 : Addr) (zc : Int32) (fv : Value) (h0 : Heap) (n0 : Nat) (Z0 : n0 ≤ h0.size) (E_ob0 : Exa Z h0 ob0 "clearcut/Text") (g_ob0 : n0 ≤ ob0) (V_ar0b : Arv Z h0 ar0b kr0b .byte (4 : Int32) [(.int z0b_0), (.int z0b_1), (.int z0b_2), (.int z0b_3)] (.int 0)) (g_ar0b : n0 ≤ ar0b) (E_ar0b : Exa Z h0 ar0b "[B") (F_ob0_bytes : Fld Z h0 ob0 "clearcut/Text" "bytes" "[B" (.ref ar0b)) (ne_ob0_ar0b : ob0 ≠ ar0b) (SS : own_Sx Z h0 u8 zc fv) (hq0 : z0b_0 < (0 : Int32)) (hq1 : ¬ (z0b_0 &&& (254 : Int32)) = (194 : Int32)) (hq2 : ¬ (z0b_0 >>> ((5 : Int32) &&& 31)) = (-2 : Int32)) (hq3 : ¬ (z0b_0 >>> ((4 : Int32) &&& 31)) = (-2 : Int32)) (hq4 : (z0b_0 >>> ((3 : Int32) &&& 31)) = (-2 : Int32)) (hq5 : (own_im4_0 z0b_1 z0b_2 z0b_3) = (0 : Int32)) (hq6 : ¬ (own_sup_0 (own_d4 z0b_0 z0b_1 z0b_2 z0b_3)) = (0 : Int32)) : own_K l (⟨"clearcut/Text", "substring", "(II)Ljava/lang/String;"⟩ : MethodName) prog_60_method_13_code 4 (some (.object "java/lang/String")) ws ({ frames := 8, cells := 4, slots := 20, locals := 129 } : Room) Z h0 #[(.ref ob0), (.int 0), (.int 4)] (Q_rmz105 Z ob0 ar0b kr0b z0b_0 z0b_1 z0b_2 z0b_3 u8 zc fv h0 n0) := by
  refine own_met (plainFor_of_name pn_78) ?_
  intro p e s m below meth c s₁ hx hby hlk hml hown hnm hrt hZ hh X0 e0
  have N0 := Fr.nil n0
  refine oG m s₁ 0 #[vR ob0,vI 0,vI 4,oU] [] (fun _ k => castTop (by first | (simp [entryFrame,mkF,argsToLocals,Value.category]; done) | rfl) k) ?_
  have K0 := Keep.refl h0 []
  refine oG m s₁ 3 #[vR ob0,vI 0,vI 4,oU] [(.int ((4 : Int32) - (0 : Int32)))] (fun _ k => XS.iloadN X0.here hx rfl (hb hby d9_0) rfl (XS.iloadN X0.here hx rfl (hb hby d9_1) rfl (XS.isub X0.here hx rfl (hb hby d9_2) rfl k))) ?_
  rw [show ((4 : Int32) - (0 : Int32)) = (4 : Int32) from by decide]
  refine oG m s₁ 11 #[vR ob0,vI 0,vI 4,oU] [(.int 4),(.int 0),(.ref ob0)] (fun _ k => (X0.ldcInt hx hown (mvT hZ (oH hw 47 rfl)) (g := (mkF m 3 #[vR ob0,vI 0,vI 4,oU] [(.int 4)])) rfl (hb hby d9_3)) _ (XS.icmpNo X0.here hx rfl (hb hby d9_5) rfl (flt (by decide)).2.2.1 (XS.aloadN X0.here hx rfl (hb hby d9_8) rfl rfl (XS.iloadN X0.here hx rfl (hb hby d9_9) rfl (XS.iloadN X0.here hx rfl (hb hby d9_10) rfl k))))) ?_
  obtain ⟨cq1, qp1, qp1'⟩ := E_ob0.cell
  obtain ⟨v1, _, ⟨T1, L1, k1, n1⟩, -, X1, ⟨Lc1, hQ1, l1, y1, z1⟩, st1⟩ := X0.privateBack hx (y := (⟨"clearcut/Text", "decode", "(II)Ljava/lang/String;"⟩ : MethodName)) hown (mvT hZ (oH hw 48 rfl)) (mvT hZ (oH hw 49 rfl)) (own_selP (args := #[]) (mvT hZ (oH hw 13 rfl)) (mvP hZ (oH hw 50 rfl)) (mvT hZ (oH hw 49 rfl)) (by decide)) (Cond.privateMethod_at (mvP hZ (oH hw 50 rfl) (args := #[]))) (mvT hZ (oH hw 51 rfl)) (by decide) (backOf (W := 0) (rmz104 l Z a0 hw [] ob0 ar0b kr0b z0b_0 z0b_1 z0b_2 z0b_3 u8 zc fv h0 n0 Z0 E_ob0 g_ob0 V_ar0b g_ar0b E_ar0b F_ob0_bytes ne_ob0_ar0b SS hq0 hq1 hq2 hq3 hq4 hq5 hq6) hZ (oH hw 51 rfl) (oH hw 5 rfl) (by decide) (by decide)) (g := (mkF m 11 #[vR ob0, vI 0, vI 4, oU] [(.int 4), (.int 0), (.ref ob0)])) rfl (by rw [hml]; rfl) (Steps.refl _) (a := ob0) (by rw [e0]; exact qp1) qp1' (argsL := [(.int 0), (.int 4)]) (rest := []) (lenOf pd_313 rfl) rfl (by show 2 * 0 + _ ≤ _; exact Nat.le_of_eq rfl) (hb hby d9_11) (fun _ _ => ⟨rfl, e0, (by decide : 0 + 4 ≤ _), (by decide : 0 + 20 ≤ _)⟩)
  dsimp only [Pt.U, Pt.locs, Pt.cells, Pt.slots] at X1 l1 y1 z1 st1 hQ1
  subst l1 y1 z1
  obtain ⟨na1_0, ka1_0, no1_0, rfl, Nq1, Kc1, sa1_0, va1_0, so1_0, eo1_0, fo1_0_value, fo1_0_coder⟩ := hQ1
  have Kt1 := K0.trans Kc1 (fun x hx => nomatch hx)
  have N1 := Fr.app N0 Nq1
  have Z1 : n0 ≤ T1.heap.size := Nat.le_trans Z0 Kc1.1
  have c1_Eob0 := E_ob0.keep Kc1
  have c1_Var0b := V_ar0b.keep Kc1 nin0
  have c1_Ear0b := E_ar0b.keep Kc1
  have c1_Fob0_bytes := F_ob0_bytes.keep Kc1 nin0
  have c1_USS := SS.keep Kc1 own_ns0
  refine oG m T1 14 #[vR ob0,vI 0,vI 4,oU] [(.ref no1_0)] (fun _ k => st1.trans k) ?_
  have g_na1_0 : n0 ≤ na1_0 := Nat.le_trans Z0 sa1_0
  have sz_na1_0 : h0.size ≤ na1_0 := Nat.le_trans K0.1 sa1_0
  have ne_ob0_na1_0 : ob0 ≠ na1_0 := Nat.ne_of_lt (Nat.lt_of_lt_of_le E_ob0.lt sa1_0)
  have ne_ar0b_na1_0 : ar0b ≠ na1_0 := Nat.ne_of_lt (Nat.lt_of_lt_of_le E_ar0b.lt sa1_0)
  have g_no1_0 : n0 ≤ no1_0 := Nat.le_trans Z0 so1_0
  have sz_no1_0 : h0.size ≤ no1_0 := Nat.le_trans K0.1 so1_0
  have ne_ob0_no1_0 : ob0 ≠ no1_0 := Nat.ne_of_lt (Nat.lt_of_lt_of_le E_ob0.lt so1_0)
  have ne_ar0b_no1_0 : ar0b ≠ no1_0 := Nat.ne_of_lt (Nat.lt_of_lt_of_le E_ar0b.lt so1_0)
  refine own_retA X1 hx hlk (rfl) rfl hrt (hb hby d9_14) (by decide) (by decide) ?_
  exact ⟨na1_0, ka1_0, no1_0, (by first | rfl | decide), N1, Kt1, sz_na1_0, va1_0, sz_no1_0, eo1_0, fo1_0_value, fo1_0_coder⟩
theorem rmz106 (l : Launch) (Z : State) (a0 : Array Value) (hw : oW a0 Z) (ws : List Jvm.Cond) (ob0 : Addr) (ar0v : Addr) (kr0v : ClassId) (z0v_0 : Int32) (z0v_1 : Int32) (z0v_2 : Int32) (z0v_3 : Int32) (u8 : Addr) (zc : Int32) (fv : Value) (h0 : Heap) (n0 : Nat) (Z0 : n0 ≤ h0.size) (E_ob0 : Exa Z h0 ob0 "java/lang/String") (g_ob0 : n0 ≤ ob0) (V_ar0v : Arv Z h0 ar0v kr0v .byte (4 : Int32) [(.int z0v_0), (.int z0v_1), (.int z0v_2), (.int z0v_3)] (.int 0)) (g_ar0v : n0 ≤ ar0v) (F_ob0_value : Fld Z h0 ob0 "java/lang/String" "value" "[B" (.ref ar0v)) (F_ob0_coder : Fld Z h0 ob0 "java/lang/String" "coder" "B" (.int 1)) (ne_ob0_ar0v : ob0 ≠ ar0v) (SS : own_Sx Z h0 u8 zc fv)  : own_K l (⟨"java/lang/String", "coder", "()B"⟩ : MethodName) jdk_42_method_152_code 1 (some .byte) ws ({ frames := 0, cells := 0, slots := 0, locals := 0 } : Room) Z h0 #[(.ref ob0)] (own_QP h0 (some (.int 1))) := by
  refine own_met (plainFor_of_name pn_22) ?_
  intro p e s m below meth c s₁ hx hby hlk hml hown hnm hrt hZ hh X0 e0
  have N0 := Fr.nil n0
  refine oG m s₁ 0 #[vR ob0] [] (fun _ k => castTop (by first | (simp [entryFrame,mkF,argsToLocals,Value.category]; done) | rfl) k) ?_
  have K0 := Keep.refl h0 []
  have Sg1 := SS.sC
  obtain ⟨T2, X2, e2, st2⟩ := getS2 X0 hx hZ hown (host := "") (Or.inl (oH hw 81 rfl)) Via.refl e0 Sg1 (g := (mkF m 0 #[vR ob0] [])) rfl (hb hby d21_0)
  refine oG m T2 7 #[vR ob0] [(.ref ob0)] (fun _ k => st2 _ (XS.ifNo X2.here hx rfl (hb hby d21_3) rfl ((if0 _ _).trans (feq SS.nz).1) (XS.aloadN X2.here hx rfl (hb hby d21_6) rfl rfl k))) ?_
  obtain ⟨T3, X3, e3, st3⟩ := getF X2 hx hZ hown (host := "") (Or.inl (oH hw 106 rfl)) Via.refl e2 F_ob0_coder (g := (mkF m 7 #[vR ob0] [(.ref ob0)])) rfl rfl (hb hby d21_7)
  refine oG m T3 14 #[vR ob0] [(.int 1)] (fun _ k => st3 _ (XS.goto X3.here hx rfl (pc0 := 10) (pc' := 14) rfl (hb hby d21_10) (by decide) (by decide) k)) ?_
  refine own_retN (t := .byte) X3 hx hlk (by simp) hrt (hb hby d21_14) (by decide) (by decide) ?_
  exact ⟨by first | rfl | decide, e3, rfl⟩
theorem rmz107 (l : Launch) (Z : State) (a0 : Array Value) (hw : oW a0 Z) (ws : List Jvm.Cond) (ob0 : Addr) (ar0v : Addr) (kr0v : ClassId) (z0v_0 : Int32) (z0v_1 : Int32) (z0v_2 : Int32) (z0v_3 : Int32) (u8 : Addr) (zc : Int32) (fv : Value) (h0 : Heap) (n0 : Nat) (Z0 : n0 ≤ h0.size) (E_ob0 : Exa Z h0 ob0 "java/lang/String") (g_ob0 : n0 ≤ ob0) (V_ar0v : Arv Z h0 ar0v kr0v .byte (4 : Int32) [(.int z0v_0), (.int z0v_1), (.int z0v_2), (.int z0v_3)] (.int 0)) (g_ar0v : n0 ≤ ar0v) (F_ob0_value : Fld Z h0 ob0 "java/lang/String" "value" "[B" (.ref ar0v)) (F_ob0_coder : Fld Z h0 ob0 "java/lang/String" "coder" "B" (.int 1)) (ne_ob0_ar0v : ob0 ≠ ar0v) (SS : own_Sx Z h0 u8 zc fv)  : own_K l (⟨"java/lang/String", "length", "()I"⟩ : MethodName) jdk_42_method_54_code 1 (some .int) ws ({ frames := 1, cells := 0, slots := 0, locals := 13 } : Room) Z h0 #[(.ref ob0)] (own_QP h0 (some (.int 2))) := by
  refine own_met (plainFor_of_name pn_22) ?_
  intro p e s m below meth c s₁ hx hby hlk hml hown hnm hrt hZ hh X0 e0
  have N0 := Fr.nil n0
  refine oG m s₁ 0 #[vR ob0] [] (fun _ k => castTop (by first | (simp [entryFrame,mkF,argsToLocals,Value.category]; done) | rfl) k) ?_
  have K0 := Keep.refl h0 []
  refine oG m s₁ 1 #[vR ob0] [(.ref ob0)] (fun _ k => XS.aloadN X0.here hx rfl (hb hby d20_0) rfl rfl k) ?_
  obtain ⟨T1, X1, e1, st1⟩ := getF X0 hx hZ hown (host := "") (Or.inl (oH hw 104 rfl)) Via.refl e0 F_ob0_value (g := (mkF m 1 #[vR ob0] [(.ref ob0)])) rfl rfl (hb hby d20_1)
  refine oG m T1 4 #[vR ob0] [(.ref ar0v)] (fun _ k => st1 _ k) ?_
  obtain ⟨cl2, Ar2, -, S2, M2, -, -⟩ := id V_ar0v
  have ql2 := len_of S2 M2
  refine own_go (S' := (T1.setTop (mkF m 5 #[vR ob0] [(.int 4)]))) (fun _ kont => X1.arraylength hx (by rw [e1]; exact Ar2.1) (State.isArrayOf_alike hZ.alike Ar2.2.1) (g := (mkF m 4 #[vR ob0] [(.ref ar0v)])) rfl rfl (hb hby d20_4) _ (by rw [ql2]; exact kont)) ?_
  refine oG m T1 6 #[vR ob0] [(.ref ob0),(.int 4)] (fun _ k => XS.aloadN X1.here hx rfl (hb hby d20_5) rfl rfl k) ?_
  obtain ⟨cq3, kq3, q3a, q3b, q3c⟩ := isOf hZ e1 E_ob0
  obtain ⟨v3, _, ⟨T3, L3, k3, n3⟩, -, X3, ⟨Lc3, hQ3, l3, y3, z3⟩, st3⟩ := X1.virtualBack hx (y := (⟨"java/lang/String", "coder", "()B"⟩ : MethodName)) (z := (⟨"java/lang/String", "coder", "()B"⟩ : MethodName)) hown (mvT hZ (oH hw 114 rfl)) (mvT hZ (oH hw 115 rfl)) (notFace_of_selects (args := #[]) (mvT hZ (oH hw 117 rfl))) (mvT hZ (oH hw 117 rfl)) (mvT hZ (oH hw 116 rfl)) (by decide) (backOf (W := 1) (rmz106 l Z a0 hw [] ob0 ar0v kr0v z0v_0 z0v_1 z0v_2 z0v_3 u8 zc fv h0 n0 Z0 E_ob0 g_ob0 V_ar0v g_ar0v F_ob0_value F_ob0_coder ne_ob0_ar0v SS) hZ (oH hw 118 rfl) (oH hw 54 rfl) (by decide) (by decide)) q3a q3c (g := (mkF m 6 #[vR ob0] [(.ref ob0), (.int 4)])) rfl (by rw [hml]; rfl) (Steps.refl _) (argsL := []) (rest := [(.int 4)]) (lenOf pd_326 rfl) rfl (by show 2 * 0 + _ ≤ _; exact Nat.le_of_eq rfl) (hb hby d20_6) (fun _ _ => ⟨rfl, e1, (by decide : 0 + 0 ≤ _), (by decide : 0 + 0 ≤ _)⟩)
  dsimp only [Pt.U, Pt.locs, Pt.cells, Pt.slots] at X3 l3 y3 z3 st3 hQ3
  subst l3 y3 z3
  obtain ⟨rfl, eh3, rfl⟩ := hQ3
  have N3 := Fr.app N0 (Fr.nil n0)
  refine oG m T3 10 #[vR ob0] [(.int ((4 : Int32) >>> ((1 : Int32) &&& 31)))] (fun _ k => st3.trans (XS.ishr X3.here hx rfl (hb hby d20_9) rfl k)) ?_
  rw [show ((4 : Int32) >>> ((1 : Int32) &&& 31)) = (2 : Int32) from by decide]
  refine own_retI X3 hx hlk hrt (hb hby d20_10) (by decide) (by decide) ?_
  exact ⟨by first | rfl | decide, eh3, rfl⟩
theorem rmz108 (l : Launch) (Z : State) (a0 : Array Value) (hw : oW a0 Z) (ws : List Jvm.Cond) (ob0 : Addr) (ar0v : Addr) (kr0v : ClassId) (z0v_0 : Int32) (z0v_1 : Int32) (z0v_2 : Int32) (z0v_3 : Int32) (u8 : Addr) (zc : Int32) (fv : Value) (h0 : Heap) (n0 : Nat) (Z0 : n0 ≤ h0.size) (E_ob0 : Exa Z h0 ob0 "java/lang/String") (g_ob0 : n0 ≤ ob0) (V_ar0v : Arv Z h0 ar0v kr0v .byte (4 : Int32) [(.int z0v_0), (.int z0v_1), (.int z0v_2), (.int z0v_3)] (.int 0)) (g_ar0v : n0 ≤ ar0v) (F_ob0_value : Fld Z h0 ob0 "java/lang/String" "value" "[B" (.ref ar0v)) (F_ob0_coder : Fld Z h0 ob0 "java/lang/String" "coder" "B" (.int 1)) (ne_ob0_ar0v : ob0 ≠ ar0v) (SS : own_Sx Z h0 u8 zc fv)  : own_K l (⟨"java/lang/String", "isLatin1", "()Z"⟩ : MethodName) jdk_42_method_154_code 1 (some .boolean) ws ({ frames := 0, cells := 0, slots := 0, locals := 0 } : Room) Z h0 #[(.ref ob0)] (own_QP h0 (some (.int 0))) := by
  refine own_met (plainFor_of_name pn_22) ?_
  intro p e s m below meth c s₁ hx hby hlk hml hown hnm hrt hZ hh X0 e0
  have N0 := Fr.nil n0
  refine oG m s₁ 0 #[vR ob0] [] (fun _ k => castTop (by first | (simp [entryFrame,mkF,argsToLocals,Value.category]; done) | rfl) k) ?_
  have K0 := Keep.refl h0 []
  have Sg1 := SS.sC
  obtain ⟨T2, X2, e2, st2⟩ := getS2 X0 hx hZ hown (host := "") (Or.inl (oH hw 81 rfl)) Via.refl e0 Sg1 (g := (mkF m 0 #[vR ob0] [])) rfl (hb hby d23_0)
  refine oG m T2 7 #[vR ob0] [(.ref ob0)] (fun _ k => st2 _ (XS.ifNo X2.here hx rfl (hb hby d23_3) rfl ((if0 _ _).trans (feq SS.nz).1) (XS.aloadN X2.here hx rfl (hb hby d23_6) rfl rfl k))) ?_
  obtain ⟨T3, X3, e3, st3⟩ := getF X2 hx hZ hown (host := "") (Or.inl (oH hw 106 rfl)) Via.refl e2 F_ob0_coder (g := (mkF m 7 #[vR ob0] [(.ref ob0)])) rfl rfl (hb hby d23_7)
  refine oG m T3 18 #[vR ob0] [(.int 0)] (fun _ k => st3 _ (XS.ifYes X3.here hx rfl (pc0 := 10) (pc' := 17) rfl (hb hby d23_10) rfl ((if0 _ _).trans (feq (by decide)).2) (by decide) (by decide) (XS.iconst X3.here hx rfl (hb hby d23_17) k))) ?_
  refine own_retN (t := .boolean) X3 hx hlk (by simp) hrt (hb hby d23_18) (by decide) (by decide) ?_
  exact ⟨by first | rfl | decide, e3, rfl⟩
theorem rmz109 (l : Launch) (Z : State) (a0 : Array Value) (hw : oW a0 Z) (ws : List Jvm.Cond) (ar1 : Addr) (kr1 : ClassId) (z1_0 : Int32) (z1_1 : Int32) (z1_2 : Int32) (z1_3 : Int32) (u8 : Addr) (zc : Int32) (fv : Value) (h0 : Heap) (n0 : Nat) (Z0 : n0 ≤ h0.size) (V_ar1 : Arv Z h0 ar1 kr1 .byte (4 : Int32) [(.int z1_0), (.int z1_1), (.int z1_2), (.int z1_3)] (.int 0)) (g_ar1 : n0 ≤ ar1)  (SS : own_Sx Z h0 u8 zc fv)  : own_K l (⟨"java/lang/StringUTF16", "checkIndex", "(I[B)V"⟩ : MethodName) jdk_52_method_91_code 2 none ws ({ frames := 2, cells := 0, slots := 0, locals := 27 } : Room) Z h0 #[(.int 0), (.ref ar1)] (own_QP h0 (none)) := by
  refine own_met (plainFor_of_name pn_537) ?_
  intro p e s m below meth c s₁ hx hby hlk hml hown hnm hrt hZ hh X0 e0
  have N0 := Fr.nil n0
  refine oG m s₁ 0 #[vI 0,vR ar1] [] (fun _ k => castTop (by first | (simp [entryFrame,mkF,argsToLocals,Value.category]; done) | rfl) k) ?_
  have K0 := Keep.refl h0 []
  refine oG m s₁ 2 #[vI 0,vR ar1] [(.ref ar1),(.int 0)] (fun _ k => XS.iloadN X0.here hx rfl (hb hby d42_0) rfl (XS.aloadN X0.here hx rfl (hb hby d42_1) rfl rfl k)) ?_
  obtain ⟨T1, X1, e1, st1⟩ := own_cP X0 hx hZ hown (oH hw 167 rfl) (oH hw 168 rfl) (oH hw 152 rfl) (oH hw 169 rfl) (by decide) (rmz43 l Z a0 hw [] ar1 kr1 z1_0 z1_1 z1_2 z1_3 u8 zc fv h0 n0 Z0 V_ar1 g_ar1 SS) (W := 1) (by decide) (by decide) (g := (mkF m 2 #[vI 0, vR ar1] [(.ref ar1), (.int 0)])) rfl (by rw [hml]; rfl) (argsL := [(.ref ar1)]) (rest := [(.int 0)]) (lenOf pd_566 rfl) rfl rfl rfl (hb hby d42_2) e0 rfl (by decide) (by decide) (by decide : 0 ≤ _) (by decide : 0 ≤ _)
  refine oG m T1 5 #[vI 0,vR ar1] [(.int 2),(.int 0)] (fun _ k => st1 _ k) ?_
  obtain ⟨T2, X2, e2, st2⟩ := own_cP X1 hx hZ hown (oH hw 211 rfl) (oH hw 134 rfl) (oH hw 54 rfl) (oH hw 135 rfl) (by decide) (rmz24 l Z a0 hw [] (0 : Int32) (2 : Int32) u8 zc fv h0 n0 Z0  SS (by decide) (by decide)) (W := 0) (by decide) (by decide) (g := (mkF m 5 #[vI 0, vR ar1] [(.int 2), (.int 0)])) rfl (by rw [hml]; rfl) (argsL := [(.int 0), (.int 2)]) (rest := []) (lenOf pd_270 rfl) rfl rfl rfl (hb hby d42_5) e1 rfl (by decide) (by decide) (by decide : 0 ≤ _) (by decide : 0 ≤ _)
  refine oG m T2 8 #[vI 0,vR ar1] [] (fun _ k => st2 _ k) ?_
  refine own_ret0 X2 hx hlk hrt (hb hby d42_8) (by decide) (by decide) ?_
  exact ⟨by first | rfl | decide, e2, rfl⟩
theorem rmz110 (l : Launch) (Z : State) (a0 : Array Value) (hw : oW a0 Z) (ws : List Jvm.Cond) (ar0 : Addr) (kr0 : ClassId) (z0_0 : Int32) (z0_1 : Int32) (z0_2 : Int32) (z0_3 : Int32) (u8 : Addr) (zc : Int32) (fv : Value) (h0 : Heap) (n0 : Nat) (Z0 : n0 ≤ h0.size) (V_ar0 : Arv Z h0 ar0 kr0 .byte (4 : Int32) [(.int z0_0), (.int z0_1), (.int z0_2), (.int z0_3)] (.int 0)) (g_ar0 : n0 ≤ ar0)  (SS : own_Sx Z h0 u8 zc fv)  : own_K l (⟨"java/lang/StringUTF16", "getChar", "([BI)C"⟩ : MethodName) jdk_52_method_5_code 2 (some .char) ws ({ frames := 0, cells := 0, slots := 0, locals := 0 } : Room) Z h0 #[(.ref ar0), (.int 0)] (own_QP h0 (some (.int (nar .char ((((z0_0 &&& (255 : Int32)) <<< ((0 : Int32) &&& 31)) ||| ((z0_1 &&& (255 : Int32)) <<< ((8 : Int32) &&& 31))).toUInt32.toUInt16.toUInt32.toInt32))))) := by
  refine own_met (plainFor_of_name pn_537) ?_
  intro p e s m below meth c s₁ hx hby hlk hml hown hnm hrt hZ hh X0 e0
  have N0 := Fr.nil n0
  refine oG m s₁ 0 #[vR ar0,vI 0] [] (fun _ k => castTop (by first | (simp [entryFrame,mkF,argsToLocals,Value.category]; done) | rfl) k) ?_
  have K0 := Keep.refl h0 []
  have Sg1 := SS.sA
  obtain ⟨T2, X2, e2, st2⟩ := getS2 X0 hx hZ hown (host := "") (Or.inl (oH hw 194 rfl)) Via.refl e0 Sg1 (g := (mkF m 0 #[vR ar0, vI 0] [])) rfl (hb hby d43_0)
  refine oG m T2 31 #[vR ar0,vI 0] [(.int ((0 : Int32) <<< ((1 : Int32) &&& 31)))] (fun _ k => st2 _ (XS.ifYes X2.here hx rfl (pc0 := 3) (pc' := 28) rfl (hb hby d43_3) rfl ((if0 _ _).trans (feq (by decide)).2) (by decide) (by decide) (XS.iloadN X2.here hx rfl (hb hby d43_28) rfl (XS.iconst X2.here hx rfl (hb hby d43_29) (XS.ishl X2.here hx rfl (hb hby d43_30) rfl k))))) ?_
  rw [show ((0 : Int32) <<< ((1 : Int32) &&& 31)) = (0 : Int32) from by decide]
  refine oG m T2 37 #[vR ar0,vI ((0 : Int32) + (1 : Int32))] [(.int 0),(.ref ar0)] (fun _ k => XS.istoreN X2.here hx rfl (hb hby d43_31) rfl (l' := #[vR ar0,vI 0]) rfl (XS.aloadN X2.here hx rfl (hb hby d43_32) rfl rfl (XS.iloadN X2.here hx rfl (hb hby d43_33) rfl (XS.iinc X2.here hx rfl (hb hby d43_34) rfl (l' := #[vR ar0,vI ((0 : Int32) + (1 : Int32))]) rfl k)))) ?_
  rw [show ((0 : Int32) + (1 : Int32)) = (1 : Int32) from by decide]
  obtain ⟨cl3, Ar3, -, S3, -, H3, -⟩ := id V_ar0
  have hin3 := inb_of (j := (0 : Int32)) S3 ⟨by decide, by decide⟩
  have hat3 := Has.at (v := (.int z0_0)) H3 hin3 (by first | rfl | decide)
  refine own_go (S' := (T2.setTop (mkF m 38 #[vR ar0, vI 1] [(.int z0_0)]))) (fun _ kont => X2.baloadBytes hx (j := (0 : Int32)) (v := (.int z0_0)) (by rw [e2]; exact Ar3.1) (State.isArrayOf_alike hZ.alike Ar3.2.1) Ar3.2.2 hin3 hat3 (g := (mkF m 37 #[vR ar0, vI 1] [(.int 0), (.ref ar0)])) rfl rfl (hb hby d43_37) _ kont) ?_
  refine oG m T2 42 #[vR ar0,vI 1] [(.int (z0_0 &&& (255 : Int32)))] (fun _ k => XS.sipush X2.here hx rfl (hb hby d43_38) (XS.iand X2.here hx rfl (hb hby d43_41) rfl k)) ?_
  have Sg4 := SS.sH
  obtain ⟨T5, X5, e5, st5⟩ := getS2 X2 hx hZ hown (host := "") (Or.inl (oH hw 195 rfl)) Via.refl e2 Sg4 (g := (mkF m 42 #[vR ar0, vI 1] [(.int (z0_0 &&& (255 : Int32)))])) rfl (hb hby d43_42)
  refine oG m T5 48 #[vR ar0,vI 1] [(.int 1),(.ref ar0),(.int ((z0_0 &&& (255 : Int32)) <<< ((0 : Int32) &&& 31)))] (fun _ k => st5 _ (XS.ishl X5.here hx rfl (hb hby d43_45) rfl (XS.aloadN X5.here hx rfl (hb hby d43_46) rfl rfl (XS.iloadN X5.here hx rfl (hb hby d43_47) rfl k)))) ?_
  obtain ⟨cl6, Ar6, -, S6, -, H6, -⟩ := id V_ar0
  have hin6 := inb_of (j := (1 : Int32)) S6 ⟨by decide, by decide⟩
  have hat6 := Has.at (v := (.int z0_1)) H6 hin6 (by first | rfl | decide)
  refine own_go (S' := (T5.setTop (mkF m 49 #[vR ar0, vI 1] [(.int z0_1), (.int ((z0_0 &&& (255 : Int32)) <<< ((0 : Int32) &&& 31)))]))) (fun _ kont => X5.baloadBytes hx (j := (1 : Int32)) (v := (.int z0_1)) (by rw [e5]; exact Ar6.1) (State.isArrayOf_alike hZ.alike Ar6.2.1) Ar6.2.2 hin6 hat6 (g := (mkF m 48 #[vR ar0, vI 1] [(.int 1), (.ref ar0), (.int ((z0_0 &&& (255 : Int32)) <<< ((0 : Int32) &&& 31)))])) rfl rfl (hb hby d43_48) _ kont) ?_
  refine oG m T5 53 #[vR ar0,vI 1] [(.int (z0_1 &&& (255 : Int32))),(.int ((z0_0 &&& (255 : Int32)) <<< ((0 : Int32) &&& 31)))] (fun _ k => XS.sipush X5.here hx rfl (hb hby d43_49) (XS.iand X5.here hx rfl (hb hby d43_52) rfl k)) ?_
  have Sg7 := SS.sL
  obtain ⟨T8, X8, e8, st8⟩ := getS2 X5 hx hZ hown (host := "") (Or.inl (oH hw 196 rfl)) Via.refl e5 Sg7 (g := (mkF m 53 #[vR ar0, vI 1] [(.int (z0_1 &&& (255 : Int32))), (.int ((z0_0 &&& (255 : Int32)) <<< ((0 : Int32) &&& 31)))])) rfl (hb hby d43_53)
  refine oG m T8 59 #[vR ar0,vI 1] [(.int ((((z0_0 &&& (255 : Int32)) <<< ((0 : Int32) &&& 31)) ||| ((z0_1 &&& (255 : Int32)) <<< ((8 : Int32) &&& 31))).toUInt32.toUInt16.toUInt32.toInt32))] (fun _ k => st8 _ (XS.ishl X8.here hx rfl (hb hby d43_56) rfl (XS.ior X8.here hx rfl (hb hby d43_57) rfl (XS.i2c X8.here hx rfl (hb hby d43_58) rfl k)))) ?_
  refine own_retN (t := .char) X8 hx hlk (by simp) hrt (hb hby d43_59) (by decide) (by decide) ?_
  exact ⟨by first | rfl | decide, e8, rfl⟩
theorem rmz111 (l : Launch) (Z : State) (a0 : Array Value) (hw : oW a0 Z) (ws : List Jvm.Cond) (ar0 : Addr) (kr0 : ClassId) (z0_0 : Int32) (z0_1 : Int32) (z0_2 : Int32) (z0_3 : Int32) (u8 : Addr) (zc : Int32) (fv : Value) (h0 : Heap) (n0 : Nat) (Z0 : n0 ≤ h0.size) (V_ar0 : Arv Z h0 ar0 kr0 .byte (4 : Int32) [(.int z0_0), (.int z0_1), (.int z0_2), (.int z0_3)] (.int 0)) (g_ar0 : n0 ≤ ar0)  (SS : own_Sx Z h0 u8 zc fv)  : own_K l (⟨"java/lang/StringUTF16", "charAt", "([BI)C"⟩ : MethodName) jdk_52_method_83_code 2 (some .char) ws ({ frames := 3, cells := 0, slots := 0, locals := 40 } : Room) Z h0 #[(.ref ar0), (.int 0)] (own_QP h0 (some (.int (nar .char (nar .char ((((z0_0 &&& (255 : Int32)) <<< ((0 : Int32) &&& 31)) ||| ((z0_1 &&& (255 : Int32)) <<< ((8 : Int32) &&& 31))).toUInt32.toUInt16.toUInt32.toInt32)))))) := by
  refine own_met (plainFor_of_name pn_537) ?_
  intro p e s m below meth c s₁ hx hby hlk hml hown hnm hrt hZ hh X0 e0
  have N0 := Fr.nil n0
  refine oG m s₁ 0 #[vR ar0,vI 0] [] (fun _ k => castTop (by first | (simp [entryFrame,mkF,argsToLocals,Value.category]; done) | rfl) k) ?_
  have K0 := Keep.refl h0 []
  refine oG m s₁ 2 #[vR ar0,vI 0] [(.ref ar0),(.int 0)] (fun _ k => XS.iloadN X0.here hx rfl (hb hby d41_0) rfl (XS.aloadN X0.here hx rfl (hb hby d41_1) rfl rfl k)) ?_
  obtain ⟨T1, X1, e1, st1⟩ := own_cP X0 hx hZ hown (oH hw 208 rfl) (oH hw 209 rfl) (oH hw 152 rfl) (oH hw 210 rfl) (by decide) (rmz109 l Z a0 hw [] ar0 kr0 z0_0 z0_1 z0_2 z0_3 u8 zc fv h0 n0 Z0 V_ar0 g_ar0 SS) (W := 0) (by decide) (by decide) (g := (mkF m 2 #[vR ar0, vI 0] [(.ref ar0), (.int 0)])) rfl (by rw [hml]; rfl) (argsL := [(.int 0), (.ref ar0)]) (rest := []) (lenOf pd_684 rfl) rfl rfl rfl (hb hby d41_2) e0 rfl (by decide) (by decide) (by decide : 0 ≤ _) (by decide : 0 ≤ _)
  refine oG m T1 7 #[vR ar0,vI 0] [(.int 0),(.ref ar0)] (fun _ k => st1 _ (XS.aloadN X1.here hx rfl (hb hby d41_5) rfl rfl (XS.iloadN X1.here hx rfl (hb hby d41_6) rfl k))) ?_
  obtain ⟨T2, X2, e2, st2⟩ := own_cP X1 hx hZ hown (oH hw 212 rfl) (oH hw 213 rfl) (oH hw 152 rfl) (oH hw 214 rfl) (by decide) (rmz110 l Z a0 hw [] ar0 kr0 z0_0 z0_1 z0_2 z0_3 u8 zc fv h0 n0 Z0 V_ar0 g_ar0 SS) (W := 0) (by decide) (by decide) (g := (mkF m 7 #[vR ar0, vI 0] [(.int 0), (.ref ar0)])) rfl (by rw [hml]; rfl) (argsL := [(.ref ar0), (.int 0)]) (rest := []) (lenOf pd_372 rfl) rfl rfl rfl (hb hby d41_7) e1 rfl (by decide) (by decide) (by decide : 0 ≤ _) (by decide : 0 ≤ _)
  refine oG m T2 10 #[vR ar0,vI 0] [(.int (nar .char ((((z0_0 &&& (255 : Int32)) <<< ((0 : Int32) &&& 31)) ||| ((z0_1 &&& (255 : Int32)) <<< ((8 : Int32) &&& 31))).toUInt32.toUInt16.toUInt32.toInt32)))] (fun _ k => st2 _ k) ?_
  refine own_retN (t := .char) X2 hx hlk (by simp) hrt (hb hby d41_10) (by decide) (by decide) ?_
  exact ⟨by first | rfl | decide, e2, rfl⟩
theorem rmz112 (l : Launch) (Z : State) (a0 : Array Value) (hw : oW a0 Z) (ws : List Jvm.Cond) (ob0 : Addr) (ar0v : Addr) (kr0v : ClassId) (z0v_0 : Int32) (z0v_1 : Int32) (z0v_2 : Int32) (z0v_3 : Int32) (u8 : Addr) (zc : Int32) (fv : Value) (h0 : Heap) (n0 : Nat) (Z0 : n0 ≤ h0.size) (E_ob0 : Exa Z h0 ob0 "java/lang/String") (g_ob0 : n0 ≤ ob0) (V_ar0v : Arv Z h0 ar0v kr0v .byte (4 : Int32) [(.int z0v_0), (.int z0v_1), (.int z0v_2), (.int z0v_3)] (.int 0)) (g_ar0v : n0 ≤ ar0v) (F_ob0_value : Fld Z h0 ob0 "java/lang/String" "value" "[B" (.ref ar0v)) (F_ob0_coder : Fld Z h0 ob0 "java/lang/String" "coder" "B" (.int 1)) (ne_ob0_ar0v : ob0 ≠ ar0v) (SS : own_Sx Z h0 u8 zc fv)  : own_K l (⟨"java/lang/String", "charAt", "(I)C"⟩ : MethodName) jdk_42_method_56_code 2 (some .char) ws ({ frames := 4, cells := 0, slots := 0, locals := 53 } : Room) Z h0 #[(.ref ob0), (.int 0)] (own_QP h0 (some (.int (nar .char (nar .char (nar .char ((((z0v_0 &&& (255 : Int32)) <<< ((0 : Int32) &&& 31)) ||| ((z0v_1 &&& (255 : Int32)) <<< ((8 : Int32) &&& 31))).toUInt32.toUInt16.toUInt32.toInt32))))))) := by
  refine own_met (plainFor_of_name pn_22) ?_
  intro p e s m below meth c s₁ hx hby hlk hml hown hnm hrt hZ hh X0 e0
  have N0 := Fr.nil n0
  refine oG m s₁ 0 #[vR ob0,vI 0] [] (fun _ k => castTop (by first | (simp [entryFrame,mkF,argsToLocals,Value.category]; done) | rfl) k) ?_
  have K0 := Keep.refl h0 []
  refine oG m s₁ 1 #[vR ob0,vI 0] [(.ref ob0)] (fun _ k => XS.aloadN X0.here hx rfl (hb hby d22_0) rfl rfl k) ?_
  obtain ⟨cq1, kq1, q1a, q1b, q1c⟩ := isOf hZ e0 E_ob0
  obtain ⟨v1, _, ⟨T1, L1, k1, n1⟩, -, X1, ⟨Lc1, hQ1, l1, y1, z1⟩, st1⟩ := X0.virtualBack hx (y := (⟨"java/lang/String", "isLatin1", "()Z"⟩ : MethodName)) (z := (⟨"java/lang/String", "isLatin1", "()Z"⟩ : MethodName)) hown (mvT hZ (oH hw 124 rfl)) (mvT hZ (oH hw 125 rfl)) (notFace_of_selects (args := #[]) (mvT hZ (oH hw 127 rfl))) (mvT hZ (oH hw 127 rfl)) (mvT hZ (oH hw 126 rfl)) (by decide) (backOf (W := 0) (rmz108 l Z a0 hw [] ob0 ar0v kr0v z0v_0 z0v_1 z0v_2 z0v_3 u8 zc fv h0 n0 Z0 E_ob0 g_ob0 V_ar0v g_ar0v F_ob0_value F_ob0_coder ne_ob0_ar0v SS) hZ (oH hw 128 rfl) (oH hw 54 rfl) (by decide) (by decide)) q1a q1c (g := (mkF m 1 #[vR ob0, vI 0] [(.ref ob0)])) rfl (by rw [hml]; rfl) (Steps.refl _) (argsL := []) (rest := []) (lenOf pd_340 rfl) rfl (by show 2 * 0 + _ ≤ _; exact Nat.le_of_eq rfl) (hb hby d22_1) (fun _ _ => ⟨rfl, e0, (by decide : 0 + 0 ≤ _), (by decide : 0 + 0 ≤ _)⟩)
  dsimp only [Pt.U, Pt.locs, Pt.cells, Pt.slots] at X1 l1 y1 z1 st1 hQ1
  subst l1 y1 z1
  obtain ⟨rfl, eh1, rfl⟩ := hQ1
  have N1 := Fr.app N0 (Fr.nil n0)
  refine oG m T1 17 #[vR ob0,vI 0] [(.ref ob0)] (fun _ k => st1.trans (XS.ifYes X1.here hx rfl (pc0 := 4) (pc' := 16) rfl (hb hby d22_4) rfl ((if0 _ _).trans (teq (by decide)).1) (by decide) (by decide) (XS.aloadN X1.here hx rfl (hb hby d22_16) rfl rfl k))) ?_
  obtain ⟨T2, X2, e2, st2⟩ := getF X1 hx hZ hown (host := "") (Or.inl (oH hw 104 rfl)) Via.refl eh1 F_ob0_value (g := (mkF m 17 #[vR ob0, vI 0] [(.ref ob0)])) rfl rfl (hb hby d22_17)
  refine oG m T2 21 #[vR ob0,vI 0] [(.int 0),(.ref ar0v)] (fun _ k => st2 _ (XS.iloadN X2.here hx rfl (hb hby d22_20) rfl k)) ?_
  obtain ⟨T3, X3, e3, st3⟩ := own_cP X2 hx hZ hown (oH hw 205 rfl) (oH hw 206 rfl) (oH hw 152 rfl) (oH hw 207 rfl) (by decide) (rmz111 l Z a0 hw [] ar0v kr0v z0v_0 z0v_1 z0v_2 z0v_3 u8 zc fv h0 n0 Z0 V_ar0v g_ar0v SS) (W := 0) (by decide) (by decide) (g := (mkF m 21 #[vR ob0, vI 0] [(.int 0), (.ref ar0v)])) rfl (by rw [hml]; rfl) (argsL := [(.ref ar0v), (.int 0)]) (rest := []) (lenOf pd_372 rfl) rfl rfl rfl (hb hby d22_21) e2 rfl (by decide) (by decide) (by decide : 0 ≤ _) (by decide : 0 ≤ _)
  refine oG m T3 24 #[vR ob0,vI 0] [(.int (nar .char (nar .char ((((z0v_0 &&& (255 : Int32)) <<< ((0 : Int32) &&& 31)) ||| ((z0v_1 &&& (255 : Int32)) <<< ((8 : Int32) &&& 31))).toUInt32.toUInt16.toUInt32.toInt32))))] (fun _ k => st3 _ k) ?_
  refine own_retN (t := .char) X3 hx hlk (by simp) hrt (hb hby d22_24) (by decide) (by decide) ?_
  exact ⟨by first | rfl | decide, e3, rfl⟩
theorem rmz113 (l : Launch) (Z : State) (a0 : Array Value) (hw : oW a0 Z) (ws : List Jvm.Cond) (ar1 : Addr) (kr1 : ClassId) (z1_0 : Int32) (z1_1 : Int32) (z1_2 : Int32) (z1_3 : Int32) (u8 : Addr) (zc : Int32) (fv : Value) (h0 : Heap) (n0 : Nat) (Z0 : n0 ≤ h0.size) (V_ar1 : Arv Z h0 ar1 kr1 .byte (4 : Int32) [(.int z1_0), (.int z1_1), (.int z1_2), (.int z1_3)] (.int 0)) (g_ar1 : n0 ≤ ar1)  (SS : own_Sx Z h0 u8 zc fv)  : own_K l (⟨"java/lang/StringUTF16", "checkIndex", "(I[B)V"⟩ : MethodName) jdk_52_method_91_code 2 none ws ({ frames := 2, cells := 0, slots := 0, locals := 27 } : Room) Z h0 #[(.int 1), (.ref ar1)] (own_QP h0 (none)) := by
  refine own_met (plainFor_of_name pn_537) ?_
  intro p e s m below meth c s₁ hx hby hlk hml hown hnm hrt hZ hh X0 e0
  have N0 := Fr.nil n0
  refine oG m s₁ 0 #[vI 1,vR ar1] [] (fun _ k => castTop (by first | (simp [entryFrame,mkF,argsToLocals,Value.category]; done) | rfl) k) ?_
  have K0 := Keep.refl h0 []
  refine oG m s₁ 2 #[vI 1,vR ar1] [(.ref ar1),(.int 1)] (fun _ k => XS.iloadN X0.here hx rfl (hb hby d42_0) rfl (XS.aloadN X0.here hx rfl (hb hby d42_1) rfl rfl k)) ?_
  obtain ⟨T1, X1, e1, st1⟩ := own_cP X0 hx hZ hown (oH hw 167 rfl) (oH hw 168 rfl) (oH hw 152 rfl) (oH hw 169 rfl) (by decide) (rmz43 l Z a0 hw [] ar1 kr1 z1_0 z1_1 z1_2 z1_3 u8 zc fv h0 n0 Z0 V_ar1 g_ar1 SS) (W := 1) (by decide) (by decide) (g := (mkF m 2 #[vI 1, vR ar1] [(.ref ar1), (.int 1)])) rfl (by rw [hml]; rfl) (argsL := [(.ref ar1)]) (rest := [(.int 1)]) (lenOf pd_566 rfl) rfl rfl rfl (hb hby d42_2) e0 rfl (by decide) (by decide) (by decide : 0 ≤ _) (by decide : 0 ≤ _)
  refine oG m T1 5 #[vI 1,vR ar1] [(.int 2),(.int 1)] (fun _ k => st1 _ k) ?_
  obtain ⟨T2, X2, e2, st2⟩ := own_cP X1 hx hZ hown (oH hw 211 rfl) (oH hw 134 rfl) (oH hw 54 rfl) (oH hw 135 rfl) (by decide) (rmz24 l Z a0 hw [] (1 : Int32) (2 : Int32) u8 zc fv h0 n0 Z0  SS (by decide) (by decide)) (W := 0) (by decide) (by decide) (g := (mkF m 5 #[vI 1, vR ar1] [(.int 2), (.int 1)])) rfl (by rw [hml]; rfl) (argsL := [(.int 1), (.int 2)]) (rest := []) (lenOf pd_270 rfl) rfl rfl rfl (hb hby d42_5) e1 rfl (by decide) (by decide) (by decide : 0 ≤ _) (by decide : 0 ≤ _)
  refine oG m T2 8 #[vI 1,vR ar1] [] (fun _ k => st2 _ k) ?_
  refine own_ret0 X2 hx hlk hrt (hb hby d42_8) (by decide) (by decide) ?_
  exact ⟨by first | rfl | decide, e2, rfl⟩
theorem rmz114 (l : Launch) (Z : State) (a0 : Array Value) (hw : oW a0 Z) (ws : List Jvm.Cond) (ar0 : Addr) (kr0 : ClassId) (z0_0 : Int32) (z0_1 : Int32) (z0_2 : Int32) (z0_3 : Int32) (u8 : Addr) (zc : Int32) (fv : Value) (h0 : Heap) (n0 : Nat) (Z0 : n0 ≤ h0.size) (V_ar0 : Arv Z h0 ar0 kr0 .byte (4 : Int32) [(.int z0_0), (.int z0_1), (.int z0_2), (.int z0_3)] (.int 0)) (g_ar0 : n0 ≤ ar0)  (SS : own_Sx Z h0 u8 zc fv)  : own_K l (⟨"java/lang/StringUTF16", "getChar", "([BI)C"⟩ : MethodName) jdk_52_method_5_code 2 (some .char) ws ({ frames := 0, cells := 0, slots := 0, locals := 0 } : Room) Z h0 #[(.ref ar0), (.int 1)] (own_QP h0 (some (.int (nar .char ((((z0_2 &&& (255 : Int32)) <<< ((0 : Int32) &&& 31)) ||| ((z0_3 &&& (255 : Int32)) <<< ((8 : Int32) &&& 31))).toUInt32.toUInt16.toUInt32.toInt32))))) := by
  refine own_met (plainFor_of_name pn_537) ?_
  intro p e s m below meth c s₁ hx hby hlk hml hown hnm hrt hZ hh X0 e0
  have N0 := Fr.nil n0
  refine oG m s₁ 0 #[vR ar0,vI 1] [] (fun _ k => castTop (by first | (simp [entryFrame,mkF,argsToLocals,Value.category]; done) | rfl) k) ?_
  have K0 := Keep.refl h0 []
  have Sg1 := SS.sA
  obtain ⟨T2, X2, e2, st2⟩ := getS2 X0 hx hZ hown (host := "") (Or.inl (oH hw 194 rfl)) Via.refl e0 Sg1 (g := (mkF m 0 #[vR ar0, vI 1] [])) rfl (hb hby d43_0)
  refine oG m T2 31 #[vR ar0,vI 1] [(.int ((1 : Int32) <<< ((1 : Int32) &&& 31)))] (fun _ k => st2 _ (XS.ifYes X2.here hx rfl (pc0 := 3) (pc' := 28) rfl (hb hby d43_3) rfl ((if0 _ _).trans (feq (by decide)).2) (by decide) (by decide) (XS.iloadN X2.here hx rfl (hb hby d43_28) rfl (XS.iconst X2.here hx rfl (hb hby d43_29) (XS.ishl X2.here hx rfl (hb hby d43_30) rfl k))))) ?_
  rw [show ((1 : Int32) <<< ((1 : Int32) &&& 31)) = (2 : Int32) from by decide]
  refine oG m T2 37 #[vR ar0,vI ((2 : Int32) + (1 : Int32))] [(.int 2),(.ref ar0)] (fun _ k => XS.istoreN X2.here hx rfl (hb hby d43_31) rfl (l' := #[vR ar0,vI 2]) rfl (XS.aloadN X2.here hx rfl (hb hby d43_32) rfl rfl (XS.iloadN X2.here hx rfl (hb hby d43_33) rfl (XS.iinc X2.here hx rfl (hb hby d43_34) rfl (l' := #[vR ar0,vI ((2 : Int32) + (1 : Int32))]) rfl k)))) ?_
  rw [show ((2 : Int32) + (1 : Int32)) = (3 : Int32) from by decide]
  obtain ⟨cl3, Ar3, -, S3, -, H3, -⟩ := id V_ar0
  have hin3 := inb_of (j := (2 : Int32)) S3 ⟨by decide, by decide⟩
  have hat3 := Has.at (v := (.int z0_2)) H3 hin3 (by first | rfl | decide)
  refine own_go (S' := (T2.setTop (mkF m 38 #[vR ar0, vI 3] [(.int z0_2)]))) (fun _ kont => X2.baloadBytes hx (j := (2 : Int32)) (v := (.int z0_2)) (by rw [e2]; exact Ar3.1) (State.isArrayOf_alike hZ.alike Ar3.2.1) Ar3.2.2 hin3 hat3 (g := (mkF m 37 #[vR ar0, vI 3] [(.int 2), (.ref ar0)])) rfl rfl (hb hby d43_37) _ kont) ?_
  refine oG m T2 42 #[vR ar0,vI 3] [(.int (z0_2 &&& (255 : Int32)))] (fun _ k => XS.sipush X2.here hx rfl (hb hby d43_38) (XS.iand X2.here hx rfl (hb hby d43_41) rfl k)) ?_
  have Sg4 := SS.sH
  obtain ⟨T5, X5, e5, st5⟩ := getS2 X2 hx hZ hown (host := "") (Or.inl (oH hw 195 rfl)) Via.refl e2 Sg4 (g := (mkF m 42 #[vR ar0, vI 3] [(.int (z0_2 &&& (255 : Int32)))])) rfl (hb hby d43_42)
  refine oG m T5 48 #[vR ar0,vI 3] [(.int 3),(.ref ar0),(.int ((z0_2 &&& (255 : Int32)) <<< ((0 : Int32) &&& 31)))] (fun _ k => st5 _ (XS.ishl X5.here hx rfl (hb hby d43_45) rfl (XS.aloadN X5.here hx rfl (hb hby d43_46) rfl rfl (XS.iloadN X5.here hx rfl (hb hby d43_47) rfl k)))) ?_
  obtain ⟨cl6, Ar6, -, S6, -, H6, -⟩ := id V_ar0
  have hin6 := inb_of (j := (3 : Int32)) S6 ⟨by decide, by decide⟩
  have hat6 := Has.at (v := (.int z0_3)) H6 hin6 (by first | rfl | decide)
  refine own_go (S' := (T5.setTop (mkF m 49 #[vR ar0, vI 3] [(.int z0_3), (.int ((z0_2 &&& (255 : Int32)) <<< ((0 : Int32) &&& 31)))]))) (fun _ kont => X5.baloadBytes hx (j := (3 : Int32)) (v := (.int z0_3)) (by rw [e5]; exact Ar6.1) (State.isArrayOf_alike hZ.alike Ar6.2.1) Ar6.2.2 hin6 hat6 (g := (mkF m 48 #[vR ar0, vI 3] [(.int 3), (.ref ar0), (.int ((z0_2 &&& (255 : Int32)) <<< ((0 : Int32) &&& 31)))])) rfl rfl (hb hby d43_48) _ kont) ?_
  refine oG m T5 53 #[vR ar0,vI 3] [(.int (z0_3 &&& (255 : Int32))),(.int ((z0_2 &&& (255 : Int32)) <<< ((0 : Int32) &&& 31)))] (fun _ k => XS.sipush X5.here hx rfl (hb hby d43_49) (XS.iand X5.here hx rfl (hb hby d43_52) rfl k)) ?_
  have Sg7 := SS.sL
  obtain ⟨T8, X8, e8, st8⟩ := getS2 X5 hx hZ hown (host := "") (Or.inl (oH hw 196 rfl)) Via.refl e5 Sg7 (g := (mkF m 53 #[vR ar0, vI 3] [(.int (z0_3 &&& (255 : Int32))), (.int ((z0_2 &&& (255 : Int32)) <<< ((0 : Int32) &&& 31)))])) rfl (hb hby d43_53)
  refine oG m T8 59 #[vR ar0,vI 3] [(.int ((((z0_2 &&& (255 : Int32)) <<< ((0 : Int32) &&& 31)) ||| ((z0_3 &&& (255 : Int32)) <<< ((8 : Int32) &&& 31))).toUInt32.toUInt16.toUInt32.toInt32))] (fun _ k => st8 _ (XS.ishl X8.here hx rfl (hb hby d43_56) rfl (XS.ior X8.here hx rfl (hb hby d43_57) rfl (XS.i2c X8.here hx rfl (hb hby d43_58) rfl k)))) ?_
  refine own_retN (t := .char) X8 hx hlk (by simp) hrt (hb hby d43_59) (by decide) (by decide) ?_
  exact ⟨by first | rfl | decide, e8, rfl⟩
theorem rmz115 (l : Launch) (Z : State) (a0 : Array Value) (hw : oW a0 Z) (ws : List Jvm.Cond) (ar0 : Addr) (kr0 : ClassId) (z0_0 : Int32) (z0_1 : Int32) (z0_2 : Int32) (z0_3 : Int32) (u8 : Addr) (zc : Int32) (fv : Value) (h0 : Heap) (n0 : Nat) (Z0 : n0 ≤ h0.size) (V_ar0 : Arv Z h0 ar0 kr0 .byte (4 : Int32) [(.int z0_0), (.int z0_1), (.int z0_2), (.int z0_3)] (.int 0)) (g_ar0 : n0 ≤ ar0)  (SS : own_Sx Z h0 u8 zc fv)  : own_K l (⟨"java/lang/StringUTF16", "charAt", "([BI)C"⟩ : MethodName) jdk_52_method_83_code 2 (some .char) ws ({ frames := 3, cells := 0, slots := 0, locals := 40 } : Room) Z h0 #[(.ref ar0), (.int 1)] (own_QP h0 (some (.int (nar .char (nar .char ((((z0_2 &&& (255 : Int32)) <<< ((0 : Int32) &&& 31)) ||| ((z0_3 &&& (255 : Int32)) <<< ((8 : Int32) &&& 31))).toUInt32.toUInt16.toUInt32.toInt32)))))) := by
  refine own_met (plainFor_of_name pn_537) ?_
  intro p e s m below meth c s₁ hx hby hlk hml hown hnm hrt hZ hh X0 e0
  have N0 := Fr.nil n0
  refine oG m s₁ 0 #[vR ar0,vI 1] [] (fun _ k => castTop (by first | (simp [entryFrame,mkF,argsToLocals,Value.category]; done) | rfl) k) ?_
  have K0 := Keep.refl h0 []
  refine oG m s₁ 2 #[vR ar0,vI 1] [(.ref ar0),(.int 1)] (fun _ k => XS.iloadN X0.here hx rfl (hb hby d41_0) rfl (XS.aloadN X0.here hx rfl (hb hby d41_1) rfl rfl k)) ?_
  obtain ⟨T1, X1, e1, st1⟩ := own_cP X0 hx hZ hown (oH hw 208 rfl) (oH hw 209 rfl) (oH hw 152 rfl) (oH hw 210 rfl) (by decide) (rmz113 l Z a0 hw [] ar0 kr0 z0_0 z0_1 z0_2 z0_3 u8 zc fv h0 n0 Z0 V_ar0 g_ar0 SS) (W := 0) (by decide) (by decide) (g := (mkF m 2 #[vR ar0, vI 1] [(.ref ar0), (.int 1)])) rfl (by rw [hml]; rfl) (argsL := [(.int 1), (.ref ar0)]) (rest := []) (lenOf pd_684 rfl) rfl rfl rfl (hb hby d41_2) e0 rfl (by decide) (by decide) (by decide : 0 ≤ _) (by decide : 0 ≤ _)
  refine oG m T1 7 #[vR ar0,vI 1] [(.int 1),(.ref ar0)] (fun _ k => st1 _ (XS.aloadN X1.here hx rfl (hb hby d41_5) rfl rfl (XS.iloadN X1.here hx rfl (hb hby d41_6) rfl k))) ?_
  obtain ⟨T2, X2, e2, st2⟩ := own_cP X1 hx hZ hown (oH hw 212 rfl) (oH hw 213 rfl) (oH hw 152 rfl) (oH hw 214 rfl) (by decide) (rmz114 l Z a0 hw [] ar0 kr0 z0_0 z0_1 z0_2 z0_3 u8 zc fv h0 n0 Z0 V_ar0 g_ar0 SS) (W := 0) (by decide) (by decide) (g := (mkF m 7 #[vR ar0, vI 1] [(.int 1), (.ref ar0)])) rfl (by rw [hml]; rfl) (argsL := [(.ref ar0), (.int 1)]) (rest := []) (lenOf pd_372 rfl) rfl rfl rfl (hb hby d41_7) e1 rfl (by decide) (by decide) (by decide : 0 ≤ _) (by decide : 0 ≤ _)
  refine oG m T2 10 #[vR ar0,vI 1] [(.int (nar .char ((((z0_2 &&& (255 : Int32)) <<< ((0 : Int32) &&& 31)) ||| ((z0_3 &&& (255 : Int32)) <<< ((8 : Int32) &&& 31))).toUInt32.toUInt16.toUInt32.toInt32)))] (fun _ k => st2 _ k) ?_
  refine own_retN (t := .char) X2 hx hlk (by simp) hrt (hb hby d41_10) (by decide) (by decide) ?_
  exact ⟨by first | rfl | decide, e2, rfl⟩
theorem rmz116 (l : Launch) (Z : State) (a0 : Array Value) (hw : oW a0 Z) (ws : List Jvm.Cond) (ob0 : Addr) (ar0v : Addr) (kr0v : ClassId) (z0v_0 : Int32) (z0v_1 : Int32) (z0v_2 : Int32) (z0v_3 : Int32) (u8 : Addr) (zc : Int32) (fv : Value) (h0 : Heap) (n0 : Nat) (Z0 : n0 ≤ h0.size) (E_ob0 : Exa Z h0 ob0 "java/lang/String") (g_ob0 : n0 ≤ ob0) (V_ar0v : Arv Z h0 ar0v kr0v .byte (4 : Int32) [(.int z0v_0), (.int z0v_1), (.int z0v_2), (.int z0v_3)] (.int 0)) (g_ar0v : n0 ≤ ar0v) (F_ob0_value : Fld Z h0 ob0 "java/lang/String" "value" "[B" (.ref ar0v)) (F_ob0_coder : Fld Z h0 ob0 "java/lang/String" "coder" "B" (.int 1)) (ne_ob0_ar0v : ob0 ≠ ar0v) (SS : own_Sx Z h0 u8 zc fv)  : own_K l (⟨"java/lang/String", "charAt", "(I)C"⟩ : MethodName) jdk_42_method_56_code 2 (some .char) ws ({ frames := 4, cells := 0, slots := 0, locals := 53 } : Room) Z h0 #[(.ref ob0), (.int 1)] (own_QP h0 (some (.int (nar .char (nar .char (nar .char ((((z0v_2 &&& (255 : Int32)) <<< ((0 : Int32) &&& 31)) ||| ((z0v_3 &&& (255 : Int32)) <<< ((8 : Int32) &&& 31))).toUInt32.toUInt16.toUInt32.toInt32))))))) := by
  refine own_met (plainFor_of_name pn_22) ?_
  intro p e s m below meth c s₁ hx hby hlk hml hown hnm hrt hZ hh X0 e0
  have N0 := Fr.nil n0
  refine oG m s₁ 0 #[vR ob0,vI 1] [] (fun _ k => castTop (by first | (simp [entryFrame,mkF,argsToLocals,Value.category]; done) | rfl) k) ?_
  have K0 := Keep.refl h0 []
  refine oG m s₁ 1 #[vR ob0,vI 1] [(.ref ob0)] (fun _ k => XS.aloadN X0.here hx rfl (hb hby d22_0) rfl rfl k) ?_
  obtain ⟨cq1, kq1, q1a, q1b, q1c⟩ := isOf hZ e0 E_ob0
  obtain ⟨v1, _, ⟨T1, L1, k1, n1⟩, -, X1, ⟨Lc1, hQ1, l1, y1, z1⟩, st1⟩ := X0.virtualBack hx (y := (⟨"java/lang/String", "isLatin1", "()Z"⟩ : MethodName)) (z := (⟨"java/lang/String", "isLatin1", "()Z"⟩ : MethodName)) hown (mvT hZ (oH hw 124 rfl)) (mvT hZ (oH hw 125 rfl)) (notFace_of_selects (args := #[]) (mvT hZ (oH hw 127 rfl))) (mvT hZ (oH hw 127 rfl)) (mvT hZ (oH hw 126 rfl)) (by decide) (backOf (W := 0) (rmz108 l Z a0 hw [] ob0 ar0v kr0v z0v_0 z0v_1 z0v_2 z0v_3 u8 zc fv h0 n0 Z0 E_ob0 g_ob0 V_ar0v g_ar0v F_ob0_value F_ob0_coder ne_ob0_ar0v SS) hZ (oH hw 128 rfl) (oH hw 54 rfl) (by decide) (by decide)) q1a q1c (g := (mkF m 1 #[vR ob0, vI 1] [(.ref ob0)])) rfl (by rw [hml]; rfl) (Steps.refl _) (argsL := []) (rest := []) (lenOf pd_340 rfl) rfl (by show 2 * 0 + _ ≤ _; exact Nat.le_of_eq rfl) (hb hby d22_1) (fun _ _ => ⟨rfl, e0, (by decide : 0 + 0 ≤ _), (by decide : 0 + 0 ≤ _)⟩)
  dsimp only [Pt.U, Pt.locs, Pt.cells, Pt.slots] at X1 l1 y1 z1 st1 hQ1
  subst l1 y1 z1
  obtain ⟨rfl, eh1, rfl⟩ := hQ1
  have N1 := Fr.app N0 (Fr.nil n0)
  refine oG m T1 17 #[vR ob0,vI 1] [(.ref ob0)] (fun _ k => st1.trans (XS.ifYes X1.here hx rfl (pc0 := 4) (pc' := 16) rfl (hb hby d22_4) rfl ((if0 _ _).trans (teq (by decide)).1) (by decide) (by decide) (XS.aloadN X1.here hx rfl (hb hby d22_16) rfl rfl k))) ?_
  obtain ⟨T2, X2, e2, st2⟩ := getF X1 hx hZ hown (host := "") (Or.inl (oH hw 104 rfl)) Via.refl eh1 F_ob0_value (g := (mkF m 17 #[vR ob0, vI 1] [(.ref ob0)])) rfl rfl (hb hby d22_17)
  refine oG m T2 21 #[vR ob0,vI 1] [(.int 1),(.ref ar0v)] (fun _ k => st2 _ (XS.iloadN X2.here hx rfl (hb hby d22_20) rfl k)) ?_
  obtain ⟨T3, X3, e3, st3⟩ := own_cP X2 hx hZ hown (oH hw 205 rfl) (oH hw 206 rfl) (oH hw 152 rfl) (oH hw 207 rfl) (by decide) (rmz115 l Z a0 hw [] ar0v kr0v z0v_0 z0v_1 z0v_2 z0v_3 u8 zc fv h0 n0 Z0 V_ar0v g_ar0v SS) (W := 0) (by decide) (by decide) (g := (mkF m 21 #[vR ob0, vI 1] [(.int 1), (.ref ar0v)])) rfl (by rw [hml]; rfl) (argsL := [(.ref ar0v), (.int 1)]) (rest := []) (lenOf pd_372 rfl) rfl rfl rfl (hb hby d22_21) e2 rfl (by decide) (by decide) (by decide : 0 ≤ _) (by decide : 0 ≤ _)
  refine oG m T3 24 #[vR ob0,vI 1] [(.int (nar .char (nar .char ((((z0v_2 &&& (255 : Int32)) <<< ((0 : Int32) &&& 31)) ||| ((z0v_3 &&& (255 : Int32)) <<< ((8 : Int32) &&& 31))).toUInt32.toUInt16.toUInt32.toInt32))))] (fun _ k => st3 _ k) ?_
  refine own_retN (t := .char) X3 hx hlk (by simp) hrt (hb hby d22_24) (by decide) (by decide) ?_
  exact ⟨by first | rfl | decide, e3, rfl⟩
theorem own_d2v (b0 b1 cp : Int32) (h0 : 128 ≤ cp.toInt) (h1 : cp.toInt < 2048) (t0 : b0.toInt = cp.toInt / 64 - 64) (t1 : b1.toInt = cp.toInt % 64 - 128) : own_d2 b0 b1 = cp := by
  have x1 := own_sh cp
  have z1 := own_m63 cp
  have X := own_sl (cp >>> ((6 : Int32) &&& 31)) 6 6 (by decide) 64 (by decide) (by omega) (by omega)
  have u := own_sl b0 6 6 (by decide) 64 (by decide) (by omega) (by omega)
  have c1 : (-4096 : Int32).toInt = -4096 := by decide
  have c2 : (-128 : Int32).toInt = -128 := by decide
  have e1 := own_xv (-4096) ((cp >>> ((6 : Int32) &&& 31)) <<< ((6 : Int32) &&& 31)) 4095 12 (by decide) (by decide) 4096 (by decide) (by decide) (by omega) (by omega) (by omega) (by omega)
  have e2 := own_xv (-128) (cp &&& (63 : Int32)) 127 7 (by decide) (by decide) 128 (by decide) (by decide) (by omega) (by omega) (by omega) (by omega)
  have f1 : b0 <<< ((6 : Int32) &&& 31) = (-4096 : Int32) ^^^ ((cp >>> ((6 : Int32) &&& 31)) <<< ((6 : Int32) &&& 31)) := by rw [← Int32.toInt_inj]; omega
  have f2 : b1 = (-128 : Int32) ^^^ (cp &&& (63 : Int32)) := by rw [← Int32.toInt_inj]; omega
  have g := own_xv ((cp >>> ((6 : Int32) &&& 31)) <<< ((6 : Int32) &&& 31)) (cp &&& (63 : Int32)) 63 6 (by decide) (by decide) 64 (by decide) (by omega) (by omega) (by omega) (by omega) (by omega)
  have r : (b0 <<< ((6 : Int32) &&& 31) ^^^ b1) ^^^ (3968 : Int32) = cp := by
    rw [f1, f2, own_ac2, show ((-4096 : Int32) ^^^ (-128 : Int32)) ^^^ (3968 : Int32) = 0 by decide, own_zx, ← Int32.toInt_inj]; omega
  show nar .char (((b0 <<< ((6 : Int32) &&& 31)) ^^^ b1) ^^^ (3968 : Int32)).toUInt32.toUInt16.toUInt32.toInt32 = cp
  rw [r, own_i2c cp (by omega) (by omega), own_nch cp (by omega) (by omega)]
theorem own_d3v (b0 b1 b2 cp : Int32) (h0 : 2048 ≤ cp.toInt) (h1 : cp.toInt < 65536) (t0 : b0.toInt = cp.toInt / 4096 - 32) (t1 : b1.toInt = (cp.toInt / 64) % 64 - 128) (t2 : b2.toInt = cp.toInt % 64 - 128) : own_d3 b0 b1 b2 = cp := by
  have x1 := own_sh12 cp
  have y0 := own_sh cp
  have y1 := own_m63 (cp >>> ((6 : Int32) &&& 31))
  have z1 := own_m63 cp
  have X := own_sl (cp >>> ((12 : Int32) &&& 31)) 12 12 (by decide) 4096 (by decide) (by omega) (by omega)
  have Y := own_sl ((cp >>> ((6 : Int32) &&& 31)) &&& (63 : Int32)) 6 6 (by decide) 64 (by decide) (by omega) (by omega)
  have u := own_sl b0 12 12 (by decide) 4096 (by decide) (by omega) (by omega)
  have v := own_sl b1 6 6 (by decide) 64 (by decide) (by omega) (by omega)
  have c1 : (-131072 : Int32).toInt = -131072 := by decide
  have c2 : (-8192 : Int32).toInt = -8192 := by decide
  have c3 : (-128 : Int32).toInt = -128 := by decide
  have e1 := own_xv (-131072) ((cp >>> ((12 : Int32) &&& 31)) <<< ((12 : Int32) &&& 31)) 131071 17 (by decide) (by decide) 131072 (by decide) (by decide) (by omega) (by omega) (by omega) (by omega)
  have e2 := own_xv (-8192) (((cp >>> ((6 : Int32) &&& 31)) &&& (63 : Int32)) <<< ((6 : Int32) &&& 31)) 8191 13 (by decide) (by decide) 8192 (by decide) (by decide) (by omega) (by omega) (by omega) (by omega)
  have e3 := own_xv (-128) (cp &&& (63 : Int32)) 127 7 (by decide) (by decide) 128 (by decide) (by decide) (by omega) (by omega) (by omega) (by omega)
  have f1 : b0 <<< ((12 : Int32) &&& 31) = (-131072 : Int32) ^^^ ((cp >>> ((12 : Int32) &&& 31)) <<< ((12 : Int32) &&& 31)) := by rw [← Int32.toInt_inj]; omega
  have f2 : b1 <<< ((6 : Int32) &&& 31) = (-8192 : Int32) ^^^ (((cp >>> ((6 : Int32) &&& 31)) &&& (63 : Int32)) <<< ((6 : Int32) &&& 31)) := by rw [← Int32.toInt_inj]; omega
  have f3 : b2 = (-128 : Int32) ^^^ (cp &&& (63 : Int32)) := by rw [← Int32.toInt_inj]; omega
  have g1 := own_xv ((cp >>> ((12 : Int32) &&& 31)) <<< ((12 : Int32) &&& 31)) (((cp >>> ((6 : Int32) &&& 31)) &&& (63 : Int32)) <<< ((6 : Int32) &&& 31)) 4095 12 (by decide) (by decide) 4096 (by decide) (by omega) (by omega) (by omega) (by omega) (by omega)
  have g2 := own_xv (((cp >>> ((12 : Int32) &&& 31)) <<< ((12 : Int32) &&& 31)) ^^^ (((cp >>> ((6 : Int32) &&& 31)) &&& (63 : Int32)) <<< ((6 : Int32) &&& 31))) (cp &&& (63 : Int32)) 63 6 (by decide) (by decide) 64 (by decide) (by omega) (by omega) (by omega) (by omega) (by omega)
  have r : ((b0 <<< ((12 : Int32) &&& 31)) ^^^ (b1 <<< ((6 : Int32) &&& 31))) ^^^ (b2 ^^^ (-123008 : Int32)) = cp := by
    rw [f1, f2, f3, own_ac3, show (((-131072 : Int32) ^^^ (-8192 : Int32)) ^^^ (-128 : Int32)) ^^^ (-123008 : Int32) = 0 by decide, own_zx, ← Int32.toInt_inj]; omega
  show nar .char (((b0 <<< ((12 : Int32) &&& 31)) ^^^ (b1 <<< ((6 : Int32) &&& 31))) ^^^ (b2 ^^^ (-123008 : Int32))).toUInt32.toUInt16.toUInt32.toInt32 = cp
  rw [r, own_i2c cp (by omega) (by omega), own_nch cp (by omega) (by omega)]
theorem own_d4v (b0 b1 b2 b3 cp : Int32) (h0 : 65536 ≤ cp.toInt) (h1 : cp.toInt < 1114112) (t0 : b0.toInt = cp.toInt / 262144 - 16) (t1 : b1.toInt = (cp.toInt / 4096) % 64 - 128) (t2 : b2.toInt = (cp.toInt / 64) % 64 - 128) (t3 : b3.toInt = cp.toInt % 64 - 128) : own_d4 b0 b1 b2 b3 = cp := by
  have x1 := own_sh18 cp
  have y0 := own_sh12 cp
  have y1 := own_m63 (cp >>> ((12 : Int32) &&& 31))
  have z0 := own_sh cp
  have z1 := own_m63 (cp >>> ((6 : Int32) &&& 31))
  have w1 := own_m63 cp
  have X := own_sl (cp >>> ((18 : Int32) &&& 31)) 18 18 (by decide) 262144 (by decide) (by omega) (by omega)
  have Y := own_sl ((cp >>> ((12 : Int32) &&& 31)) &&& (63 : Int32)) 12 12 (by decide) 4096 (by decide) (by omega) (by omega)
  have W := own_sl ((cp >>> ((6 : Int32) &&& 31)) &&& (63 : Int32)) 6 6 (by decide) 64 (by decide) (by omega) (by omega)
  have u := own_sl b0 18 18 (by decide) 262144 (by decide) (by omega) (by omega)
  have v := own_sl b1 12 12 (by decide) 4096 (by decide) (by omega) (by omega)
  have w := own_sl b2 6 6 (by decide) 64 (by decide) (by omega) (by omega)
  have c1 : (-4194304 : Int32).toInt = -4194304 := by decide
  have c2 : (-524288 : Int32).toInt = -524288 := by decide
  have c3 : (-8192 : Int32).toInt = -8192 := by decide
  have c4 : (-128 : Int32).toInt = -128 := by decide
  have e1 := own_xv (-4194304) ((cp >>> ((18 : Int32) &&& 31)) <<< ((18 : Int32) &&& 31)) 4194303 22 (by decide) (by decide) 4194304 (by decide) (by decide) (by omega) (by omega) (by omega) (by omega)
  have e2 := own_xv (-524288) (((cp >>> ((12 : Int32) &&& 31)) &&& (63 : Int32)) <<< ((12 : Int32) &&& 31)) 524287 19 (by decide) (by decide) 524288 (by decide) (by decide) (by omega) (by omega) (by omega) (by omega)
  have e3 := own_xv (-8192) (((cp >>> ((6 : Int32) &&& 31)) &&& (63 : Int32)) <<< ((6 : Int32) &&& 31)) 8191 13 (by decide) (by decide) 8192 (by decide) (by decide) (by omega) (by omega) (by omega) (by omega)
  have e4 := own_xv (-128) (cp &&& (63 : Int32)) 127 7 (by decide) (by decide) 128 (by decide) (by decide) (by omega) (by omega) (by omega) (by omega)
  have f1 : b0 <<< ((18 : Int32) &&& 31) = (-4194304 : Int32) ^^^ ((cp >>> ((18 : Int32) &&& 31)) <<< ((18 : Int32) &&& 31)) := by rw [← Int32.toInt_inj]; omega
  have f2 : b1 <<< ((12 : Int32) &&& 31) = (-524288 : Int32) ^^^ (((cp >>> ((12 : Int32) &&& 31)) &&& (63 : Int32)) <<< ((12 : Int32) &&& 31)) := by rw [← Int32.toInt_inj]; omega
  have f3 : b2 <<< ((6 : Int32) &&& 31) = (-8192 : Int32) ^^^ (((cp >>> ((6 : Int32) &&& 31)) &&& (63 : Int32)) <<< ((6 : Int32) &&& 31)) := by rw [← Int32.toInt_inj]; omega
  have f4 : b3 = (-128 : Int32) ^^^ (cp &&& (63 : Int32)) := by rw [← Int32.toInt_inj]; omega
  have g1 := own_xv ((cp >>> ((18 : Int32) &&& 31)) <<< ((18 : Int32) &&& 31)) (((cp >>> ((12 : Int32) &&& 31)) &&& (63 : Int32)) <<< ((12 : Int32) &&& 31)) 262143 18 (by decide) (by decide) 262144 (by decide) (by omega) (by omega) (by omega) (by omega) (by omega)
  have g2 := own_xv (((cp >>> ((18 : Int32) &&& 31)) <<< ((18 : Int32) &&& 31)) ^^^ (((cp >>> ((12 : Int32) &&& 31)) &&& (63 : Int32)) <<< ((12 : Int32) &&& 31))) (((cp >>> ((6 : Int32) &&& 31)) &&& (63 : Int32)) <<< ((6 : Int32) &&& 31)) 4095 12 (by decide) (by decide) 4096 (by decide) (by omega) (by omega) (by omega) (by omega) (by omega)
  have g3 := own_xv ((((cp >>> ((18 : Int32) &&& 31)) <<< ((18 : Int32) &&& 31)) ^^^ (((cp >>> ((12 : Int32) &&& 31)) &&& (63 : Int32)) <<< ((12 : Int32) &&& 31))) ^^^ (((cp >>> ((6 : Int32) &&& 31)) &&& (63 : Int32)) <<< ((6 : Int32) &&& 31))) (cp &&& (63 : Int32)) 63 6 (by decide) (by decide) 64 (by decide) (by omega) (by omega) (by omega) (by omega) (by omega)
  show (((b0 <<< ((18 : Int32) &&& 31)) ^^^ (b1 <<< ((12 : Int32) &&& 31))) ^^^ (b2 <<< ((6 : Int32) &&& 31))) ^^^ (b3 ^^^ (3678080 : Int32)) = cp
  rw [f1, f2, f3, f4, own_ac4, show ((((-4194304 : Int32) ^^^ (-524288 : Int32)) ^^^ (-8192 : Int32)) ^^^ (-128 : Int32)) ^^^ (3678080 : Int32) = 0 by decide, own_zx, ← Int32.toInt_inj]; omega
theorem own_c192 (x : Int32) (h0 : -128 ≤ x.toInt) (h1 : x.toInt < -64) : (x &&& (192 : Int32)) = (128 : Int32) := own_fin (P := fun x => (x &&& (192 : Int32)) = (128 : Int32)) (-128) 64 (by decide) x h0 h1
theorem own_im3v (b0 b1 b2 : Int32) (q : b0.toInt = -32 → -96 ≤ b1.toInt) (h0 : -128 ≤ b1.toInt) (h1 : b1.toInt < -64) (h2 : -128 ≤ b2.toInt) (h3 : b2.toInt < -64) : own_im3_0 b0 b1 b2 = 0 := by
  have f1 := own_c192 b1 h0 h1
  have f2 := own_c192 b2 h2 h3
  have f3 : own_im3_17 b0 b1 b2 = 0 := by unfold own_im3_17; rw [if_pos f1, if_pos f2]
  unfold own_im3_0
  by_cases e : b0 = (-32 : Int32)
  · have e' : b0.toInt = -32 := by rw [e]; decide
    have g : ¬ (b1 &&& (224 : Int32)) = (128 : Int32) := own_fin (P := fun x => ¬ (x &&& (224 : Int32)) = (128 : Int32)) (-96) 32 (by decide) b1 (q e') (by omega)
    rw [if_pos e, if_neg g, f3]
  · rw [if_neg e, f3]
theorem own_im4v (b1 b2 b3 : Int32) (h0 : -128 ≤ b1.toInt) (h1 : b1.toInt < -64) (h2 : -128 ≤ b2.toInt) (h3 : b2.toInt < -64) (h4 : -128 ≤ b3.toInt) (h5 : b3.toInt < -64) : own_im4_0 b1 b2 b3 = 0 := by
  unfold own_im4_0; rw [if_pos (own_c192 b1 h0 h1), if_pos (own_c192 b2 h2 h3), if_pos (own_c192 b3 h4 h5)]
theorem own_ncv (b1 : Int32) (h0 : -128 ≤ b1.toInt) (h1 : b1.toInt < -64) : own_nc_0 b1 = 0 := by
  unfold own_nc_0; rw [if_pos (own_c192 b1 h0 h1)]
theorem own_surv (x : Int32) (h : x.toInt < 55296 ∨ 57344 ≤ x.toInt) : own_sur_0 x = 0 := by
  unfold own_sur_0
  by_cases q : x < (55296 : Int32)
  · rw [if_pos q]; rfl
  · have n := own_nltr q (by decide : (55296 : Int32).toInt = 55296)
    have r : ¬ x < (57344 : Int32) := fun z => by have := own_ltr z (by decide : (57344 : Int32).toInt = 57344); omega
    rw [if_neg q, if_neg r]; rfl
theorem own_supv (x : Int32) (h0 : 65536 ≤ x.toInt) (h1 : x.toInt < 1114112) : ¬ own_sup_0 x = 0 := by
  have q : ¬ x < (65536 : Int32) := fun z => by have := own_ltr z (by decide : (65536 : Int32).toInt = 65536); omega
  have r : x < (1114112 : Int32) := by rw [Int32.lt_iff_toInt_lt]; have : (1114112 : Int32).toInt = 1114112 := (by decide); omega
  unfold own_sup_0; rw [if_neg q, if_pos r]; decide
theorem own_hsv (cp : Int32) (h0 : 65536 ≤ cp.toInt) (h1 : cp.toInt < 1114112) : (own_hs cp).toInt = 55232 + cp.toInt / 1024 := by
  have a : ((cp.toUInt32 >>> ((10 : Int32) &&& 31).toUInt32).toInt32).toInt = (cp.toInt % 4294967296) / 1024 := by have z := c_iushr cp 10 10 (by decide) (by decide); simpa using z
  have b := c_iadd ((cp.toUInt32 >>> ((10 : Int32) &&& 31).toUInt32).toInt32) (55232 : Int32)
  have k : (55232 : Int32).toInt = 55232 := by decide
  have r := rng32 (((cp.toUInt32 >>> ((10 : Int32) &&& 31).toUInt32).toInt32) + (55232 : Int32))
  have e : (((cp.toUInt32 >>> ((10 : Int32) &&& 31).toUInt32).toInt32) + (55232 : Int32)).toInt = 55232 + cp.toInt / 1024 := by omega
  show (nar .char ((((cp.toUInt32 >>> ((10 : Int32) &&& 31).toUInt32).toInt32) + (55232 : Int32)).toUInt32.toUInt16.toUInt32.toInt32)).toInt = _
  rw [own_i2c _ (by omega) (by omega), own_nch _ (by omega) (by omega), e]
theorem own_lsv (cp : Int32) : (own_ls cp).toInt = 56320 + cp.toInt % 1024 := by
  have a := c_mask cp 1023 10 (by decide) (by decide)
  have b := c_iadd (cp &&& (1023 : Int32)) (56320 : Int32)
  have k : (56320 : Int32).toInt = 56320 := by decide
  have r := rng32 ((cp &&& (1023 : Int32)) + (56320 : Int32))
  have e : ((cp &&& (1023 : Int32)) + (56320 : Int32)).toInt = 56320 + cp.toInt % 1024 := by simp at a; omega
  show (nar .char (((cp &&& (1023 : Int32)) + (56320 : Int32)).toUInt32.toUInt16.toUInt32.toInt32)).toInt = _
  rw [own_i2c _ (by omega) (by omega), own_nch _ (by omega) (by omega), e]
theorem own_hil (cp : Int32) (h0 : 65536 ≤ cp.toInt) (h1 : cp.toInt < 1114112) : ((55296 : Int32) + ((cp - (65536 : Int32)) >>> ((10 : Int32) &&& 31))).toInt = 55232 + cp.toInt / 1024 := by
  have a := c_isub cp (65536 : Int32)
  have k : (65536 : Int32).toInt = 65536 := by decide
  have r := rng32 (cp - (65536 : Int32))
  have b : ((cp - (65536 : Int32)) >>> ((10 : Int32) &&& 31)).toInt = (cp - (65536 : Int32)).toInt / 1024 := by have z := c_ishr (cp - (65536 : Int32)) 10 10 (by decide); simpa using z
  have d := c_iadd (55296 : Int32) ((cp - (65536 : Int32)) >>> ((10 : Int32) &&& 31))
  have k2 : (55296 : Int32).toInt = 55296 := by decide
  have r2 := rng32 ((55296 : Int32) + ((cp - (65536 : Int32)) >>> ((10 : Int32) &&& 31)))
  omega
theorem own_lol (cp : Int32) : ((56320 : Int32) + (cp &&& (1023 : Int32))).toInt = 56320 + cp.toInt % 1024 := by
  have a := c_mask cp 1023 10 (by decide) (by decide)
  have b := c_iadd (56320 : Int32) (cp &&& (1023 : Int32))
  have k : (56320 : Int32).toInt = 56320 := by decide
  have r := rng32 ((56320 : Int32) + (cp &&& (1023 : Int32)))
  simp at a
  omega
theorem own_m255 (x : Int32) : (x &&& (255 : Int32)).toInt = x.toInt % 256 := by have := c_mask x 255 8 (by decide) (by decide); simpa using this
theorem own_acc (a b : Int32) (h0 : 0 ≤ a.toInt) (h1 : a.toInt < 16777216) : ((a <<< ((6 : Int32) &&& 31)) ||| (b &&& (63 : Int32))).toInt = a.toInt * 64 + b.toInt % 64 := by
  have s := own_sl a 6 6 (by decide) 64 (by decide) (by omega) (by omega)
  have z := own_m63 b
  have o := own_or (a <<< ((6 : Int32) &&& 31)) (b &&& (63 : Int32)) 6 (by decide) 64 (by decide) (by omega) (by omega) (by omega) (by omega) (by omega)
  omega
theorem pn_869 : plainName "clearcut/TextEncodedSizePinLaw" = true := by first | (simp [plainName, overriddenIn]; done) | decide +kernel
theorem ef_rm0 (m : MethodId) (x0 : Int32) : entryFrame m #[(.int x0)] maxLocals = mkF m 0 #[vI x0, oU, oU, oU, oU, oU, oU, oU, oU] [] := by first | (simp [entryFrame, mkF, argsToLocals, Value.category, maxLocals]; done) | rfl
def Q_rm0 (Z : State) (i0 : Int32) (u8 : Addr) (zc : Int32) (fv : Value) (h0 : Heap) (n0 : Nat) (v : Option Value) (h : Heap) (L : List Loc) : Prop := v = some (.int 1) ∧ Fr n0 L
theorem rm0 (l : Launch) (Z : State) (a0 : Array Value) (hw : ∀ d ∈ tables_1, d.before a0 Z = true) (ws : List Jvm.Cond) (i0 : Int32) (u8 : Addr) (zc : Int32) (fv : Value) (h0 : Heap) (n0 : Nat) (Z0 : n0 ≤ h0.size) (SS : own_Sx Z h0 u8 zc fv) :
    MetFree l x (head1 (Jvm.Cond.code x code maxLocals ret :: ws) room_1) (fun a U => a = #[(.int i0)] ∧ Z.Warmed39 U.vm ∧ U.heap = h0) (fun _ _ _ _ _ => True) (fun _ U o U' => ∃ v L, o = .returned v ∧ Q_rm0 Z i0 u8 zc fv h0 n0 v U'.heap L ∧ FrameEnd U o U' L room_1.cells room_1.slots) := by
  refine MetFree.of_bodySF (plainFor_of_name pn_869) hisR ?_
  intro p e s m args below meth c s₁ Bd hml0 hP hK
  obtain ⟨rfl, hZ, hh⟩ := hP
  have hx := Bd.exec
  have hby := Bd.bytes
  have hlk := Bd.notSynchronized
  have hml : c.maxLocals = 9 := hml0
  have hown : s.vm.findClass "clearcut/TextEncodedSizePinLaw" = some m.cls := findClass_of_methodNamed Bd.named
  have hnm := (name_of_methodNamed Bd.named Bd.method).1
  have X0 : Stand p l e room_1 s m #[(.int i0)] below meth c s₁ [] 0 0 := Stand.of_body Bd
  have e0 : s₁.heap = h0 := by rw [← hh, Bd.state]; rfl
  have N0 := Fr.nil n0
  change own_Go p e below s (Q_rm0 Z i0 u8 zc fv h0 n0) room_1.cells room_1.slots _
  refine own_go (S' := (s₁.setTop (mkF m 0 #[vI i0, oU, oU, oU, oU, oU, oU, oU, oU] []))) (fun _ kont => castTop (ef_rm0 m i0) kont) ?_
  have K0 := Keep.refl h0 []
  have K26 : ∀ (cp : Int32) (hc0 : 0 ≤ cp.toInt) (hc1 : cp.toInt < 1114112) (hcs : cp.toInt < 55296 ∨ 57344 ≤ cp.toInt), own_Go p e below s (Q_rm0 Z i0 u8 zc fv h0 n0) room_1.cells room_1.slots (s₁.setTop (mkF m 26 #[vI i0, vI cp, oU, oU, oU, oU, oU, oU, oU] [])) := by
    intro cp hc0 hc1 hcs
    by_cases c1 : cp < (128 : Int32)
    · have hlo : 0 ≤ cp.toInt := hc0
      have hhi : cp.toInt < 128 := own_ltr c1 (by decide)
      refine oG m s₁ 27 #[vI i0,vI cp,oU,oU,oU,oU,oU,oU,oU] [(.int cp)] (fun _ k => XS.iloadN X0.here hx rfl (hb hby at_26) rfl k) ?_
      obtain ⟨T1, X1, e1, st1⟩ := own_cP X0 hx hZ hown (oH hw 3 rfl) (oH hw 4 rfl) (oH hw 5 rfl) (oH hw 6 rfl) (by decide) (rmz1 l Z a0 hw [] cp u8 zc fv h0 n0 Z0  SS c1) (W := 0) (by decide) (by decide) (g := (mkF m 27 #[vI i0, vI cp, oU, oU, oU, oU, oU, oU, oU] [(.int cp)])) rfl (by rw [hml]; rfl) (argsL := [(.int cp)]) (rest := []) (lenOf pd_79 rfl) rfl rfl rfl (hb hby at_27) e0 rfl (by decide) (by decide) (by decide : 0 ≤ _) (by decide : 0 ≤ _)
      refine oG m T1 44 #[vI i0,vI cp,vI 1,oU,oU,oU,oU,oU,oU] [(.int 4)] (fun _ k => st1 _ (XS.istoreN X1.here hx rfl (hb hby at_30) rfl (l' := #[vI i0,vI cp,vI 1,oU,oU,oU,oU,oU,oU]) rfl (XS.iloadN X1.here hx rfl (hb hby at_31) rfl (XS.iconst X1.here hx rfl (hb hby at_32) (XS.icmpNo X1.here hx rfl (hb hby at_33) rfl (flt (by decide)).1 (XS.iloadN X1.here hx rfl (hb hby at_36) rfl (XS.iconst X1.here hx rfl (hb hby at_37) (XS.icmpYes X1.here hx rfl (pc0 := 38) (pc' := 43) rfl (hb hby at_38) rfl (flt (by decide)).2.2.2 (by decide) (by decide) (XS.iconst X1.here hx rfl (hb hby at_43) k))))))))) ?_
      obtain ⟨T2, h2, k2, X2, e2, E2, A2, Ec2, st2⟩ := newPE X1 hx hZ (oH hw 7 rfl) e1 (g := (mkF m 44 #[vI i0, vI cp, vI 1, oU, oU, oU, oU, oU, oU] [(.int 4)])) rfl (hb hby at_44) rfl (by decide) (cap := 4) (by decide) (by decide) (by decide) (by decide) (ad := "[B") (by decide)
      obtain ⟨b2, gz2⟩ : ∃ z, z = h0.size := ⟨_, rfl⟩
      rw [← gz2] at A2 Ec2 st2
      have sz_b2 : h0.size ≤ b2 := Nat.le_trans K0.1 (Nat.le_of_eq gz2.symm)
      have c2_USS := SS.ext E2
      have K2 := K0.ext E2
      have g_b2 : n0 ≤ b2 := Nat.le_trans Z0 (Nat.le_of_eq gz2.symm)
      have V2 := Arv.new A2 (by decide)
      have Z2 : n0 ≤ h2.size := Nat.le_trans Z0 E2.1
      refine oG m T2 46 #[vI i0,vI cp,vI 1,oU,oU,oU,oU,oU,oU] [(.ref b2)] (fun _ k => st2 _ k) ?_
      have V3 : Arv Z h2 b2 k2 .byte (4 : Int32) [(.int 0), (.int 0), (.int 0), (.int 0)] (.int 0) := V2.pad (pad_rep [] (.int 0) 4)
      refine oG m T2 50 #[vI i0,vI cp,vI 1,vR b2,oU,oU,oU,oU,oU] [(.int 0),(.ref b2),(.int cp)] (fun _ k => XS.astoreN X2.here hx rfl (hb hby at_46) rfl rfl (l' := #[vI i0,vI cp,vI 1,vR b2,oU,oU,oU,oU,oU]) rfl (XS.iloadN X2.here hx rfl (hb hby at_47) rfl (XS.aloadN X2.here hx rfl (hb hby at_48) rfl rfl (XS.iconst X2.here hx rfl (hb hby at_49) k)))) ?_
      obtain ⟨v4, T4, Lc4, X4, hQ4, st4⟩ := own_cS X2 hx hZ hown (oH hw 8 rfl) (oH hw 9 rfl) (oH hw 5 rfl) (oH hw 10 rfl) (by decide) (rmz2 l Z a0 hw [] cp b2 k2 (0 : Int32) (0 : Int32) (0 : Int32) (0 : Int32) u8 zc fv h2 n0 Z2 V3 g_b2 Ec2 c2_USS c1) (W := 0) (by decide) (by decide) (g := (mkF m 50 #[vI i0, vI cp, vI 1, vR b2, oU, oU, oU, oU, oU] [(.int 0), (.ref b2), (.int cp)])) rfl (by rw [hml]; rfl) (argsL := [(.int cp), (.ref b2), (.int 0)]) (rest := []) (lenOf pd_104 rfl) rfl rfl rfl (hb hby at_50) e2 rfl (by decide : 1 + 0 ≤ _) (by decide : 4 + 0 ≤ _)
      obtain ⟨rfl, Nq4, Kc4, wa4_0⟩ := hQ4
      have Kt4 := K2.trans Kc4 (fun x hx => by simp only [List.mem_cons, List.mem_singleton, List.not_mem_nil, or_false] at hx; rcases hx with rfl <;> first | (left; simp; done) | (right; assumption))
      have N4 := Fr.app N0 Nq4
      have Z4 : n0 ≤ T4.heap.size := Nat.le_trans Z2 Kc4.1
      have c4_USS := c2_USS.keep Kc4 (own_nsS (own_nsA V3) own_ns0)
      have c4_Eb2 := Ec2.keep Kc4
      refine oG m T4 53 #[vI i0,vI cp,vI 1,vR b2,oU,oU,oU,oU,oU] [(.int 1)] (fun _ k => st4 _ k) ?_
      obtain ⟨b0, hb0⟩ : ∃ z : Int32, z = (nar .byte (cp.toInt8.toInt32)) := ⟨_, rfl⟩
      rw [← hb0] at wa4_0
      have d1 := own_sh cp
      have d2 := own_sh (cp >>> ((6 : Int32) &&& 31))
      have d3 := own_sh ((cp >>> ((6 : Int32) &&& 31)) >>> ((6 : Int32) &&& 31))
      have tb0 : b0.toInt = cp.toInt := by rw [hb0]; have zz := own_byv cp; omega
      refine oG m T4 63 #[vI i0,vI cp,vI 1,vR b2,vI 1,oU,oU,oU,oU] [] (fun _ k => XS.istore X4.here hx rfl (hb hby at_53) rfl (l' := #[vI i0,vI cp,vI 1,vR b2,vI 1,oU,oU,oU,oU]) rfl (XS.iload X4.here hx rfl (hb hby at_55) rfl (XS.iloadN X4.here hx rfl (hb hby at_57) rfl (XS.icmpYes X4.here hx rfl (pc0 := 58) (pc' := 63) rfl (hb hby at_58) rfl (teq (by decide)).1 (by decide) (by decide) k)))) ?_
      obtain ⟨T5, h5, X5, e5, E5, A5, D5, -, st5⟩ := newO X4 hx hZ hown (oH hw 12 rfl) (oH hw 13 rfl) (oH hw 5 rfl) rfl (g := (mkF m 63 #[vI i0, vI cp, vI 1, vR b2, vI 1, oU, oU, oU, oU] [])) rfl (hb hby at_63) (by decide) (by decide)
      obtain ⟨b5, gz5⟩ : ∃ z, z = T4.heap.size := ⟨_, rfl⟩
      rw [← gz5] at A5 D5 st5
      have sz_b5 : h0.size ≤ b5 := Nat.le_trans Kt4.1 (Nat.le_of_eq gz5.symm)
      have ne_b2_b5 : b2 ≠ b5 := Nat.ne_of_lt (by rw [gz5]; exact c4_Eb2.lt)
      have c5_USS := c4_USS.ext E5
      have c5_Eb2 := c4_Eb2.ext E5
      have c5_Vb2 := wa4_0.ext E5
      have K5 := Kt4.ext E5
      have g_b5 : n0 ≤ b5 := Nat.le_trans Z4 (Nat.le_of_eq gz5.symm)
      have F5_bytes : Fld Z h5 b5 "clearcut/Text" "bytes" "[B" .null := D5 (Or.inr (oH hw 21 rfl)) (ty := (.array .byte)) (by decide)
      have F5_length : Fld Z h5 b5 "clearcut/Text" "length" "I" (.int 0) := D5 (Or.inr (oH hw 23 rfl)) (ty := .int) (by decide)
      have Z5 : n0 ≤ h5.size := Nat.le_trans Z4 E5.1
      refine oG m T5 69 #[vI i0,vI cp,vI 1,vR b2,vI 1,oU,oU,oU,oU] [(.int 1),(.ref b2),(.ref b5),(.ref b5)] (fun _ k => st5 _ (XS.dup X5.here hx rfl (hb hby at_66) rfl rfl (XS.aloadN X5.here hx rfl (hb hby at_67) rfl rfl (XS.iloadN X5.here hx rfl (hb hby at_68) rfl k)))) ?_
      obtain ⟨v6, _, ⟨T6, L6, k6, n6⟩, -, X6, ⟨Lc6, hQ6, l6, y6, z6⟩, st6⟩ := X5.specialBack hx (y := (⟨"clearcut/Text", "<init>", "([BI)V"⟩ : MethodName)) rfl hown (mvT hZ (oH hw 14 rfl)) (mvT hZ (oH hw 15 rfl)) (mvT hZ (oH hw 16 rfl)) (by decide) (backOf (W := 1) (rmz3 l Z a0 hw [] b5 b2 k2 b0 (0 : Int32) (0 : Int32) (0 : Int32) (1 : Int32) u8 zc fv h5 n0 Z5 A5 g_b5 F5_bytes F5_length c5_Vb2 g_b2 c5_Eb2 (Ne.symm ne_b2_b5) c5_USS) hZ (oH hw 16 rfl) (oH hw 5 rfl) (by decide) (by decide)) (g := (mkF m 69 #[vI i0, vI cp, vI 1, vR b2, vI 1, oU, oU, oU, oU] [(.int 1), (.ref b2), (.ref b5), (.ref b5)])) rfl (by rw [hml]; rfl) (Steps.refl _) (a := b5) (argsL := [(.ref b2), (.int 1)]) (rest := [(.ref b5)]) (lenOf pd_114 rfl) rfl (by show 2 * 0 + _ ≤ _; exact Nat.le_of_eq rfl) (hb hby at_69) (fun _ _ => ⟨rfl, e5, (by decide : 2 + 0 ≤ _), (by decide : 6 + 0 ≤ _)⟩)
      dsimp only [Pt.U, Pt.locs, Pt.cells, Pt.slots] at X6 l6 y6 z6 st6 hQ6
      subst l6 y6 z6
      obtain ⟨rfl, Nq6, Kc6, wo6_0_bytes, wo6_0_length⟩ := hQ6
      have Kt6 := K5.trans Kc6 (fun x hx => by simp only [List.mem_cons, List.mem_singleton, List.not_mem_nil, or_false] at hx; rcases hx with rfl <;> first | (left; simp; done) | (right; assumption))
      have N6 := Fr.app N4 Nq6
      have Z6 : n0 ≤ T6.heap.size := Nat.le_trans Z5 Kc6.1
      have c6_USS := c5_USS.keep Kc6 (own_nsS (own_nsE A5) own_ns0)
      have c6_Eb2 := c5_Eb2.keep Kc6
      have c6_Vb2 := c5_Vb2.keep Kc6 (ninS ne_b2_b5 nin0)
      have c6_Eb5 := A5.keep Kc6
      refine oG m T6 77 #[vI i0,vI cp,vI 1,vR b2,vI 1,vR b5,oU,oU,oU] [(.int 0),(.ref b5)] (fun _ k => st6.trans (XS.astore X6.here hx rfl (hb hby at_72) rfl rfl (l' := #[vI i0,vI cp,vI 1,vR b2,vI 1,vR b5,oU,oU,oU]) rfl (XS.aload X6.here hx rfl (hb hby at_74) rfl rfl (XS.iconst X6.here hx rfl (hb hby at_76) k)))) ?_
      have hp7 : (b0 &&& (255 : Int32)) < (128 : Int32) := (by have aa := own_m255 b0; rw [Int32.lt_iff_toInt_lt]; have kk : (128 : Int32).toInt = 128 := (by decide); omega)
      obtain ⟨cq8, kq8, q8a, q8b, q8c⟩ := isOf hZ rfl c6_Eb5
      obtain ⟨v8, _, ⟨T8, L8, k8, n8⟩, -, X8, ⟨Lc8, hQ8, l8, y8, z8⟩, st8⟩ := X6.virtualBack hx (y := (⟨"clearcut/Text", "next", "(I)I"⟩ : MethodName)) (z := (⟨"clearcut/Text", "next", "(I)I"⟩ : MethodName)) hown (mvT hZ (oH hw 24 rfl)) (mvT hZ (oH hw 25 rfl)) (notFace_of_selects (args := #[]) (mvT hZ (oH hw 27 rfl))) (mvT hZ (oH hw 27 rfl)) (mvT hZ (oH hw 26 rfl)) (by decide) (backOf (W := 0) (rmz6 l Z a0 hw [] b5 b2 k2 b0 (0 : Int32) (0 : Int32) (0 : Int32) u8 zc fv T6.heap n0 Z6 c6_Eb5 g_b5 c6_Vb2 g_b2 c6_Eb2 wo6_0_bytes (Ne.symm ne_b2_b5) c6_USS hp7) hZ (oH hw 28 rfl) (oH hw 5 rfl) (by decide) (by decide)) q8a q8c (g := (mkF m 77 #[vI i0, vI cp, vI 1, vR b2, vI 1, vR b5, oU, oU, oU] [(.int 0), (.ref b5)])) rfl (by rw [hml]; rfl) (Steps.refl _) (argsL := [(.int 0)]) (rest := []) (lenOf pd_79 rfl) rfl (by show 2 * 0 + _ ≤ _; exact Nat.le_of_eq rfl) (hb hby at_77) (fun _ _ => ⟨rfl, rfl, (by decide : 2 + 0 ≤ _), (by decide : 6 + 0 ≤ _)⟩)
      dsimp only [Pt.U, Pt.locs, Pt.cells, Pt.slots] at X8 l8 y8 z8 st8 hQ8
      subst l8 y8 z8
      obtain ⟨rfl, eh8, rfl⟩ := hQ8
      have N8 := Fr.app N6 (Fr.nil n0)
      refine oG m T8 89 #[vI i0,vI cp,vI 1,vR b2,vI 1,vR b5,oU,oU,oU] [(.int 0),(.ref b5)] (fun _ k => st8.trans (XS.iloadN X8.here hx rfl (hb hby at_80) rfl (XS.icmpYes X8.here hx rfl (pc0 := 81) (pc' := 86) rfl (hb hby at_81) rfl (teq (by decide)).1 (by decide) (by decide) (XS.aload X8.here hx rfl (hb hby at_86) rfl rfl (XS.iconst X8.here hx rfl (hb hby at_88) k))))) ?_
      obtain ⟨cq9, kq9, q9a, q9b, q9c⟩ := isOf hZ eh8 c6_Eb5
      obtain ⟨v9, _, ⟨T9, L9, k9, n9⟩, -, X9, ⟨Lc9, hQ9, l9, y9, z9⟩, st9⟩ := X8.virtualBack hx (y := (⟨"clearcut/Text", "codePointAt", "(I)I"⟩ : MethodName)) (z := (⟨"clearcut/Text", "codePointAt", "(I)I"⟩ : MethodName)) hown (mvT hZ (oH hw 37 rfl)) (mvT hZ (oH hw 38 rfl)) (notFace_of_selects (args := #[]) (mvT hZ (oH hw 40 rfl))) (mvT hZ (oH hw 40 rfl)) (mvT hZ (oH hw 39 rfl)) (by decide) (backOf (W := 0) (rmz7 l Z a0 hw [] b5 b2 k2 b0 (0 : Int32) (0 : Int32) (0 : Int32) u8 zc fv T6.heap n0 Z6 c6_Eb5 g_b5 c6_Vb2 g_b2 c6_Eb2 wo6_0_bytes (Ne.symm ne_b2_b5) c6_USS hp7) hZ (oH hw 41 rfl) (oH hw 5 rfl) (by decide) (by decide)) q9a q9c (g := (mkF m 89 #[vI i0, vI cp, vI 1, vR b2, vI 1, vR b5, oU, oU, oU] [(.int 0), (.ref b5)])) rfl (by rw [hml]; rfl) (Steps.refl _) (argsL := [(.int 0)]) (rest := []) (lenOf pd_79 rfl) rfl (by show 2 * 0 + _ ≤ _; exact Nat.le_of_eq rfl) (hb hby at_89) (fun _ _ => ⟨rfl, eh8, (by decide : 2 + 0 ≤ _), (by decide : 6 + 0 ≤ _)⟩)
      dsimp only [Pt.U, Pt.locs, Pt.cells, Pt.slots] at X9 l9 y9 z9 st9 hQ9
      subst l9 y9 z9
      obtain ⟨rfl, eh9, rfl⟩ := hQ9
      have N9 := Fr.app N8 (Fr.nil n0)
      refine oG m T9 93 #[vI i0,vI cp,vI 1,vR b2,vI 1,vR b5,oU,oU,oU] [(.int cp),(.int (b0 &&& (255 : Int32)))] (fun _ k => st9.trans (XS.iloadN X9.here hx rfl (hb hby at_92) rfl k)) ?_
      have hp10 : (b0 &&& (255 : Int32)) = cp := (by have a0 := own_m255 b0; rw [← Int32.toInt_inj]; omega)
      refine oG m T9 102 #[vI i0,vI cp,vI 1,vR b2,vI 1,vR b5,oU,oU,oU] [(.int 1),(.int 0),(.ref b5)] (fun _ k => XS.icmpYes X9.here hx rfl (pc0 := 93) (pc' := 98) rfl (hb hby at_93) rfl (teq hp10).1 (by decide) (by decide) (XS.aload X9.here hx rfl (hb hby at_98) rfl rfl (XS.iconst X9.here hx rfl (hb hby at_100) (XS.iloadN X9.here hx rfl (hb hby at_101) rfl k)))) ?_
      have hp11 : ¬ b0 < (0 : Int32) := (fun zz => by have kk := own_ltr zz (by decide : (0 : Int32).toInt = 0); omega)
      obtain ⟨cq12, kq12, q12a, q12b, q12c⟩ := isOf hZ eh9 c6_Eb5
      obtain ⟨v12, _, ⟨T12, L12, k12, n12⟩, -, X12, ⟨Lc12, hQ12, l12, y12, z12⟩, st12⟩ := X9.virtualBack hx (y := (⟨"clearcut/Text", "substring", "(II)Ljava/lang/String;"⟩ : MethodName)) (z := (⟨"clearcut/Text", "substring", "(II)Ljava/lang/String;"⟩ : MethodName)) hown (mvT hZ (oH hw 42 rfl)) (mvT hZ (oH hw 43 rfl)) (notFace_of_selects (args := #[]) (mvT hZ (oH hw 45 rfl))) (mvT hZ (oH hw 45 rfl)) (mvT hZ (oH hw 44 rfl)) (by decide) (backOf (W := 0) (rmz19 l Z a0 hw [] b5 b2 k2 b0 (0 : Int32) (0 : Int32) (0 : Int32) u8 zc fv T6.heap n0 Z6 c6_Eb5 g_b5 c6_Vb2 g_b2 c6_Eb2 wo6_0_bytes (Ne.symm ne_b2_b5) c6_USS hp11) hZ (oH hw 46 rfl) (oH hw 5 rfl) (by decide) (by decide)) q12a q12c (g := (mkF m 102 #[vI i0, vI cp, vI 1, vR b2, vI 1, vR b5, oU, oU, oU] [(.int 1), (.int 0), (.ref b5)])) rfl (by rw [hml]; rfl) (Steps.refl _) (argsL := [(.int 0), (.int 1)]) (rest := []) (lenOf pd_313 rfl) rfl (by show 2 * 0 + _ ≤ _; exact Nat.le_of_eq rfl) (hb hby at_102) (fun _ _ => ⟨rfl, eh9, (by decide : 2 + 2 ≤ _), (by decide : 6 + 5 ≤ _)⟩)
      dsimp only [Pt.U, Pt.locs, Pt.cells, Pt.slots] at X12 l12 y12 z12 st12 hQ12
      subst l12 y12 z12
      obtain ⟨na12_0, ka12_0, no12_0, rfl, Nq12, Kc12, sa12_0, va12_0, so12_0, eo12_0, fo12_0_value, fo12_0_coder⟩ := hQ12
      have Kt12 := Kt6.trans Kc12 (fun x hx => nomatch hx)
      have N12 := Fr.app N9 Nq12
      have Z12 : n0 ≤ T12.heap.size := Nat.le_trans Z6 Kc12.1
      have c12_USS := c6_USS.keep Kc12 own_ns0
      have c12_Eb2 := c6_Eb2.keep Kc12
      have c12_Vb2 := c6_Vb2.keep Kc12 nin0
      have c12_Eb5 := c6_Eb5.keep Kc12
      have c12_Fb5_bytes := wo6_0_bytes.keep Kc12 nin0
      have c12_Fb5_length := wo6_0_length.keep Kc12 nin0
      refine oG m T12 105 #[vI i0,vI cp,vI 1,vR b2,vI 1,vR b5,oU,oU,oU] [(.ref no12_0)] (fun _ k => st12.trans k) ?_
      have g_na12_0 : n0 ≤ na12_0 := Nat.le_trans Z6 sa12_0
      have sz_na12_0 : h0.size ≤ na12_0 := Nat.le_trans Kt6.1 sa12_0
      have ne_b2_na12_0 : b2 ≠ na12_0 := Nat.ne_of_lt (Nat.lt_of_lt_of_le c6_Vb2.lt sa12_0)
      have ne_b5_na12_0 : b5 ≠ na12_0 := Nat.ne_of_lt (Nat.lt_of_lt_of_le c6_Eb5.lt sa12_0)
      have g_no12_0 : n0 ≤ no12_0 := Nat.le_trans Z6 so12_0
      have sz_no12_0 : h0.size ≤ no12_0 := Nat.le_trans Kt6.1 so12_0
      have ne_b2_no12_0 : b2 ≠ no12_0 := Nat.ne_of_lt (Nat.lt_of_lt_of_le c6_Vb2.lt so12_0)
      have ne_b5_no12_0 : b5 ≠ no12_0 := Nat.ne_of_lt (Nat.lt_of_lt_of_le c6_Eb5.lt so12_0)
      refine oG m T12 108 #[vI i0,vI cp,vI 1,vR b2,vI 1,vR b5,vR no12_0,oU,oU] [(.int cp)] (fun _ k => XS.astore X12.here hx rfl (hb hby at_105) rfl rfl (l' := #[vI i0,vI cp,vI 1,vR b2,vI 1,vR b5,vR no12_0,oU,oU]) rfl (XS.iloadN X12.here hx rfl (hb hby at_107) rfl k)) ?_
      refine oG m T12 110 #[vI i0,vI cp,vI 1,vR b2,vI 1,vR b5,vR no12_0,oU,oU] [(.int 65536),(.int cp)] (fun _ k => (X12.ldcInt hx hown (mvT hZ (oH hw 108 rfl)) (g := (mkF m 108 #[vI i0,vI cp,vI 1,vR b2,vI 1,vR b5,vR no12_0,oU,oU] [(.int cp)])) rfl (hb hby at_108)) _ k) ?_
      have hp13 : cp < (65536 : Int32) := (by rw [Int32.lt_iff_toInt_lt]; have kk : (65536 : Int32).toInt = 65536 := (by decide); omega)
      refine oG m T12 115 #[vI i0,vI cp,vI 1,vR b2,vI 1,vR b5,vR no12_0,oU,oU] [(.ref no12_0)] (fun _ k => XS.icmpNo X12.here hx rfl (hb hby at_110) rfl (tlt hp13).2.1 (XS.aload X12.here hx rfl (hb hby at_113) rfl rfl k)) ?_
      have nx14 : no12_0 ≠ na12_0 := eo12_0.neArv va12_0 (oH hw 53 rfl)
      obtain ⟨cq15, kq15, q15a, q15b, q15c⟩ := isOf hZ rfl eo12_0
      obtain ⟨v15, _, ⟨T15, L15, k15, n15⟩, -, X15, ⟨Lc15, hQ15, l15, y15, z15⟩, st15⟩ := X12.virtualBack hx (y := (⟨"java/lang/String", "length", "()I"⟩ : MethodName)) (z := (⟨"java/lang/String", "length", "()I"⟩ : MethodName)) hown (mvT hZ (oH hw 109 rfl)) (mvT hZ (oH hw 110 rfl)) (notFace_of_selects (args := #[]) (mvT hZ (oH hw 112 rfl))) (mvT hZ (oH hw 112 rfl)) (mvT hZ (oH hw 111 rfl)) (by decide) (backOf (W := 0) (rmz21 l Z a0 hw [] no12_0 na12_0 ka12_0 b0 u8 zc fv T12.heap n0 Z12 eo12_0 g_no12_0 va12_0 g_na12_0 fo12_0_value fo12_0_coder nx14 c12_USS) hZ (oH hw 113 rfl) (oH hw 54 rfl) (by decide) (by decide)) q15a q15c (g := (mkF m 115 #[vI i0, vI cp, vI 1, vR b2, vI 1, vR b5, vR no12_0, oU, oU] [(.ref no12_0)])) rfl (by rw [hml]; rfl) (Steps.refl _) (argsL := []) (rest := []) (lenOf pd_329 rfl) rfl (by show 2 * 0 + _ ≤ _; exact Nat.le_of_eq rfl) (hb hby at_115) (fun _ _ => ⟨rfl, rfl, (by decide : 4 + 0 ≤ _), (by decide : 11 + 0 ≤ _)⟩)
      dsimp only [Pt.U, Pt.locs, Pt.cells, Pt.slots] at X15 l15 y15 z15 st15 hQ15
      subst l15 y15 z15
      obtain ⟨rfl, eh15, rfl⟩ := hQ15
      have N15 := Fr.app N12 (Fr.nil n0)
      refine oG m T15 125 #[vI i0,vI cp,vI 1,vR b2,vI 1,vR b5,vR no12_0,oU,oU] [(.int 0),(.ref no12_0)] (fun _ k => st15.trans (XS.iconst X15.here hx rfl (hb hby at_118) (XS.icmpNo X15.here hx rfl (hb hby at_119) rfl (teq (by decide)).2 (XS.aload X15.here hx rfl (hb hby at_122) rfl rfl (XS.iconst X15.here hx rfl (hb hby at_124) k))))) ?_
      obtain ⟨cq16, kq16, q16a, q16b, q16c⟩ := isOf hZ eh15 eo12_0
      obtain ⟨v16, _, ⟨T16, L16, k16, n16⟩, -, X16, ⟨Lc16, hQ16, l16, y16, z16⟩, st16⟩ := X15.virtualBack hx (y := (⟨"java/lang/String", "charAt", "(I)C"⟩ : MethodName)) (z := (⟨"java/lang/String", "charAt", "(I)C"⟩ : MethodName)) hown (mvT hZ (oH hw 119 rfl)) (mvT hZ (oH hw 120 rfl)) (notFace_of_selects (args := #[]) (mvT hZ (oH hw 122 rfl))) (mvT hZ (oH hw 122 rfl)) (mvT hZ (oH hw 121 rfl)) (by decide) (backOf (W := 0) (rmz26 l Z a0 hw [] no12_0 na12_0 ka12_0 b0 u8 zc fv T12.heap n0 Z12 eo12_0 g_no12_0 va12_0 g_na12_0 fo12_0_value fo12_0_coder nx14 c12_USS) hZ (oH hw 123 rfl) (oH hw 54 rfl) (by decide) (by decide)) q16a q16c (g := (mkF m 125 #[vI i0, vI cp, vI 1, vR b2, vI 1, vR b5, vR no12_0, oU, oU] [(.int 0), (.ref no12_0)])) rfl (by rw [hml]; rfl) (Steps.refl _) (argsL := [(.int 0)]) (rest := []) (lenOf pd_374 rfl) rfl (by show 2 * 0 + _ ≤ _; exact Nat.le_of_eq rfl) (hb hby at_125) (fun _ _ => ⟨rfl, eh15, (by decide : 4 + 0 ≤ _), (by decide : 11 + 0 ≤ _)⟩)
      dsimp only [Pt.U, Pt.locs, Pt.cells, Pt.slots] at X16 l16 y16 z16 st16 hQ16
      subst l16 y16 z16
      obtain ⟨rfl, eh16, rfl⟩ := hQ16
      have N16 := Fr.app N15 (Fr.nil n0)
      refine oG m T16 130 #[vI i0,vI cp,vI 1,vR b2,vI 1,vR b5,vR no12_0,oU,oU] [(.int (cp.toUInt32.toUInt16.toUInt32.toInt32)),(.int (nar .char (nar .char ((b0 &&& (255 : Int32)).toUInt32.toUInt16.toUInt32.toInt32))))] (fun _ k => st16.trans (XS.iloadN X16.here hx rfl (hb hby at_128) rfl (XS.i2c X16.here hx rfl (hb hby at_129) rfl k))) ?_
      have hp17 : (nar .char (nar .char ((b0 &&& (255 : Int32)).toUInt32.toUInt16.toUInt32.toInt32))) = (cp.toUInt32.toUInt16.toUInt32.toInt32) := (by have a0 := own_m255 b0; have e0' : (b0 &&& (255 : Int32)) = cp := (by rw [← Int32.toInt_inj]; omega); rw [e0']; simp only [own_i2c cp (by omega) (by omega), own_nch cp (by omega) (by omega)])
      refine oG m T16 138 #[vI i0,vI cp,vI 1,vR b2,vI 1,vR b5,vR no12_0,oU,oU] [(.int 1)] (fun _ k => XS.icmpNo X16.here hx rfl (hb hby at_130) rfl (teq hp17).2 (XS.iconst X16.here hx rfl (hb hby at_133) (XS.goto X16.here hx rfl (pc0 := 134) (pc' := 138) rfl (hb hby at_134) (by decide) (by decide) k))) ?_
      refine own_retN (t := .boolean) X16 hx hlk (by simp) Bd.returns (hb hby at_138) (by decide) (by decide) ?_
      exact ⟨rfl, N16⟩
    · by_cases c2 : cp < (2048 : Int32)
      · by_cases c4 : cp < (256 : Int32)
        · have hlo : 128 ≤ cp.toInt := own_nltr c1 (by decide)
          have hhi : cp.toInt < 256 := own_ltr c4 (by decide)
          refine oG m s₁ 27 #[vI i0,vI cp,oU,oU,oU,oU,oU,oU,oU] [(.int cp)] (fun _ k => XS.iloadN X0.here hx rfl (hb hby at_26) rfl k) ?_
          obtain ⟨T18, X18, e18, st18⟩ := own_cP X0 hx hZ hown (oH hw 3 rfl) (oH hw 4 rfl) (oH hw 5 rfl) (oH hw 6 rfl) (by decide) (rmz27 l Z a0 hw [] cp u8 zc fv h0 n0 Z0  SS c1 c2) (W := 0) (by decide) (by decide) (g := (mkF m 27 #[vI i0, vI cp, oU, oU, oU, oU, oU, oU, oU] [(.int cp)])) rfl (by rw [hml]; rfl) (argsL := [(.int cp)]) (rest := []) (lenOf pd_79 rfl) rfl rfl rfl (hb hby at_27) e0 rfl (by decide) (by decide) (by decide : 0 ≤ _) (by decide : 0 ≤ _)
          refine oG m T18 44 #[vI i0,vI cp,vI 2,oU,oU,oU,oU,oU,oU] [(.int 4)] (fun _ k => st18 _ (XS.istoreN X18.here hx rfl (hb hby at_30) rfl (l' := #[vI i0,vI cp,vI 2,oU,oU,oU,oU,oU,oU]) rfl (XS.iloadN X18.here hx rfl (hb hby at_31) rfl (XS.iconst X18.here hx rfl (hb hby at_32) (XS.icmpNo X18.here hx rfl (hb hby at_33) rfl (flt (by decide)).1 (XS.iloadN X18.here hx rfl (hb hby at_36) rfl (XS.iconst X18.here hx rfl (hb hby at_37) (XS.icmpYes X18.here hx rfl (pc0 := 38) (pc' := 43) rfl (hb hby at_38) rfl (flt (by decide)).2.2.2 (by decide) (by decide) (XS.iconst X18.here hx rfl (hb hby at_43) k))))))))) ?_
          obtain ⟨T19, h19, k19, X19, e19, E19, A19, Ec19, st19⟩ := newPE X18 hx hZ (oH hw 7 rfl) e18 (g := (mkF m 44 #[vI i0, vI cp, vI 2, oU, oU, oU, oU, oU, oU] [(.int 4)])) rfl (hb hby at_44) rfl (by decide) (cap := 4) (by decide) (by decide) (by decide) (by decide) (ad := "[B") (by decide)
          obtain ⟨b19, gz19⟩ : ∃ z, z = h0.size := ⟨_, rfl⟩
          rw [← gz19] at A19 Ec19 st19
          have sz_b19 : h0.size ≤ b19 := Nat.le_trans K0.1 (Nat.le_of_eq gz19.symm)
          have c19_USS := SS.ext E19
          have K19 := K0.ext E19
          have g_b19 : n0 ≤ b19 := Nat.le_trans Z0 (Nat.le_of_eq gz19.symm)
          have V19 := Arv.new A19 (by decide)
          have Z19 : n0 ≤ h19.size := Nat.le_trans Z0 E19.1
          refine oG m T19 46 #[vI i0,vI cp,vI 2,oU,oU,oU,oU,oU,oU] [(.ref b19)] (fun _ k => st19 _ k) ?_
          have V20 : Arv Z h19 b19 k19 .byte (4 : Int32) [(.int 0), (.int 0), (.int 0), (.int 0)] (.int 0) := V19.pad (pad_rep [] (.int 0) 4)
          refine oG m T19 50 #[vI i0,vI cp,vI 2,vR b19,oU,oU,oU,oU,oU] [(.int 0),(.ref b19),(.int cp)] (fun _ k => XS.astoreN X19.here hx rfl (hb hby at_46) rfl rfl (l' := #[vI i0,vI cp,vI 2,vR b19,oU,oU,oU,oU,oU]) rfl (XS.iloadN X19.here hx rfl (hb hby at_47) rfl (XS.aloadN X19.here hx rfl (hb hby at_48) rfl rfl (XS.iconst X19.here hx rfl (hb hby at_49) k)))) ?_
          obtain ⟨v21, T21, Lc21, X21, hQ21, st21⟩ := own_cS X19 hx hZ hown (oH hw 8 rfl) (oH hw 9 rfl) (oH hw 5 rfl) (oH hw 10 rfl) (by decide) (rmz28 l Z a0 hw [] cp b19 k19 (0 : Int32) (0 : Int32) (0 : Int32) (0 : Int32) u8 zc fv h19 n0 Z19 V20 g_b19 Ec19 c19_USS c1 c2) (W := 0) (by decide) (by decide) (g := (mkF m 50 #[vI i0, vI cp, vI 2, vR b19, oU, oU, oU, oU, oU] [(.int 0), (.ref b19), (.int cp)])) rfl (by rw [hml]; rfl) (argsL := [(.int cp), (.ref b19), (.int 0)]) (rest := []) (lenOf pd_104 rfl) rfl rfl rfl (hb hby at_50) e19 rfl (by decide : 1 + 0 ≤ _) (by decide : 4 + 0 ≤ _)
          obtain ⟨rfl, Nq21, Kc21, wa21_0⟩ := hQ21
          have Kt21 := K19.trans Kc21 (fun x hx => by simp only [List.mem_cons, List.mem_singleton, List.not_mem_nil, or_false] at hx; rcases hx with rfl <;> first | (left; simp; done) | (right; assumption))
          have N21 := Fr.app N0 Nq21
          have Z21 : n0 ≤ T21.heap.size := Nat.le_trans Z19 Kc21.1
          have c21_USS := c19_USS.keep Kc21 (own_nsS (own_nsA V20) own_ns0)
          have c21_Eb19 := Ec19.keep Kc21
          refine oG m T21 53 #[vI i0,vI cp,vI 2,vR b19,oU,oU,oU,oU,oU] [(.int 2)] (fun _ k => st21 _ k) ?_
          obtain ⟨b0, hb0⟩ : ∃ z : Int32, z = (nar .byte (((16320 : Int32) ||| (cp >>> ((6 : Int32) &&& 31))).toInt8.toInt32)) := ⟨_, rfl⟩
          rw [← hb0] at wa21_0
          have d1 := own_sh cp
          have d2 := own_sh (cp >>> ((6 : Int32) &&& 31))
          have d3 := own_sh ((cp >>> ((6 : Int32) &&& 31)) >>> ((6 : Int32) &&& 31))
          have tb0 : b0.toInt = cp.toInt / 64 - 64 := by rw [hb0]; exact own_lead _ _ 6 (by decide) 64 (by decide) 16320 (by decide) (by decide) (by omega) (by omega) (by decide) (by decide) _ (by omega) (by omega) (by omega)
          obtain ⟨b1, hb1⟩ : ∃ z : Int32, z = (nar .byte (((128 : Int32) ||| (cp &&& (63 : Int32))).toInt8.toInt32)) := ⟨_, rfl⟩
          rw [← hb1] at wa21_0
          have tb1 : b1.toInt = cp.toInt % 64 - 128 := by rw [hb1]; refine (own_cont _).trans ?_; omega
          refine oG m T21 63 #[vI i0,vI cp,vI 2,vR b19,vI 2,oU,oU,oU,oU] [] (fun _ k => XS.istore X21.here hx rfl (hb hby at_53) rfl (l' := #[vI i0,vI cp,vI 2,vR b19,vI 2,oU,oU,oU,oU]) rfl (XS.iload X21.here hx rfl (hb hby at_55) rfl (XS.iloadN X21.here hx rfl (hb hby at_57) rfl (XS.icmpYes X21.here hx rfl (pc0 := 58) (pc' := 63) rfl (hb hby at_58) rfl (teq (by decide)).1 (by decide) (by decide) k)))) ?_
          obtain ⟨T22, h22, X22, e22, E22, A22, D22, -, st22⟩ := newO X21 hx hZ hown (oH hw 12 rfl) (oH hw 13 rfl) (oH hw 5 rfl) rfl (g := (mkF m 63 #[vI i0, vI cp, vI 2, vR b19, vI 2, oU, oU, oU, oU] [])) rfl (hb hby at_63) (by decide) (by decide)
          obtain ⟨b22, gz22⟩ : ∃ z, z = T21.heap.size := ⟨_, rfl⟩
          rw [← gz22] at A22 D22 st22
          have sz_b22 : h0.size ≤ b22 := Nat.le_trans Kt21.1 (Nat.le_of_eq gz22.symm)
          have ne_b19_b22 : b19 ≠ b22 := Nat.ne_of_lt (by rw [gz22]; exact c21_Eb19.lt)
          have c22_USS := c21_USS.ext E22
          have c22_Eb19 := c21_Eb19.ext E22
          have c22_Vb19 := wa21_0.ext E22
          have K22 := Kt21.ext E22
          have g_b22 : n0 ≤ b22 := Nat.le_trans Z21 (Nat.le_of_eq gz22.symm)
          have F22_bytes : Fld Z h22 b22 "clearcut/Text" "bytes" "[B" .null := D22 (Or.inr (oH hw 21 rfl)) (ty := (.array .byte)) (by decide)
          have F22_length : Fld Z h22 b22 "clearcut/Text" "length" "I" (.int 0) := D22 (Or.inr (oH hw 23 rfl)) (ty := .int) (by decide)
          have Z22 : n0 ≤ h22.size := Nat.le_trans Z21 E22.1
          refine oG m T22 69 #[vI i0,vI cp,vI 2,vR b19,vI 2,oU,oU,oU,oU] [(.int 2),(.ref b19),(.ref b22),(.ref b22)] (fun _ k => st22 _ (XS.dup X22.here hx rfl (hb hby at_66) rfl rfl (XS.aloadN X22.here hx rfl (hb hby at_67) rfl rfl (XS.iloadN X22.here hx rfl (hb hby at_68) rfl k)))) ?_
          obtain ⟨v23, _, ⟨T23, L23, k23, n23⟩, -, X23, ⟨Lc23, hQ23, l23, y23, z23⟩, st23⟩ := X22.specialBack hx (y := (⟨"clearcut/Text", "<init>", "([BI)V"⟩ : MethodName)) rfl hown (mvT hZ (oH hw 14 rfl)) (mvT hZ (oH hw 15 rfl)) (mvT hZ (oH hw 16 rfl)) (by decide) (backOf (W := 1) (rmz3 l Z a0 hw [] b22 b19 k19 b0 b1 (0 : Int32) (0 : Int32) (2 : Int32) u8 zc fv h22 n0 Z22 A22 g_b22 F22_bytes F22_length c22_Vb19 g_b19 c22_Eb19 (Ne.symm ne_b19_b22) c22_USS) hZ (oH hw 16 rfl) (oH hw 5 rfl) (by decide) (by decide)) (g := (mkF m 69 #[vI i0, vI cp, vI 2, vR b19, vI 2, oU, oU, oU, oU] [(.int 2), (.ref b19), (.ref b22), (.ref b22)])) rfl (by rw [hml]; rfl) (Steps.refl _) (a := b22) (argsL := [(.ref b19), (.int 2)]) (rest := [(.ref b22)]) (lenOf pd_114 rfl) rfl (by show 2 * 0 + _ ≤ _; exact Nat.le_of_eq rfl) (hb hby at_69) (fun _ _ => ⟨rfl, e22, (by decide : 2 + 0 ≤ _), (by decide : 6 + 0 ≤ _)⟩)
          dsimp only [Pt.U, Pt.locs, Pt.cells, Pt.slots] at X23 l23 y23 z23 st23 hQ23
          subst l23 y23 z23
          obtain ⟨rfl, Nq23, Kc23, wo23_0_bytes, wo23_0_length⟩ := hQ23
          have Kt23 := K22.trans Kc23 (fun x hx => by simp only [List.mem_cons, List.mem_singleton, List.not_mem_nil, or_false] at hx; rcases hx with rfl <;> first | (left; simp; done) | (right; assumption))
          have N23 := Fr.app N21 Nq23
          have Z23 : n0 ≤ T23.heap.size := Nat.le_trans Z22 Kc23.1
          have c23_USS := c22_USS.keep Kc23 (own_nsS (own_nsE A22) own_ns0)
          have c23_Eb19 := c22_Eb19.keep Kc23
          have c23_Vb19 := c22_Vb19.keep Kc23 (ninS ne_b19_b22 nin0)
          have c23_Eb22 := A22.keep Kc23
          refine oG m T23 77 #[vI i0,vI cp,vI 2,vR b19,vI 2,vR b22,oU,oU,oU] [(.int 0),(.ref b22)] (fun _ k => st23.trans (XS.astore X23.here hx rfl (hb hby at_72) rfl rfl (l' := #[vI i0,vI cp,vI 2,vR b19,vI 2,vR b22,oU,oU,oU]) rfl (XS.aload X23.here hx rfl (hb hby at_74) rfl rfl (XS.iconst X23.here hx rfl (hb hby at_76) k)))) ?_
          have hp24 : ¬ (b0 &&& (255 : Int32)) < (128 : Int32) := (fun zz => by have aa := own_m255 b0; have kk := own_ltr zz (by decide : (128 : Int32).toInt = 128); omega)
          have hp25 : (b0 &&& (255 : Int32)) < (224 : Int32) := (by have aa := own_m255 b0; rw [Int32.lt_iff_toInt_lt]; have kk : (224 : Int32).toInt = 224 := (by decide); omega)
          obtain ⟨cq26, kq26, q26a, q26b, q26c⟩ := isOf hZ rfl c23_Eb22
          obtain ⟨v26, _, ⟨T26, L26, k26, n26⟩, -, X26, ⟨Lc26, hQ26, l26, y26, z26⟩, st26⟩ := X23.virtualBack hx (y := (⟨"clearcut/Text", "next", "(I)I"⟩ : MethodName)) (z := (⟨"clearcut/Text", "next", "(I)I"⟩ : MethodName)) hown (mvT hZ (oH hw 24 rfl)) (mvT hZ (oH hw 25 rfl)) (notFace_of_selects (args := #[]) (mvT hZ (oH hw 27 rfl))) (mvT hZ (oH hw 27 rfl)) (mvT hZ (oH hw 26 rfl)) (by decide) (backOf (W := 0) (rmz30 l Z a0 hw [] b22 b19 k19 b0 b1 (0 : Int32) (0 : Int32) u8 zc fv T23.heap n0 Z23 c23_Eb22 g_b22 c23_Vb19 g_b19 c23_Eb19 wo23_0_bytes (Ne.symm ne_b19_b22) c23_USS hp24 hp25) hZ (oH hw 28 rfl) (oH hw 5 rfl) (by decide) (by decide)) q26a q26c (g := (mkF m 77 #[vI i0, vI cp, vI 2, vR b19, vI 2, vR b22, oU, oU, oU] [(.int 0), (.ref b22)])) rfl (by rw [hml]; rfl) (Steps.refl _) (argsL := [(.int 0)]) (rest := []) (lenOf pd_79 rfl) rfl (by show 2 * 0 + _ ≤ _; exact Nat.le_of_eq rfl) (hb hby at_77) (fun _ _ => ⟨rfl, rfl, (by decide : 2 + 0 ≤ _), (by decide : 6 + 0 ≤ _)⟩)
          dsimp only [Pt.U, Pt.locs, Pt.cells, Pt.slots] at X26 l26 y26 z26 st26 hQ26
          subst l26 y26 z26
          obtain ⟨rfl, eh26, rfl⟩ := hQ26
          have N26 := Fr.app N23 (Fr.nil n0)
          refine oG m T26 89 #[vI i0,vI cp,vI 2,vR b19,vI 2,vR b22,oU,oU,oU] [(.int 0),(.ref b22)] (fun _ k => st26.trans (XS.iloadN X26.here hx rfl (hb hby at_80) rfl (XS.icmpYes X26.here hx rfl (pc0 := 81) (pc' := 86) rfl (hb hby at_81) rfl (teq (by decide)).1 (by decide) (by decide) (XS.aload X26.here hx rfl (hb hby at_86) rfl rfl (XS.iconst X26.here hx rfl (hb hby at_88) k))))) ?_
          obtain ⟨cq27, kq27, q27a, q27b, q27c⟩ := isOf hZ eh26 c23_Eb22
          obtain ⟨v27, _, ⟨T27, L27, k27, n27⟩, -, X27, ⟨Lc27, hQ27, l27, y27, z27⟩, st27⟩ := X26.virtualBack hx (y := (⟨"clearcut/Text", "codePointAt", "(I)I"⟩ : MethodName)) (z := (⟨"clearcut/Text", "codePointAt", "(I)I"⟩ : MethodName)) hown (mvT hZ (oH hw 37 rfl)) (mvT hZ (oH hw 38 rfl)) (notFace_of_selects (args := #[]) (mvT hZ (oH hw 40 rfl))) (mvT hZ (oH hw 40 rfl)) (mvT hZ (oH hw 39 rfl)) (by decide) (backOf (W := 0) (rmz31 l Z a0 hw [] b22 b19 k19 b0 b1 (0 : Int32) (0 : Int32) u8 zc fv T23.heap n0 Z23 c23_Eb22 g_b22 c23_Vb19 g_b19 c23_Eb19 wo23_0_bytes (Ne.symm ne_b19_b22) c23_USS hp24 hp25) hZ (oH hw 41 rfl) (oH hw 5 rfl) (by decide) (by decide)) q27a q27c (g := (mkF m 89 #[vI i0, vI cp, vI 2, vR b19, vI 2, vR b22, oU, oU, oU] [(.int 0), (.ref b22)])) rfl (by rw [hml]; rfl) (Steps.refl _) (argsL := [(.int 0)]) (rest := []) (lenOf pd_79 rfl) rfl (by show 2 * 0 + _ ≤ _; exact Nat.le_of_eq rfl) (hb hby at_89) (fun _ _ => ⟨rfl, eh26, (by decide : 2 + 0 ≤ _), (by decide : 6 + 0 ≤ _)⟩)
          dsimp only [Pt.U, Pt.locs, Pt.cells, Pt.slots] at X27 l27 y27 z27 st27 hQ27
          subst l27 y27 z27
          obtain ⟨rfl, eh27, rfl⟩ := hQ27
          have N27 := Fr.app N26 (Fr.nil n0)
          refine oG m T27 93 #[vI i0,vI cp,vI 2,vR b19,vI 2,vR b22,oU,oU,oU] [(.int cp),(.int ((((b0 &&& (255 : Int32)) &&& (31 : Int32)) <<< ((6 : Int32) &&& 31)) ||| (b1 &&& (63 : Int32))))] (fun _ k => st27.trans (XS.iloadN X27.here hx rfl (hb hby at_92) rfl k)) ?_
          have hp28 : ((((b0 &&& (255 : Int32)) &&& (31 : Int32)) <<< ((6 : Int32) &&& 31)) ||| (b1 &&& (63 : Int32))) = cp := (by have a0 := own_m255 b0; have a1 : ((b0 &&& (255 : Int32)) &&& (31 : Int32)).toInt = (b0 &&& (255 : Int32)).toInt % 32 := (by have z := c_mask (b0 &&& (255 : Int32)) 31 5 (by decide) (by decide); simpa using z); have a2 := own_acc ((b0 &&& (255 : Int32)) &&& (31 : Int32)) b1 (by omega) (by omega); rw [← Int32.toInt_inj]; omega)
          refine oG m T27 102 #[vI i0,vI cp,vI 2,vR b19,vI 2,vR b22,oU,oU,oU] [(.int 2),(.int 0),(.ref b22)] (fun _ k => XS.icmpYes X27.here hx rfl (pc0 := 93) (pc' := 98) rfl (hb hby at_93) rfl (teq hp28).1 (by decide) (by decide) (XS.aload X27.here hx rfl (hb hby at_98) rfl rfl (XS.iconst X27.here hx rfl (hb hby at_100) (XS.iloadN X27.here hx rfl (hb hby at_101) rfl k)))) ?_
          have hp29 : b0 < (0 : Int32) := (by rw [Int32.lt_iff_toInt_lt]; have kk : (0 : Int32).toInt = 0 := (by decide); omega)
          have hp30 : (b0 &&& (254 : Int32)) = (194 : Int32) := (own_fin (P := fun x => (x &&& (254 : Int32)) = (194 : Int32)) (-62) 2 (by decide) b0 (by omega) (by omega))
          have hp31 : b1 < (-64 : Int32) := (by rw [Int32.lt_iff_toInt_lt]; have kk : (-64 : Int32).toInt = -64 := (by decide); omega)
          obtain ⟨cq32, kq32, q32a, q32b, q32c⟩ := isOf hZ eh27 c23_Eb22
          obtain ⟨v32, _, ⟨T32, L32, k32, n32⟩, -, X32, ⟨Lc32, hQ32, l32, y32, z32⟩, st32⟩ := X27.virtualBack hx (y := (⟨"clearcut/Text", "substring", "(II)Ljava/lang/String;"⟩ : MethodName)) (z := (⟨"clearcut/Text", "substring", "(II)Ljava/lang/String;"⟩ : MethodName)) hown (mvT hZ (oH hw 42 rfl)) (mvT hZ (oH hw 43 rfl)) (notFace_of_selects (args := #[]) (mvT hZ (oH hw 45 rfl))) (mvT hZ (oH hw 45 rfl)) (mvT hZ (oH hw 44 rfl)) (by decide) (backOf (W := 0) (rmz40 l Z a0 hw [] b22 b19 k19 b0 b1 (0 : Int32) (0 : Int32) u8 zc fv T23.heap n0 Z23 c23_Eb22 g_b22 c23_Vb19 g_b19 c23_Eb19 wo23_0_bytes (Ne.symm ne_b19_b22) c23_USS hp29 hp30 hp31) hZ (oH hw 46 rfl) (oH hw 5 rfl) (by decide) (by decide)) q32a q32c (g := (mkF m 102 #[vI i0, vI cp, vI 2, vR b19, vI 2, vR b22, oU, oU, oU] [(.int 2), (.int 0), (.ref b22)])) rfl (by rw [hml]; rfl) (Steps.refl _) (argsL := [(.int 0), (.int 2)]) (rest := []) (lenOf pd_313 rfl) rfl (by show 2 * 0 + _ ≤ _; exact Nat.le_of_eq rfl) (hb hby at_102) (fun _ _ => ⟨rfl, eh27, (by decide : 2 + 3 ≤ _), (by decide : 6 + 7 ≤ _)⟩)
          dsimp only [Pt.U, Pt.locs, Pt.cells, Pt.slots] at X32 l32 y32 z32 st32 hQ32
          subst l32 y32 z32
          obtain ⟨na32_0, ka32_0, no32_0, rfl, Nq32, Kc32, sa32_0, va32_0, so32_0, eo32_0, fo32_0_value, fo32_0_coder⟩ := hQ32
          have Kt32 := Kt23.trans Kc32 (fun x hx => nomatch hx)
          have N32 := Fr.app N27 Nq32
          have Z32 : n0 ≤ T32.heap.size := Nat.le_trans Z23 Kc32.1
          have c32_USS := c23_USS.keep Kc32 own_ns0
          have c32_Eb19 := c23_Eb19.keep Kc32
          have c32_Vb19 := c23_Vb19.keep Kc32 nin0
          have c32_Eb22 := c23_Eb22.keep Kc32
          have c32_Fb22_bytes := wo23_0_bytes.keep Kc32 nin0
          have c32_Fb22_length := wo23_0_length.keep Kc32 nin0
          refine oG m T32 105 #[vI i0,vI cp,vI 2,vR b19,vI 2,vR b22,oU,oU,oU] [(.ref no32_0)] (fun _ k => st32.trans k) ?_
          have g_na32_0 : n0 ≤ na32_0 := Nat.le_trans Z23 sa32_0
          have sz_na32_0 : h0.size ≤ na32_0 := Nat.le_trans Kt23.1 sa32_0
          have ne_b19_na32_0 : b19 ≠ na32_0 := Nat.ne_of_lt (Nat.lt_of_lt_of_le c23_Vb19.lt sa32_0)
          have ne_b22_na32_0 : b22 ≠ na32_0 := Nat.ne_of_lt (Nat.lt_of_lt_of_le c23_Eb22.lt sa32_0)
          have g_no32_0 : n0 ≤ no32_0 := Nat.le_trans Z23 so32_0
          have sz_no32_0 : h0.size ≤ no32_0 := Nat.le_trans Kt23.1 so32_0
          have ne_b19_no32_0 : b19 ≠ no32_0 := Nat.ne_of_lt (Nat.lt_of_lt_of_le c23_Vb19.lt so32_0)
          have ne_b22_no32_0 : b22 ≠ no32_0 := Nat.ne_of_lt (Nat.lt_of_lt_of_le c23_Eb22.lt so32_0)
          refine oG m T32 108 #[vI i0,vI cp,vI 2,vR b19,vI 2,vR b22,vR no32_0,oU,oU] [(.int cp)] (fun _ k => XS.astore X32.here hx rfl (hb hby at_105) rfl rfl (l' := #[vI i0,vI cp,vI 2,vR b19,vI 2,vR b22,vR no32_0,oU,oU]) rfl (XS.iloadN X32.here hx rfl (hb hby at_107) rfl k)) ?_
          refine oG m T32 110 #[vI i0,vI cp,vI 2,vR b19,vI 2,vR b22,vR no32_0,oU,oU] [(.int 65536),(.int cp)] (fun _ k => (X32.ldcInt hx hown (mvT hZ (oH hw 108 rfl)) (g := (mkF m 108 #[vI i0,vI cp,vI 2,vR b19,vI 2,vR b22,vR no32_0,oU,oU] [(.int cp)])) rfl (hb hby at_108)) _ k) ?_
          have hp33 : cp < (65536 : Int32) := (by rw [Int32.lt_iff_toInt_lt]; have kk : (65536 : Int32).toInt = 65536 := (by decide); omega)
          refine oG m T32 115 #[vI i0,vI cp,vI 2,vR b19,vI 2,vR b22,vR no32_0,oU,oU] [(.ref no32_0)] (fun _ k => XS.icmpNo X32.here hx rfl (hb hby at_110) rfl (tlt hp33).2.1 (XS.aload X32.here hx rfl (hb hby at_113) rfl rfl k)) ?_
          have nx34 : no32_0 ≠ na32_0 := eo32_0.neArv va32_0 (oH hw 53 rfl)
          obtain ⟨cq35, kq35, q35a, q35b, q35c⟩ := isOf hZ rfl eo32_0
          obtain ⟨v35, _, ⟨T35, L35, k35, n35⟩, -, X35, ⟨Lc35, hQ35, l35, y35, z35⟩, st35⟩ := X32.virtualBack hx (y := (⟨"java/lang/String", "length", "()I"⟩ : MethodName)) (z := (⟨"java/lang/String", "length", "()I"⟩ : MethodName)) hown (mvT hZ (oH hw 109 rfl)) (mvT hZ (oH hw 110 rfl)) (notFace_of_selects (args := #[]) (mvT hZ (oH hw 112 rfl))) (mvT hZ (oH hw 112 rfl)) (mvT hZ (oH hw 111 rfl)) (by decide) (backOf (W := 0) (rmz21 l Z a0 hw [] no32_0 na32_0 ka32_0 (nar .byte ((own_d2 b0 b1).toInt8.toInt32)) u8 zc fv T32.heap n0 Z32 eo32_0 g_no32_0 va32_0 g_na32_0 fo32_0_value fo32_0_coder nx34 c32_USS) hZ (oH hw 113 rfl) (oH hw 54 rfl) (by decide) (by decide)) q35a q35c (g := (mkF m 115 #[vI i0, vI cp, vI 2, vR b19, vI 2, vR b22, vR no32_0, oU, oU] [(.ref no32_0)])) rfl (by rw [hml]; rfl) (Steps.refl _) (argsL := []) (rest := []) (lenOf pd_329 rfl) rfl (by show 2 * 0 + _ ≤ _; exact Nat.le_of_eq rfl) (hb hby at_115) (fun _ _ => ⟨rfl, rfl, (by decide : 5 + 0 ≤ _), (by decide : 13 + 0 ≤ _)⟩)
          dsimp only [Pt.U, Pt.locs, Pt.cells, Pt.slots] at X35 l35 y35 z35 st35 hQ35
          subst l35 y35 z35
          obtain ⟨rfl, eh35, rfl⟩ := hQ35
          have N35 := Fr.app N32 (Fr.nil n0)
          refine oG m T35 125 #[vI i0,vI cp,vI 2,vR b19,vI 2,vR b22,vR no32_0,oU,oU] [(.int 0),(.ref no32_0)] (fun _ k => st35.trans (XS.iconst X35.here hx rfl (hb hby at_118) (XS.icmpNo X35.here hx rfl (hb hby at_119) rfl (teq (by decide)).2 (XS.aload X35.here hx rfl (hb hby at_122) rfl rfl (XS.iconst X35.here hx rfl (hb hby at_124) k))))) ?_
          obtain ⟨cq36, kq36, q36a, q36b, q36c⟩ := isOf hZ eh35 eo32_0
          obtain ⟨v36, _, ⟨T36, L36, k36, n36⟩, -, X36, ⟨Lc36, hQ36, l36, y36, z36⟩, st36⟩ := X35.virtualBack hx (y := (⟨"java/lang/String", "charAt", "(I)C"⟩ : MethodName)) (z := (⟨"java/lang/String", "charAt", "(I)C"⟩ : MethodName)) hown (mvT hZ (oH hw 119 rfl)) (mvT hZ (oH hw 120 rfl)) (notFace_of_selects (args := #[]) (mvT hZ (oH hw 122 rfl))) (mvT hZ (oH hw 122 rfl)) (mvT hZ (oH hw 121 rfl)) (by decide) (backOf (W := 0) (rmz26 l Z a0 hw [] no32_0 na32_0 ka32_0 (nar .byte ((own_d2 b0 b1).toInt8.toInt32)) u8 zc fv T32.heap n0 Z32 eo32_0 g_no32_0 va32_0 g_na32_0 fo32_0_value fo32_0_coder nx34 c32_USS) hZ (oH hw 123 rfl) (oH hw 54 rfl) (by decide) (by decide)) q36a q36c (g := (mkF m 125 #[vI i0, vI cp, vI 2, vR b19, vI 2, vR b22, vR no32_0, oU, oU] [(.int 0), (.ref no32_0)])) rfl (by rw [hml]; rfl) (Steps.refl _) (argsL := [(.int 0)]) (rest := []) (lenOf pd_374 rfl) rfl (by show 2 * 0 + _ ≤ _; exact Nat.le_of_eq rfl) (hb hby at_125) (fun _ _ => ⟨rfl, eh35, (by decide : 5 + 0 ≤ _), (by decide : 13 + 0 ≤ _)⟩)
          dsimp only [Pt.U, Pt.locs, Pt.cells, Pt.slots] at X36 l36 y36 z36 st36 hQ36
          subst l36 y36 z36
          obtain ⟨rfl, eh36, rfl⟩ := hQ36
          have N36 := Fr.app N35 (Fr.nil n0)
          refine oG m T36 130 #[vI i0,vI cp,vI 2,vR b19,vI 2,vR b22,vR no32_0,oU,oU] [(.int (cp.toUInt32.toUInt16.toUInt32.toInt32)),(.int (nar .char (nar .char (((nar .byte ((own_d2 b0 b1).toInt8.toInt32)) &&& (255 : Int32)).toUInt32.toUInt16.toUInt32.toInt32))))] (fun _ k => st36.trans (XS.iloadN X36.here hx rfl (hb hby at_128) rfl (XS.i2c X36.here hx rfl (hb hby at_129) rfl k))) ?_
          have hp37 : (nar .char (nar .char (((nar .byte ((own_d2 b0 b1).toInt8.toInt32)) &&& (255 : Int32)).toUInt32.toUInt16.toUInt32.toInt32))) = (cp.toUInt32.toUInt16.toUInt32.toInt32) := (by rw [own_d2v b0 b1 cp hlo (by omega) tb0 tb1]; have a0 := own_by cp; have e0' : ((nar .byte (cp.toInt8.toInt32)) &&& (255 : Int32)) = cp := (by rw [← Int32.toInt_inj]; omega); rw [e0']; simp only [own_i2c cp (by omega) (by omega), own_nch cp (by omega) (by omega)])
          refine oG m T36 138 #[vI i0,vI cp,vI 2,vR b19,vI 2,vR b22,vR no32_0,oU,oU] [(.int 1)] (fun _ k => XS.icmpNo X36.here hx rfl (hb hby at_130) rfl (teq hp37).2 (XS.iconst X36.here hx rfl (hb hby at_133) (XS.goto X36.here hx rfl (pc0 := 134) (pc' := 138) rfl (hb hby at_134) (by decide) (by decide) k))) ?_
          refine own_retN (t := .boolean) X36 hx hlk (by simp) Bd.returns (hb hby at_138) (by decide) (by decide) ?_
          exact ⟨rfl, N36⟩
        · have hlo : 256 ≤ cp.toInt := own_nltr c4 (by decide)
          have hhi : cp.toInt < 2048 := own_ltr c2 (by decide)
          refine oG m s₁ 27 #[vI i0,vI cp,oU,oU,oU,oU,oU,oU,oU] [(.int cp)] (fun _ k => XS.iloadN X0.here hx rfl (hb hby at_26) rfl k) ?_
          obtain ⟨T38, X38, e38, st38⟩ := own_cP X0 hx hZ hown (oH hw 3 rfl) (oH hw 4 rfl) (oH hw 5 rfl) (oH hw 6 rfl) (by decide) (rmz27 l Z a0 hw [] cp u8 zc fv h0 n0 Z0  SS c1 c2) (W := 0) (by decide) (by decide) (g := (mkF m 27 #[vI i0, vI cp, oU, oU, oU, oU, oU, oU, oU] [(.int cp)])) rfl (by rw [hml]; rfl) (argsL := [(.int cp)]) (rest := []) (lenOf pd_79 rfl) rfl rfl rfl (hb hby at_27) e0 rfl (by decide) (by decide) (by decide : 0 ≤ _) (by decide : 0 ≤ _)
          refine oG m T38 44 #[vI i0,vI cp,vI 2,oU,oU,oU,oU,oU,oU] [(.int 4)] (fun _ k => st38 _ (XS.istoreN X38.here hx rfl (hb hby at_30) rfl (l' := #[vI i0,vI cp,vI 2,oU,oU,oU,oU,oU,oU]) rfl (XS.iloadN X38.here hx rfl (hb hby at_31) rfl (XS.iconst X38.here hx rfl (hb hby at_32) (XS.icmpNo X38.here hx rfl (hb hby at_33) rfl (flt (by decide)).1 (XS.iloadN X38.here hx rfl (hb hby at_36) rfl (XS.iconst X38.here hx rfl (hb hby at_37) (XS.icmpYes X38.here hx rfl (pc0 := 38) (pc' := 43) rfl (hb hby at_38) rfl (flt (by decide)).2.2.2 (by decide) (by decide) (XS.iconst X38.here hx rfl (hb hby at_43) k))))))))) ?_
          obtain ⟨T39, h39, k39, X39, e39, E39, A39, Ec39, st39⟩ := newPE X38 hx hZ (oH hw 7 rfl) e38 (g := (mkF m 44 #[vI i0, vI cp, vI 2, oU, oU, oU, oU, oU, oU] [(.int 4)])) rfl (hb hby at_44) rfl (by decide) (cap := 4) (by decide) (by decide) (by decide) (by decide) (ad := "[B") (by decide)
          obtain ⟨b39, gz39⟩ : ∃ z, z = h0.size := ⟨_, rfl⟩
          rw [← gz39] at A39 Ec39 st39
          have sz_b39 : h0.size ≤ b39 := Nat.le_trans K0.1 (Nat.le_of_eq gz39.symm)
          have c39_USS := SS.ext E39
          have K39 := K0.ext E39
          have g_b39 : n0 ≤ b39 := Nat.le_trans Z0 (Nat.le_of_eq gz39.symm)
          have V39 := Arv.new A39 (by decide)
          have Z39 : n0 ≤ h39.size := Nat.le_trans Z0 E39.1
          refine oG m T39 46 #[vI i0,vI cp,vI 2,oU,oU,oU,oU,oU,oU] [(.ref b39)] (fun _ k => st39 _ k) ?_
          have V40 : Arv Z h39 b39 k39 .byte (4 : Int32) [(.int 0), (.int 0), (.int 0), (.int 0)] (.int 0) := V39.pad (pad_rep [] (.int 0) 4)
          refine oG m T39 50 #[vI i0,vI cp,vI 2,vR b39,oU,oU,oU,oU,oU] [(.int 0),(.ref b39),(.int cp)] (fun _ k => XS.astoreN X39.here hx rfl (hb hby at_46) rfl rfl (l' := #[vI i0,vI cp,vI 2,vR b39,oU,oU,oU,oU,oU]) rfl (XS.iloadN X39.here hx rfl (hb hby at_47) rfl (XS.aloadN X39.here hx rfl (hb hby at_48) rfl rfl (XS.iconst X39.here hx rfl (hb hby at_49) k)))) ?_
          obtain ⟨v41, T41, Lc41, X41, hQ41, st41⟩ := own_cS X39 hx hZ hown (oH hw 8 rfl) (oH hw 9 rfl) (oH hw 5 rfl) (oH hw 10 rfl) (by decide) (rmz28 l Z a0 hw [] cp b39 k39 (0 : Int32) (0 : Int32) (0 : Int32) (0 : Int32) u8 zc fv h39 n0 Z39 V40 g_b39 Ec39 c39_USS c1 c2) (W := 0) (by decide) (by decide) (g := (mkF m 50 #[vI i0, vI cp, vI 2, vR b39, oU, oU, oU, oU, oU] [(.int 0), (.ref b39), (.int cp)])) rfl (by rw [hml]; rfl) (argsL := [(.int cp), (.ref b39), (.int 0)]) (rest := []) (lenOf pd_104 rfl) rfl rfl rfl (hb hby at_50) e39 rfl (by decide : 1 + 0 ≤ _) (by decide : 4 + 0 ≤ _)
          obtain ⟨rfl, Nq41, Kc41, wa41_0⟩ := hQ41
          have Kt41 := K39.trans Kc41 (fun x hx => by simp only [List.mem_cons, List.mem_singleton, List.not_mem_nil, or_false] at hx; rcases hx with rfl <;> first | (left; simp; done) | (right; assumption))
          have N41 := Fr.app N0 Nq41
          have Z41 : n0 ≤ T41.heap.size := Nat.le_trans Z39 Kc41.1
          have c41_USS := c39_USS.keep Kc41 (own_nsS (own_nsA V40) own_ns0)
          have c41_Eb39 := Ec39.keep Kc41
          refine oG m T41 53 #[vI i0,vI cp,vI 2,vR b39,oU,oU,oU,oU,oU] [(.int 2)] (fun _ k => st41 _ k) ?_
          obtain ⟨b0, hb0⟩ : ∃ z : Int32, z = (nar .byte (((16320 : Int32) ||| (cp >>> ((6 : Int32) &&& 31))).toInt8.toInt32)) := ⟨_, rfl⟩
          rw [← hb0] at wa41_0
          have d1 := own_sh cp
          have d2 := own_sh (cp >>> ((6 : Int32) &&& 31))
          have d3 := own_sh ((cp >>> ((6 : Int32) &&& 31)) >>> ((6 : Int32) &&& 31))
          have tb0 : b0.toInt = cp.toInt / 64 - 64 := by rw [hb0]; exact own_lead _ _ 6 (by decide) 64 (by decide) 16320 (by decide) (by decide) (by omega) (by omega) (by decide) (by decide) _ (by omega) (by omega) (by omega)
          obtain ⟨b1, hb1⟩ : ∃ z : Int32, z = (nar .byte (((128 : Int32) ||| (cp &&& (63 : Int32))).toInt8.toInt32)) := ⟨_, rfl⟩
          rw [← hb1] at wa41_0
          have tb1 : b1.toInt = cp.toInt % 64 - 128 := by rw [hb1]; refine (own_cont _).trans ?_; omega
          refine oG m T41 63 #[vI i0,vI cp,vI 2,vR b39,vI 2,oU,oU,oU,oU] [] (fun _ k => XS.istore X41.here hx rfl (hb hby at_53) rfl (l' := #[vI i0,vI cp,vI 2,vR b39,vI 2,oU,oU,oU,oU]) rfl (XS.iload X41.here hx rfl (hb hby at_55) rfl (XS.iloadN X41.here hx rfl (hb hby at_57) rfl (XS.icmpYes X41.here hx rfl (pc0 := 58) (pc' := 63) rfl (hb hby at_58) rfl (teq (by decide)).1 (by decide) (by decide) k)))) ?_
          obtain ⟨T42, h42, X42, e42, E42, A42, D42, -, st42⟩ := newO X41 hx hZ hown (oH hw 12 rfl) (oH hw 13 rfl) (oH hw 5 rfl) rfl (g := (mkF m 63 #[vI i0, vI cp, vI 2, vR b39, vI 2, oU, oU, oU, oU] [])) rfl (hb hby at_63) (by decide) (by decide)
          obtain ⟨b42, gz42⟩ : ∃ z, z = T41.heap.size := ⟨_, rfl⟩
          rw [← gz42] at A42 D42 st42
          have sz_b42 : h0.size ≤ b42 := Nat.le_trans Kt41.1 (Nat.le_of_eq gz42.symm)
          have ne_b39_b42 : b39 ≠ b42 := Nat.ne_of_lt (by rw [gz42]; exact c41_Eb39.lt)
          have c42_USS := c41_USS.ext E42
          have c42_Eb39 := c41_Eb39.ext E42
          have c42_Vb39 := wa41_0.ext E42
          have K42 := Kt41.ext E42
          have g_b42 : n0 ≤ b42 := Nat.le_trans Z41 (Nat.le_of_eq gz42.symm)
          have F42_bytes : Fld Z h42 b42 "clearcut/Text" "bytes" "[B" .null := D42 (Or.inr (oH hw 21 rfl)) (ty := (.array .byte)) (by decide)
          have F42_length : Fld Z h42 b42 "clearcut/Text" "length" "I" (.int 0) := D42 (Or.inr (oH hw 23 rfl)) (ty := .int) (by decide)
          have Z42 : n0 ≤ h42.size := Nat.le_trans Z41 E42.1
          refine oG m T42 69 #[vI i0,vI cp,vI 2,vR b39,vI 2,oU,oU,oU,oU] [(.int 2),(.ref b39),(.ref b42),(.ref b42)] (fun _ k => st42 _ (XS.dup X42.here hx rfl (hb hby at_66) rfl rfl (XS.aloadN X42.here hx rfl (hb hby at_67) rfl rfl (XS.iloadN X42.here hx rfl (hb hby at_68) rfl k)))) ?_
          obtain ⟨v43, _, ⟨T43, L43, k43, n43⟩, -, X43, ⟨Lc43, hQ43, l43, y43, z43⟩, st43⟩ := X42.specialBack hx (y := (⟨"clearcut/Text", "<init>", "([BI)V"⟩ : MethodName)) rfl hown (mvT hZ (oH hw 14 rfl)) (mvT hZ (oH hw 15 rfl)) (mvT hZ (oH hw 16 rfl)) (by decide) (backOf (W := 1) (rmz3 l Z a0 hw [] b42 b39 k39 b0 b1 (0 : Int32) (0 : Int32) (2 : Int32) u8 zc fv h42 n0 Z42 A42 g_b42 F42_bytes F42_length c42_Vb39 g_b39 c42_Eb39 (Ne.symm ne_b39_b42) c42_USS) hZ (oH hw 16 rfl) (oH hw 5 rfl) (by decide) (by decide)) (g := (mkF m 69 #[vI i0, vI cp, vI 2, vR b39, vI 2, oU, oU, oU, oU] [(.int 2), (.ref b39), (.ref b42), (.ref b42)])) rfl (by rw [hml]; rfl) (Steps.refl _) (a := b42) (argsL := [(.ref b39), (.int 2)]) (rest := [(.ref b42)]) (lenOf pd_114 rfl) rfl (by show 2 * 0 + _ ≤ _; exact Nat.le_of_eq rfl) (hb hby at_69) (fun _ _ => ⟨rfl, e42, (by decide : 2 + 0 ≤ _), (by decide : 6 + 0 ≤ _)⟩)
          dsimp only [Pt.U, Pt.locs, Pt.cells, Pt.slots] at X43 l43 y43 z43 st43 hQ43
          subst l43 y43 z43
          obtain ⟨rfl, Nq43, Kc43, wo43_0_bytes, wo43_0_length⟩ := hQ43
          have Kt43 := K42.trans Kc43 (fun x hx => by simp only [List.mem_cons, List.mem_singleton, List.not_mem_nil, or_false] at hx; rcases hx with rfl <;> first | (left; simp; done) | (right; assumption))
          have N43 := Fr.app N41 Nq43
          have Z43 : n0 ≤ T43.heap.size := Nat.le_trans Z42 Kc43.1
          have c43_USS := c42_USS.keep Kc43 (own_nsS (own_nsE A42) own_ns0)
          have c43_Eb39 := c42_Eb39.keep Kc43
          have c43_Vb39 := c42_Vb39.keep Kc43 (ninS ne_b39_b42 nin0)
          have c43_Eb42 := A42.keep Kc43
          refine oG m T43 77 #[vI i0,vI cp,vI 2,vR b39,vI 2,vR b42,oU,oU,oU] [(.int 0),(.ref b42)] (fun _ k => st43.trans (XS.astore X43.here hx rfl (hb hby at_72) rfl rfl (l' := #[vI i0,vI cp,vI 2,vR b39,vI 2,vR b42,oU,oU,oU]) rfl (XS.aload X43.here hx rfl (hb hby at_74) rfl rfl (XS.iconst X43.here hx rfl (hb hby at_76) k)))) ?_
          have hp44 : ¬ (b0 &&& (255 : Int32)) < (128 : Int32) := (fun zz => by have aa := own_m255 b0; have kk := own_ltr zz (by decide : (128 : Int32).toInt = 128); omega)
          have hp45 : (b0 &&& (255 : Int32)) < (224 : Int32) := (by have aa := own_m255 b0; rw [Int32.lt_iff_toInt_lt]; have kk : (224 : Int32).toInt = 224 := (by decide); omega)
          obtain ⟨cq46, kq46, q46a, q46b, q46c⟩ := isOf hZ rfl c43_Eb42
          obtain ⟨v46, _, ⟨T46, L46, k46, n46⟩, -, X46, ⟨Lc46, hQ46, l46, y46, z46⟩, st46⟩ := X43.virtualBack hx (y := (⟨"clearcut/Text", "next", "(I)I"⟩ : MethodName)) (z := (⟨"clearcut/Text", "next", "(I)I"⟩ : MethodName)) hown (mvT hZ (oH hw 24 rfl)) (mvT hZ (oH hw 25 rfl)) (notFace_of_selects (args := #[]) (mvT hZ (oH hw 27 rfl))) (mvT hZ (oH hw 27 rfl)) (mvT hZ (oH hw 26 rfl)) (by decide) (backOf (W := 0) (rmz30 l Z a0 hw [] b42 b39 k39 b0 b1 (0 : Int32) (0 : Int32) u8 zc fv T43.heap n0 Z43 c43_Eb42 g_b42 c43_Vb39 g_b39 c43_Eb39 wo43_0_bytes (Ne.symm ne_b39_b42) c43_USS hp44 hp45) hZ (oH hw 28 rfl) (oH hw 5 rfl) (by decide) (by decide)) q46a q46c (g := (mkF m 77 #[vI i0, vI cp, vI 2, vR b39, vI 2, vR b42, oU, oU, oU] [(.int 0), (.ref b42)])) rfl (by rw [hml]; rfl) (Steps.refl _) (argsL := [(.int 0)]) (rest := []) (lenOf pd_79 rfl) rfl (by show 2 * 0 + _ ≤ _; exact Nat.le_of_eq rfl) (hb hby at_77) (fun _ _ => ⟨rfl, rfl, (by decide : 2 + 0 ≤ _), (by decide : 6 + 0 ≤ _)⟩)
          dsimp only [Pt.U, Pt.locs, Pt.cells, Pt.slots] at X46 l46 y46 z46 st46 hQ46
          subst l46 y46 z46
          obtain ⟨rfl, eh46, rfl⟩ := hQ46
          have N46 := Fr.app N43 (Fr.nil n0)
          refine oG m T46 89 #[vI i0,vI cp,vI 2,vR b39,vI 2,vR b42,oU,oU,oU] [(.int 0),(.ref b42)] (fun _ k => st46.trans (XS.iloadN X46.here hx rfl (hb hby at_80) rfl (XS.icmpYes X46.here hx rfl (pc0 := 81) (pc' := 86) rfl (hb hby at_81) rfl (teq (by decide)).1 (by decide) (by decide) (XS.aload X46.here hx rfl (hb hby at_86) rfl rfl (XS.iconst X46.here hx rfl (hb hby at_88) k))))) ?_
          obtain ⟨cq47, kq47, q47a, q47b, q47c⟩ := isOf hZ eh46 c43_Eb42
          obtain ⟨v47, _, ⟨T47, L47, k47, n47⟩, -, X47, ⟨Lc47, hQ47, l47, y47, z47⟩, st47⟩ := X46.virtualBack hx (y := (⟨"clearcut/Text", "codePointAt", "(I)I"⟩ : MethodName)) (z := (⟨"clearcut/Text", "codePointAt", "(I)I"⟩ : MethodName)) hown (mvT hZ (oH hw 37 rfl)) (mvT hZ (oH hw 38 rfl)) (notFace_of_selects (args := #[]) (mvT hZ (oH hw 40 rfl))) (mvT hZ (oH hw 40 rfl)) (mvT hZ (oH hw 39 rfl)) (by decide) (backOf (W := 0) (rmz31 l Z a0 hw [] b42 b39 k39 b0 b1 (0 : Int32) (0 : Int32) u8 zc fv T43.heap n0 Z43 c43_Eb42 g_b42 c43_Vb39 g_b39 c43_Eb39 wo43_0_bytes (Ne.symm ne_b39_b42) c43_USS hp44 hp45) hZ (oH hw 41 rfl) (oH hw 5 rfl) (by decide) (by decide)) q47a q47c (g := (mkF m 89 #[vI i0, vI cp, vI 2, vR b39, vI 2, vR b42, oU, oU, oU] [(.int 0), (.ref b42)])) rfl (by rw [hml]; rfl) (Steps.refl _) (argsL := [(.int 0)]) (rest := []) (lenOf pd_79 rfl) rfl (by show 2 * 0 + _ ≤ _; exact Nat.le_of_eq rfl) (hb hby at_89) (fun _ _ => ⟨rfl, eh46, (by decide : 2 + 0 ≤ _), (by decide : 6 + 0 ≤ _)⟩)
          dsimp only [Pt.U, Pt.locs, Pt.cells, Pt.slots] at X47 l47 y47 z47 st47 hQ47
          subst l47 y47 z47
          obtain ⟨rfl, eh47, rfl⟩ := hQ47
          have N47 := Fr.app N46 (Fr.nil n0)
          refine oG m T47 93 #[vI i0,vI cp,vI 2,vR b39,vI 2,vR b42,oU,oU,oU] [(.int cp),(.int ((((b0 &&& (255 : Int32)) &&& (31 : Int32)) <<< ((6 : Int32) &&& 31)) ||| (b1 &&& (63 : Int32))))] (fun _ k => st47.trans (XS.iloadN X47.here hx rfl (hb hby at_92) rfl k)) ?_
          have hp48 : ((((b0 &&& (255 : Int32)) &&& (31 : Int32)) <<< ((6 : Int32) &&& 31)) ||| (b1 &&& (63 : Int32))) = cp := (by have a0 := own_m255 b0; have a1 : ((b0 &&& (255 : Int32)) &&& (31 : Int32)).toInt = (b0 &&& (255 : Int32)).toInt % 32 := (by have z := c_mask (b0 &&& (255 : Int32)) 31 5 (by decide) (by decide); simpa using z); have a2 := own_acc ((b0 &&& (255 : Int32)) &&& (31 : Int32)) b1 (by omega) (by omega); rw [← Int32.toInt_inj]; omega)
          refine oG m T47 102 #[vI i0,vI cp,vI 2,vR b39,vI 2,vR b42,oU,oU,oU] [(.int 2),(.int 0),(.ref b42)] (fun _ k => XS.icmpYes X47.here hx rfl (pc0 := 93) (pc' := 98) rfl (hb hby at_93) rfl (teq hp48).1 (by decide) (by decide) (XS.aload X47.here hx rfl (hb hby at_98) rfl rfl (XS.iconst X47.here hx rfl (hb hby at_100) (XS.iloadN X47.here hx rfl (hb hby at_101) rfl k)))) ?_
          have hp49 : b0 < (0 : Int32) := (by rw [Int32.lt_iff_toInt_lt]; have kk : (0 : Int32).toInt = 0 := (by decide); omega)
          have hp50 : ¬ (b0 &&& (254 : Int32)) = (194 : Int32) := (own_fin (P := fun x => ¬ (x &&& (254 : Int32)) = (194 : Int32)) (-60) 28 (by decide) b0 (by omega) (by omega))
          have hp51 : (b0 >>> ((5 : Int32) &&& 31)) = (-2 : Int32) := (by have aa : (b0 >>> ((5 : Int32) &&& 31)).toInt = b0.toInt / 32 := (by have zz := c_ishr b0 5 5 (by decide); simpa using zz); have kk : (-2 : Int32).toInt = -2 := (by decide); rw [← Int32.toInt_inj]; omega)
          have hp52 : ¬ (b0 &&& (30 : Int32)) = (0 : Int32) := (own_fin (P := fun x => ¬ (x &&& (30 : Int32)) = (0 : Int32)) (-60) 28 (by decide) b0 (by omega) (by omega))
          have hp53 : (own_nc_0 b1) = (0 : Int32) := (own_ncv b1 (by omega) (by omega))
          obtain ⟨cq54, kq54, q54a, q54b, q54c⟩ := isOf hZ eh47 c43_Eb42
          obtain ⟨v54, _, ⟨T54, L54, k54, n54⟩, -, X54, ⟨Lc54, hQ54, l54, y54, z54⟩, st54⟩ := X47.virtualBack hx (y := (⟨"clearcut/Text", "substring", "(II)Ljava/lang/String;"⟩ : MethodName)) (z := (⟨"clearcut/Text", "substring", "(II)Ljava/lang/String;"⟩ : MethodName)) hown (mvT hZ (oH hw 42 rfl)) (mvT hZ (oH hw 43 rfl)) (notFace_of_selects (args := #[]) (mvT hZ (oH hw 45 rfl))) (mvT hZ (oH hw 45 rfl)) (mvT hZ (oH hw 44 rfl)) (by decide) (backOf (W := 0) (rmz53 l Z a0 hw [] b42 b39 k39 b0 b1 (0 : Int32) (0 : Int32) u8 zc fv T43.heap n0 Z43 c43_Eb42 g_b42 c43_Vb39 g_b39 c43_Eb39 wo43_0_bytes (Ne.symm ne_b39_b42) c43_USS hp49 hp50 hp51 hp52 hp53) hZ (oH hw 46 rfl) (oH hw 5 rfl) (by decide) (by decide)) q54a q54c (g := (mkF m 102 #[vI i0, vI cp, vI 2, vR b39, vI 2, vR b42, oU, oU, oU] [(.int 2), (.int 0), (.ref b42)])) rfl (by rw [hml]; rfl) (Steps.refl _) (argsL := [(.int 0), (.int 2)]) (rest := []) (lenOf pd_313 rfl) rfl (by show 2 * 0 + _ ≤ _; exact Nat.le_of_eq rfl) (hb hby at_102) (fun _ _ => ⟨rfl, eh47, (by decide : 2 + 4 ≤ _), (by decide : 6 + 12 ≤ _)⟩)
          dsimp only [Pt.U, Pt.locs, Pt.cells, Pt.slots] at X54 l54 y54 z54 st54 hQ54
          subst l54 y54 z54
          obtain ⟨na54_0, ka54_0, no54_0, rfl, Nq54, Kc54, sa54_0, va54_0, so54_0, eo54_0, fo54_0_value, fo54_0_coder⟩ := hQ54
          have Kt54 := Kt43.trans Kc54 (fun x hx => nomatch hx)
          have N54 := Fr.app N47 Nq54
          have Z54 : n0 ≤ T54.heap.size := Nat.le_trans Z43 Kc54.1
          have c54_USS := c43_USS.keep Kc54 own_ns0
          have c54_Eb39 := c43_Eb39.keep Kc54
          have c54_Vb39 := c43_Vb39.keep Kc54 nin0
          have c54_Eb42 := c43_Eb42.keep Kc54
          have c54_Fb42_bytes := wo43_0_bytes.keep Kc54 nin0
          have c54_Fb42_length := wo43_0_length.keep Kc54 nin0
          refine oG m T54 105 #[vI i0,vI cp,vI 2,vR b39,vI 2,vR b42,oU,oU,oU] [(.ref no54_0)] (fun _ k => st54.trans k) ?_
          have g_na54_0 : n0 ≤ na54_0 := Nat.le_trans Z43 sa54_0
          have sz_na54_0 : h0.size ≤ na54_0 := Nat.le_trans Kt43.1 sa54_0
          have ne_b39_na54_0 : b39 ≠ na54_0 := Nat.ne_of_lt (Nat.lt_of_lt_of_le c43_Vb39.lt sa54_0)
          have ne_b42_na54_0 : b42 ≠ na54_0 := Nat.ne_of_lt (Nat.lt_of_lt_of_le c43_Eb42.lt sa54_0)
          have g_no54_0 : n0 ≤ no54_0 := Nat.le_trans Z43 so54_0
          have sz_no54_0 : h0.size ≤ no54_0 := Nat.le_trans Kt43.1 so54_0
          have ne_b39_no54_0 : b39 ≠ no54_0 := Nat.ne_of_lt (Nat.lt_of_lt_of_le c43_Vb39.lt so54_0)
          have ne_b42_no54_0 : b42 ≠ no54_0 := Nat.ne_of_lt (Nat.lt_of_lt_of_le c43_Eb42.lt so54_0)
          refine oG m T54 108 #[vI i0,vI cp,vI 2,vR b39,vI 2,vR b42,vR no54_0,oU,oU] [(.int cp)] (fun _ k => XS.astore X54.here hx rfl (hb hby at_105) rfl rfl (l' := #[vI i0,vI cp,vI 2,vR b39,vI 2,vR b42,vR no54_0,oU,oU]) rfl (XS.iloadN X54.here hx rfl (hb hby at_107) rfl k)) ?_
          refine oG m T54 110 #[vI i0,vI cp,vI 2,vR b39,vI 2,vR b42,vR no54_0,oU,oU] [(.int 65536),(.int cp)] (fun _ k => (X54.ldcInt hx hown (mvT hZ (oH hw 108 rfl)) (g := (mkF m 108 #[vI i0,vI cp,vI 2,vR b39,vI 2,vR b42,vR no54_0,oU,oU] [(.int cp)])) rfl (hb hby at_108)) _ k) ?_
          have hp55 : cp < (65536 : Int32) := (by rw [Int32.lt_iff_toInt_lt]; have kk : (65536 : Int32).toInt = 65536 := (by decide); omega)
          refine oG m T54 115 #[vI i0,vI cp,vI 2,vR b39,vI 2,vR b42,vR no54_0,oU,oU] [(.ref no54_0)] (fun _ k => XS.icmpNo X54.here hx rfl (hb hby at_110) rfl (tlt hp55).2.1 (XS.aload X54.here hx rfl (hb hby at_113) rfl rfl k)) ?_
          have nx56 : no54_0 ≠ na54_0 := eo54_0.neArv va54_0 (oH hw 53 rfl)
          obtain ⟨cq57, kq57, q57a, q57b, q57c⟩ := isOf hZ rfl eo54_0
          obtain ⟨v57, _, ⟨T57, L57, k57, n57⟩, -, X57, ⟨Lc57, hQ57, l57, y57, z57⟩, st57⟩ := X54.virtualBack hx (y := (⟨"java/lang/String", "length", "()I"⟩ : MethodName)) (z := (⟨"java/lang/String", "length", "()I"⟩ : MethodName)) hown (mvT hZ (oH hw 109 rfl)) (mvT hZ (oH hw 110 rfl)) (notFace_of_selects (args := #[]) (mvT hZ (oH hw 112 rfl))) (mvT hZ (oH hw 112 rfl)) (mvT hZ (oH hw 111 rfl)) (by decide) (backOf (W := 0) (rmz55 l Z a0 hw [] no54_0 na54_0 ka54_0 (own_hi (own_d2 b0 b1)) (own_lo (own_d2 b0 b1)) u8 zc fv T54.heap n0 Z54 eo54_0 g_no54_0 va54_0 g_na54_0 fo54_0_value fo54_0_coder nx56 c54_USS) hZ (oH hw 113 rfl) (oH hw 54 rfl) (by decide) (by decide)) q57a q57c (g := (mkF m 115 #[vI i0, vI cp, vI 2, vR b39, vI 2, vR b42, vR no54_0, oU, oU] [(.ref no54_0)])) rfl (by rw [hml]; rfl) (Steps.refl _) (argsL := []) (rest := []) (lenOf pd_329 rfl) rfl (by show 2 * 0 + _ ≤ _; exact Nat.le_of_eq rfl) (hb hby at_115) (fun _ _ => ⟨rfl, rfl, (by decide : 6 + 0 ≤ _), (by decide : 18 + 0 ≤ _)⟩)
          dsimp only [Pt.U, Pt.locs, Pt.cells, Pt.slots] at X57 l57 y57 z57 st57 hQ57
          subst l57 y57 z57
          obtain ⟨rfl, eh57, rfl⟩ := hQ57
          have N57 := Fr.app N54 (Fr.nil n0)
          refine oG m T57 125 #[vI i0,vI cp,vI 2,vR b39,vI 2,vR b42,vR no54_0,oU,oU] [(.int 0),(.ref no54_0)] (fun _ k => st57.trans (XS.iconst X57.here hx rfl (hb hby at_118) (XS.icmpNo X57.here hx rfl (hb hby at_119) rfl (teq (by decide)).2 (XS.aload X57.here hx rfl (hb hby at_122) rfl rfl (XS.iconst X57.here hx rfl (hb hby at_124) k))))) ?_
          obtain ⟨cq58, kq58, q58a, q58b, q58c⟩ := isOf hZ eh57 eo54_0
          obtain ⟨v58, _, ⟨T58, L58, k58, n58⟩, -, X58, ⟨Lc58, hQ58, l58, y58, z58⟩, st58⟩ := X57.virtualBack hx (y := (⟨"java/lang/String", "charAt", "(I)C"⟩ : MethodName)) (z := (⟨"java/lang/String", "charAt", "(I)C"⟩ : MethodName)) hown (mvT hZ (oH hw 119 rfl)) (mvT hZ (oH hw 120 rfl)) (notFace_of_selects (args := #[]) (mvT hZ (oH hw 122 rfl))) (mvT hZ (oH hw 122 rfl)) (mvT hZ (oH hw 121 rfl)) (by decide) (backOf (W := 0) (rmz61 l Z a0 hw [] no54_0 na54_0 ka54_0 (own_hi (own_d2 b0 b1)) (own_lo (own_d2 b0 b1)) u8 zc fv T54.heap n0 Z54 eo54_0 g_no54_0 va54_0 g_na54_0 fo54_0_value fo54_0_coder nx56 c54_USS) hZ (oH hw 123 rfl) (oH hw 54 rfl) (by decide) (by decide)) q58a q58c (g := (mkF m 125 #[vI i0, vI cp, vI 2, vR b39, vI 2, vR b42, vR no54_0, oU, oU] [(.int 0), (.ref no54_0)])) rfl (by rw [hml]; rfl) (Steps.refl _) (argsL := [(.int 0)]) (rest := []) (lenOf pd_374 rfl) rfl (by show 2 * 0 + _ ≤ _; exact Nat.le_of_eq rfl) (hb hby at_125) (fun _ _ => ⟨rfl, eh57, (by decide : 6 + 0 ≤ _), (by decide : 18 + 0 ≤ _)⟩)
          dsimp only [Pt.U, Pt.locs, Pt.cells, Pt.slots] at X58 l58 y58 z58 st58 hQ58
          subst l58 y58 z58
          obtain ⟨rfl, eh58, rfl⟩ := hQ58
          have N58 := Fr.app N57 (Fr.nil n0)
          refine oG m T58 130 #[vI i0,vI cp,vI 2,vR b39,vI 2,vR b42,vR no54_0,oU,oU] [(.int (cp.toUInt32.toUInt16.toUInt32.toInt32)),(.int (nar .char (nar .char (nar .char (((((own_hi (own_d2 b0 b1)) &&& (255 : Int32)) <<< ((0 : Int32) &&& 31)) ||| (((own_lo (own_d2 b0 b1)) &&& (255 : Int32)) <<< ((8 : Int32) &&& 31))).toUInt32.toUInt16.toUInt32.toInt32)))))] (fun _ k => st58.trans (XS.iloadN X58.here hx rfl (hb hby at_128) rfl (XS.i2c X58.here hx rfl (hb hby at_129) rfl k))) ?_
          have hp59 : (nar .char (nar .char (nar .char (((((own_hi (own_d2 b0 b1)) &&& (255 : Int32)) <<< ((0 : Int32) &&& 31)) ||| (((own_lo (own_d2 b0 b1)) &&& (255 : Int32)) <<< ((8 : Int32) &&& 31))).toUInt32.toUInt16.toUInt32.toInt32)))) = (cp.toUInt32.toUInt16.toUInt32.toInt32) := (by rw [own_d2v b0 b1 cp (by omega) hhi tb0 tb1, own_gp cp (by omega) (by omega)]; simp only [own_i2c cp (by omega) (by omega), own_nch cp (by omega) (by omega)])
          refine oG m T58 138 #[vI i0,vI cp,vI 2,vR b39,vI 2,vR b42,vR no54_0,oU,oU] [(.int 1)] (fun _ k => XS.icmpNo X58.here hx rfl (hb hby at_130) rfl (teq hp59).2 (XS.iconst X58.here hx rfl (hb hby at_133) (XS.goto X58.here hx rfl (pc0 := 134) (pc' := 138) rfl (hb hby at_134) (by decide) (by decide) k))) ?_
          refine own_retN (t := .boolean) X58 hx hlk (by simp) Bd.returns (hb hby at_138) (by decide) (by decide) ?_
          exact ⟨rfl, N58⟩
      · by_cases c3 : cp < (65536 : Int32)
        · have hlo : 2048 ≤ cp.toInt := own_nltr c2 (by decide)
          have hhi : cp.toInt < 65536 := own_ltr c3 (by decide)
          refine oG m s₁ 27 #[vI i0,vI cp,oU,oU,oU,oU,oU,oU,oU] [(.int cp)] (fun _ k => XS.iloadN X0.here hx rfl (hb hby at_26) rfl k) ?_
          obtain ⟨T60, X60, e60, st60⟩ := own_cP X0 hx hZ hown (oH hw 3 rfl) (oH hw 4 rfl) (oH hw 5 rfl) (oH hw 6 rfl) (by decide) (rmz62 l Z a0 hw [] cp u8 zc fv h0 n0 Z0  SS c1 c2 c3) (W := 0) (by decide) (by decide) (g := (mkF m 27 #[vI i0, vI cp, oU, oU, oU, oU, oU, oU, oU] [(.int cp)])) rfl (by rw [hml]; rfl) (argsL := [(.int cp)]) (rest := []) (lenOf pd_79 rfl) rfl rfl rfl (hb hby at_27) e0 rfl (by decide) (by decide) (by decide : 0 ≤ _) (by decide : 0 ≤ _)
          refine oG m T60 44 #[vI i0,vI cp,vI 3,oU,oU,oU,oU,oU,oU] [(.int 4)] (fun _ k => st60 _ (XS.istoreN X60.here hx rfl (hb hby at_30) rfl (l' := #[vI i0,vI cp,vI 3,oU,oU,oU,oU,oU,oU]) rfl (XS.iloadN X60.here hx rfl (hb hby at_31) rfl (XS.iconst X60.here hx rfl (hb hby at_32) (XS.icmpNo X60.here hx rfl (hb hby at_33) rfl (flt (by decide)).1 (XS.iloadN X60.here hx rfl (hb hby at_36) rfl (XS.iconst X60.here hx rfl (hb hby at_37) (XS.icmpYes X60.here hx rfl (pc0 := 38) (pc' := 43) rfl (hb hby at_38) rfl (flt (by decide)).2.2.2 (by decide) (by decide) (XS.iconst X60.here hx rfl (hb hby at_43) k))))))))) ?_
          obtain ⟨T61, h61, k61, X61, e61, E61, A61, Ec61, st61⟩ := newPE X60 hx hZ (oH hw 7 rfl) e60 (g := (mkF m 44 #[vI i0, vI cp, vI 3, oU, oU, oU, oU, oU, oU] [(.int 4)])) rfl (hb hby at_44) rfl (by decide) (cap := 4) (by decide) (by decide) (by decide) (by decide) (ad := "[B") (by decide)
          obtain ⟨b61, gz61⟩ : ∃ z, z = h0.size := ⟨_, rfl⟩
          rw [← gz61] at A61 Ec61 st61
          have sz_b61 : h0.size ≤ b61 := Nat.le_trans K0.1 (Nat.le_of_eq gz61.symm)
          have c61_USS := SS.ext E61
          have K61 := K0.ext E61
          have g_b61 : n0 ≤ b61 := Nat.le_trans Z0 (Nat.le_of_eq gz61.symm)
          have V61 := Arv.new A61 (by decide)
          have Z61 : n0 ≤ h61.size := Nat.le_trans Z0 E61.1
          refine oG m T61 46 #[vI i0,vI cp,vI 3,oU,oU,oU,oU,oU,oU] [(.ref b61)] (fun _ k => st61 _ k) ?_
          have V62 : Arv Z h61 b61 k61 .byte (4 : Int32) [(.int 0), (.int 0), (.int 0), (.int 0)] (.int 0) := V61.pad (pad_rep [] (.int 0) 4)
          refine oG m T61 50 #[vI i0,vI cp,vI 3,vR b61,oU,oU,oU,oU,oU] [(.int 0),(.ref b61),(.int cp)] (fun _ k => XS.astoreN X61.here hx rfl (hb hby at_46) rfl rfl (l' := #[vI i0,vI cp,vI 3,vR b61,oU,oU,oU,oU,oU]) rfl (XS.iloadN X61.here hx rfl (hb hby at_47) rfl (XS.aloadN X61.here hx rfl (hb hby at_48) rfl rfl (XS.iconst X61.here hx rfl (hb hby at_49) k)))) ?_
          obtain ⟨v63, T63, Lc63, X63, hQ63, st63⟩ := own_cS X61 hx hZ hown (oH hw 8 rfl) (oH hw 9 rfl) (oH hw 5 rfl) (oH hw 10 rfl) (by decide) (rmz63 l Z a0 hw [] cp b61 k61 (0 : Int32) (0 : Int32) (0 : Int32) (0 : Int32) u8 zc fv h61 n0 Z61 V62 g_b61 Ec61 c61_USS c1 c2 c3) (W := 0) (by decide) (by decide) (g := (mkF m 50 #[vI i0, vI cp, vI 3, vR b61, oU, oU, oU, oU, oU] [(.int 0), (.ref b61), (.int cp)])) rfl (by rw [hml]; rfl) (argsL := [(.int cp), (.ref b61), (.int 0)]) (rest := []) (lenOf pd_104 rfl) rfl rfl rfl (hb hby at_50) e61 rfl (by decide : 1 + 0 ≤ _) (by decide : 4 + 0 ≤ _)
          obtain ⟨rfl, Nq63, Kc63, wa63_0⟩ := hQ63
          have Kt63 := K61.trans Kc63 (fun x hx => by simp only [List.mem_cons, List.mem_singleton, List.not_mem_nil, or_false] at hx; rcases hx with rfl <;> first | (left; simp; done) | (right; assumption))
          have N63 := Fr.app N0 Nq63
          have Z63 : n0 ≤ T63.heap.size := Nat.le_trans Z61 Kc63.1
          have c63_USS := c61_USS.keep Kc63 (own_nsS (own_nsA V62) own_ns0)
          have c63_Eb61 := Ec61.keep Kc63
          refine oG m T63 53 #[vI i0,vI cp,vI 3,vR b61,oU,oU,oU,oU,oU] [(.int 3)] (fun _ k => st63 _ k) ?_
          obtain ⟨b0, hb0⟩ : ∃ z : Int32, z = (nar .byte (((8160 : Int32) ||| ((cp >>> ((6 : Int32) &&& 31)) >>> ((6 : Int32) &&& 31))).toInt8.toInt32)) := ⟨_, rfl⟩
          rw [← hb0] at wa63_0
          have d1 := own_sh cp
          have d2 := own_sh (cp >>> ((6 : Int32) &&& 31))
          have d3 := own_sh ((cp >>> ((6 : Int32) &&& 31)) >>> ((6 : Int32) &&& 31))
          have tb0 : b0.toInt = cp.toInt / 4096 - 32 := by rw [hb0]; exact own_lead _ _ 5 (by decide) 32 (by decide) 8160 (by decide) (by decide) (by omega) (by omega) (by decide) (by decide) _ (by omega) (by omega) (by omega)
          obtain ⟨b1, hb1⟩ : ∃ z : Int32, z = (nar .byte (((128 : Int32) ||| ((cp >>> ((6 : Int32) &&& 31)) &&& (63 : Int32))).toInt8.toInt32)) := ⟨_, rfl⟩
          rw [← hb1] at wa63_0
          have tb1 : b1.toInt = (cp.toInt / 64) % 64 - 128 := by rw [hb1]; refine (own_cont _).trans ?_; omega
          obtain ⟨b2, hb2⟩ : ∃ z : Int32, z = (nar .byte (((128 : Int32) ||| (cp &&& (63 : Int32))).toInt8.toInt32)) := ⟨_, rfl⟩
          rw [← hb2] at wa63_0
          have tb2 : b2.toInt = cp.toInt % 64 - 128 := by rw [hb2]; refine (own_cont _).trans ?_; omega
          refine oG m T63 63 #[vI i0,vI cp,vI 3,vR b61,vI 3,oU,oU,oU,oU] [] (fun _ k => XS.istore X63.here hx rfl (hb hby at_53) rfl (l' := #[vI i0,vI cp,vI 3,vR b61,vI 3,oU,oU,oU,oU]) rfl (XS.iload X63.here hx rfl (hb hby at_55) rfl (XS.iloadN X63.here hx rfl (hb hby at_57) rfl (XS.icmpYes X63.here hx rfl (pc0 := 58) (pc' := 63) rfl (hb hby at_58) rfl (teq (by decide)).1 (by decide) (by decide) k)))) ?_
          obtain ⟨T64, h64, X64, e64, E64, A64, D64, -, st64⟩ := newO X63 hx hZ hown (oH hw 12 rfl) (oH hw 13 rfl) (oH hw 5 rfl) rfl (g := (mkF m 63 #[vI i0, vI cp, vI 3, vR b61, vI 3, oU, oU, oU, oU] [])) rfl (hb hby at_63) (by decide) (by decide)
          obtain ⟨b64, gz64⟩ : ∃ z, z = T63.heap.size := ⟨_, rfl⟩
          rw [← gz64] at A64 D64 st64
          have sz_b64 : h0.size ≤ b64 := Nat.le_trans Kt63.1 (Nat.le_of_eq gz64.symm)
          have ne_b61_b64 : b61 ≠ b64 := Nat.ne_of_lt (by rw [gz64]; exact c63_Eb61.lt)
          have c64_USS := c63_USS.ext E64
          have c64_Eb61 := c63_Eb61.ext E64
          have c64_Vb61 := wa63_0.ext E64
          have K64 := Kt63.ext E64
          have g_b64 : n0 ≤ b64 := Nat.le_trans Z63 (Nat.le_of_eq gz64.symm)
          have F64_bytes : Fld Z h64 b64 "clearcut/Text" "bytes" "[B" .null := D64 (Or.inr (oH hw 21 rfl)) (ty := (.array .byte)) (by decide)
          have F64_length : Fld Z h64 b64 "clearcut/Text" "length" "I" (.int 0) := D64 (Or.inr (oH hw 23 rfl)) (ty := .int) (by decide)
          have Z64 : n0 ≤ h64.size := Nat.le_trans Z63 E64.1
          refine oG m T64 69 #[vI i0,vI cp,vI 3,vR b61,vI 3,oU,oU,oU,oU] [(.int 3),(.ref b61),(.ref b64),(.ref b64)] (fun _ k => st64 _ (XS.dup X64.here hx rfl (hb hby at_66) rfl rfl (XS.aloadN X64.here hx rfl (hb hby at_67) rfl rfl (XS.iloadN X64.here hx rfl (hb hby at_68) rfl k)))) ?_
          obtain ⟨v65, _, ⟨T65, L65, k65, n65⟩, -, X65, ⟨Lc65, hQ65, l65, y65, z65⟩, st65⟩ := X64.specialBack hx (y := (⟨"clearcut/Text", "<init>", "([BI)V"⟩ : MethodName)) rfl hown (mvT hZ (oH hw 14 rfl)) (mvT hZ (oH hw 15 rfl)) (mvT hZ (oH hw 16 rfl)) (by decide) (backOf (W := 1) (rmz3 l Z a0 hw [] b64 b61 k61 b0 b1 b2 (0 : Int32) (3 : Int32) u8 zc fv h64 n0 Z64 A64 g_b64 F64_bytes F64_length c64_Vb61 g_b61 c64_Eb61 (Ne.symm ne_b61_b64) c64_USS) hZ (oH hw 16 rfl) (oH hw 5 rfl) (by decide) (by decide)) (g := (mkF m 69 #[vI i0, vI cp, vI 3, vR b61, vI 3, oU, oU, oU, oU] [(.int 3), (.ref b61), (.ref b64), (.ref b64)])) rfl (by rw [hml]; rfl) (Steps.refl _) (a := b64) (argsL := [(.ref b61), (.int 3)]) (rest := [(.ref b64)]) (lenOf pd_114 rfl) rfl (by show 2 * 0 + _ ≤ _; exact Nat.le_of_eq rfl) (hb hby at_69) (fun _ _ => ⟨rfl, e64, (by decide : 2 + 0 ≤ _), (by decide : 6 + 0 ≤ _)⟩)
          dsimp only [Pt.U, Pt.locs, Pt.cells, Pt.slots] at X65 l65 y65 z65 st65 hQ65
          subst l65 y65 z65
          obtain ⟨rfl, Nq65, Kc65, wo65_0_bytes, wo65_0_length⟩ := hQ65
          have Kt65 := K64.trans Kc65 (fun x hx => by simp only [List.mem_cons, List.mem_singleton, List.not_mem_nil, or_false] at hx; rcases hx with rfl <;> first | (left; simp; done) | (right; assumption))
          have N65 := Fr.app N63 Nq65
          have Z65 : n0 ≤ T65.heap.size := Nat.le_trans Z64 Kc65.1
          have c65_USS := c64_USS.keep Kc65 (own_nsS (own_nsE A64) own_ns0)
          have c65_Eb61 := c64_Eb61.keep Kc65
          have c65_Vb61 := c64_Vb61.keep Kc65 (ninS ne_b61_b64 nin0)
          have c65_Eb64 := A64.keep Kc65
          refine oG m T65 77 #[vI i0,vI cp,vI 3,vR b61,vI 3,vR b64,oU,oU,oU] [(.int 0),(.ref b64)] (fun _ k => st65.trans (XS.astore X65.here hx rfl (hb hby at_72) rfl rfl (l' := #[vI i0,vI cp,vI 3,vR b61,vI 3,vR b64,oU,oU,oU]) rfl (XS.aload X65.here hx rfl (hb hby at_74) rfl rfl (XS.iconst X65.here hx rfl (hb hby at_76) k)))) ?_
          have hp66 : ¬ (b0 &&& (255 : Int32)) < (128 : Int32) := (fun zz => by have aa := own_m255 b0; have kk := own_ltr zz (by decide : (128 : Int32).toInt = 128); omega)
          have hp67 : ¬ (b0 &&& (255 : Int32)) < (224 : Int32) := (fun zz => by have aa := own_m255 b0; have kk := own_ltr zz (by decide : (224 : Int32).toInt = 224); omega)
          have hp68 : (b0 &&& (255 : Int32)) < (240 : Int32) := (by have aa := own_m255 b0; rw [Int32.lt_iff_toInt_lt]; have kk : (240 : Int32).toInt = 240 := (by decide); omega)
          obtain ⟨cq69, kq69, q69a, q69b, q69c⟩ := isOf hZ rfl c65_Eb64
          obtain ⟨v69, _, ⟨T69, L69, k69, n69⟩, -, X69, ⟨Lc69, hQ69, l69, y69, z69⟩, st69⟩ := X65.virtualBack hx (y := (⟨"clearcut/Text", "next", "(I)I"⟩ : MethodName)) (z := (⟨"clearcut/Text", "next", "(I)I"⟩ : MethodName)) hown (mvT hZ (oH hw 24 rfl)) (mvT hZ (oH hw 25 rfl)) (notFace_of_selects (args := #[]) (mvT hZ (oH hw 27 rfl))) (mvT hZ (oH hw 27 rfl)) (mvT hZ (oH hw 26 rfl)) (by decide) (backOf (W := 0) (rmz65 l Z a0 hw [] b64 b61 k61 b0 b1 b2 (0 : Int32) u8 zc fv T65.heap n0 Z65 c65_Eb64 g_b64 c65_Vb61 g_b61 c65_Eb61 wo65_0_bytes (Ne.symm ne_b61_b64) c65_USS hp66 hp67 hp68) hZ (oH hw 28 rfl) (oH hw 5 rfl) (by decide) (by decide)) q69a q69c (g := (mkF m 77 #[vI i0, vI cp, vI 3, vR b61, vI 3, vR b64, oU, oU, oU] [(.int 0), (.ref b64)])) rfl (by rw [hml]; rfl) (Steps.refl _) (argsL := [(.int 0)]) (rest := []) (lenOf pd_79 rfl) rfl (by show 2 * 0 + _ ≤ _; exact Nat.le_of_eq rfl) (hb hby at_77) (fun _ _ => ⟨rfl, rfl, (by decide : 2 + 0 ≤ _), (by decide : 6 + 0 ≤ _)⟩)
          dsimp only [Pt.U, Pt.locs, Pt.cells, Pt.slots] at X69 l69 y69 z69 st69 hQ69
          subst l69 y69 z69
          obtain ⟨rfl, eh69, rfl⟩ := hQ69
          have N69 := Fr.app N65 (Fr.nil n0)
          refine oG m T69 89 #[vI i0,vI cp,vI 3,vR b61,vI 3,vR b64,oU,oU,oU] [(.int 0),(.ref b64)] (fun _ k => st69.trans (XS.iloadN X69.here hx rfl (hb hby at_80) rfl (XS.icmpYes X69.here hx rfl (pc0 := 81) (pc' := 86) rfl (hb hby at_81) rfl (teq (by decide)).1 (by decide) (by decide) (XS.aload X69.here hx rfl (hb hby at_86) rfl rfl (XS.iconst X69.here hx rfl (hb hby at_88) k))))) ?_
          obtain ⟨cq70, kq70, q70a, q70b, q70c⟩ := isOf hZ eh69 c65_Eb64
          obtain ⟨v70, _, ⟨T70, L70, k70, n70⟩, -, X70, ⟨Lc70, hQ70, l70, y70, z70⟩, st70⟩ := X69.virtualBack hx (y := (⟨"clearcut/Text", "codePointAt", "(I)I"⟩ : MethodName)) (z := (⟨"clearcut/Text", "codePointAt", "(I)I"⟩ : MethodName)) hown (mvT hZ (oH hw 37 rfl)) (mvT hZ (oH hw 38 rfl)) (notFace_of_selects (args := #[]) (mvT hZ (oH hw 40 rfl))) (mvT hZ (oH hw 40 rfl)) (mvT hZ (oH hw 39 rfl)) (by decide) (backOf (W := 0) (rmz66 l Z a0 hw [] b64 b61 k61 b0 b1 b2 (0 : Int32) u8 zc fv T65.heap n0 Z65 c65_Eb64 g_b64 c65_Vb61 g_b61 c65_Eb61 wo65_0_bytes (Ne.symm ne_b61_b64) c65_USS hp66 hp67 hp68) hZ (oH hw 41 rfl) (oH hw 5 rfl) (by decide) (by decide)) q70a q70c (g := (mkF m 89 #[vI i0, vI cp, vI 3, vR b61, vI 3, vR b64, oU, oU, oU] [(.int 0), (.ref b64)])) rfl (by rw [hml]; rfl) (Steps.refl _) (argsL := [(.int 0)]) (rest := []) (lenOf pd_79 rfl) rfl (by show 2 * 0 + _ ≤ _; exact Nat.le_of_eq rfl) (hb hby at_89) (fun _ _ => ⟨rfl, eh69, (by decide : 2 + 0 ≤ _), (by decide : 6 + 0 ≤ _)⟩)
          dsimp only [Pt.U, Pt.locs, Pt.cells, Pt.slots] at X70 l70 y70 z70 st70 hQ70
          subst l70 y70 z70
          obtain ⟨rfl, eh70, rfl⟩ := hQ70
          have N70 := Fr.app N69 (Fr.nil n0)
          refine oG m T70 93 #[vI i0,vI cp,vI 3,vR b61,vI 3,vR b64,oU,oU,oU] [(.int cp),(.int ((((((b0 &&& (255 : Int32)) &&& (15 : Int32)) <<< ((6 : Int32) &&& 31)) ||| (b1 &&& (63 : Int32))) <<< ((6 : Int32) &&& 31)) ||| (b2 &&& (63 : Int32))))] (fun _ k => st70.trans (XS.iloadN X70.here hx rfl (hb hby at_92) rfl k)) ?_
          have hp71 : ((((((b0 &&& (255 : Int32)) &&& (15 : Int32)) <<< ((6 : Int32) &&& 31)) ||| (b1 &&& (63 : Int32))) <<< ((6 : Int32) &&& 31)) ||| (b2 &&& (63 : Int32))) = cp := (by have a0 := own_m255 b0; have a1 : ((b0 &&& (255 : Int32)) &&& (15 : Int32)).toInt = (b0 &&& (255 : Int32)).toInt % 16 := (by have z := c_mask (b0 &&& (255 : Int32)) 15 4 (by decide) (by decide); simpa using z); have a2 := own_acc ((b0 &&& (255 : Int32)) &&& (15 : Int32)) b1 (by omega) (by omega); have a3 := own_acc ((((b0 &&& (255 : Int32)) &&& (15 : Int32)) <<< ((6 : Int32) &&& 31)) ||| (b1 &&& (63 : Int32))) b2 (by omega) (by omega); rw [← Int32.toInt_inj]; omega)
          refine oG m T70 102 #[vI i0,vI cp,vI 3,vR b61,vI 3,vR b64,oU,oU,oU] [(.int 3),(.int 0),(.ref b64)] (fun _ k => XS.icmpYes X70.here hx rfl (pc0 := 93) (pc' := 98) rfl (hb hby at_93) rfl (teq hp71).1 (by decide) (by decide) (XS.aload X70.here hx rfl (hb hby at_98) rfl rfl (XS.iconst X70.here hx rfl (hb hby at_100) (XS.iloadN X70.here hx rfl (hb hby at_101) rfl k)))) ?_
          have hp72 : b0 < (0 : Int32) := (by rw [Int32.lt_iff_toInt_lt]; have kk : (0 : Int32).toInt = 0 := (by decide); omega)
          have hp73 : ¬ (b0 &&& (254 : Int32)) = (194 : Int32) := (own_fin (P := fun x => ¬ (x &&& (254 : Int32)) = (194 : Int32)) (-32) 16 (by decide) b0 (by omega) (by omega))
          have hp74 : ¬ (b0 >>> ((5 : Int32) &&& 31)) = (-2 : Int32) := (fun zz => by have aa : (b0 >>> ((5 : Int32) &&& 31)).toInt = b0.toInt / 32 := (by have zz := c_ishr b0 5 5 (by decide); simpa using zz); have kk : (b0 >>> ((5 : Int32) &&& 31)).toInt = -2 := (by rw [zz]; decide); omega)
          have hp75 : (b0 >>> ((4 : Int32) &&& 31)) = (-2 : Int32) := (by have aa : (b0 >>> ((4 : Int32) &&& 31)).toInt = b0.toInt / 16 := (by have zz := c_ishr b0 4 4 (by decide); simpa using zz); have kk : (-2 : Int32).toInt = -2 := (by decide); rw [← Int32.toInt_inj]; omega)
          have hp76 : (own_im3_0 b0 b1 b2) = (0 : Int32) := (own_im3v b0 b1 b2 (fun zz => by omega) (by omega) (by omega) (by omega) (by omega))
          have hp77 : (own_sur_0 (own_d3 b0 b1 b2)) = (0 : Int32) := (by rw [own_d3v b0 b1 b2 cp hlo hhi tb0 tb1 tb2]; exact own_surv cp hcs)
          obtain ⟨cq78, kq78, q78a, q78b, q78c⟩ := isOf hZ eh70 c65_Eb64
          obtain ⟨v78, _, ⟨T78, L78, k78, n78⟩, -, X78, ⟨Lc78, hQ78, l78, y78, z78⟩, st78⟩ := X70.virtualBack hx (y := (⟨"clearcut/Text", "substring", "(II)Ljava/lang/String;"⟩ : MethodName)) (z := (⟨"clearcut/Text", "substring", "(II)Ljava/lang/String;"⟩ : MethodName)) hown (mvT hZ (oH hw 42 rfl)) (mvT hZ (oH hw 43 rfl)) (notFace_of_selects (args := #[]) (mvT hZ (oH hw 45 rfl))) (mvT hZ (oH hw 45 rfl)) (mvT hZ (oH hw 44 rfl)) (by decide) (backOf (W := 0) (rmz82 l Z a0 hw [] b64 b61 k61 b0 b1 b2 (0 : Int32) u8 zc fv T65.heap n0 Z65 c65_Eb64 g_b64 c65_Vb61 g_b61 c65_Eb61 wo65_0_bytes (Ne.symm ne_b61_b64) c65_USS hp72 hp73 hp74 hp75 hp76 hp77) hZ (oH hw 46 rfl) (oH hw 5 rfl) (by decide) (by decide)) q78a q78c (g := (mkF m 102 #[vI i0, vI cp, vI 3, vR b61, vI 3, vR b64, oU, oU, oU] [(.int 3), (.int 0), (.ref b64)])) rfl (by rw [hml]; rfl) (Steps.refl _) (argsL := [(.int 0), (.int 3)]) (rest := []) (lenOf pd_313 rfl) rfl (by show 2 * 0 + _ ≤ _; exact Nat.le_of_eq rfl) (hb hby at_102) (fun _ _ => ⟨rfl, eh70, (by decide : 2 + 4 ≤ _), (by decide : 6 + 15 ≤ _)⟩)
          dsimp only [Pt.U, Pt.locs, Pt.cells, Pt.slots] at X78 l78 y78 z78 st78 hQ78
          subst l78 y78 z78
          obtain ⟨na78_0, ka78_0, no78_0, rfl, Nq78, Kc78, sa78_0, va78_0, so78_0, eo78_0, fo78_0_value, fo78_0_coder⟩ := hQ78
          have Kt78 := Kt65.trans Kc78 (fun x hx => nomatch hx)
          have N78 := Fr.app N70 Nq78
          have Z78 : n0 ≤ T78.heap.size := Nat.le_trans Z65 Kc78.1
          have c78_USS := c65_USS.keep Kc78 own_ns0
          have c78_Eb61 := c65_Eb61.keep Kc78
          have c78_Vb61 := c65_Vb61.keep Kc78 nin0
          have c78_Eb64 := c65_Eb64.keep Kc78
          have c78_Fb64_bytes := wo65_0_bytes.keep Kc78 nin0
          have c78_Fb64_length := wo65_0_length.keep Kc78 nin0
          refine oG m T78 105 #[vI i0,vI cp,vI 3,vR b61,vI 3,vR b64,oU,oU,oU] [(.ref no78_0)] (fun _ k => st78.trans k) ?_
          have g_na78_0 : n0 ≤ na78_0 := Nat.le_trans Z65 sa78_0
          have sz_na78_0 : h0.size ≤ na78_0 := Nat.le_trans Kt65.1 sa78_0
          have ne_b61_na78_0 : b61 ≠ na78_0 := Nat.ne_of_lt (Nat.lt_of_lt_of_le c65_Vb61.lt sa78_0)
          have ne_b64_na78_0 : b64 ≠ na78_0 := Nat.ne_of_lt (Nat.lt_of_lt_of_le c65_Eb64.lt sa78_0)
          have g_no78_0 : n0 ≤ no78_0 := Nat.le_trans Z65 so78_0
          have sz_no78_0 : h0.size ≤ no78_0 := Nat.le_trans Kt65.1 so78_0
          have ne_b61_no78_0 : b61 ≠ no78_0 := Nat.ne_of_lt (Nat.lt_of_lt_of_le c65_Vb61.lt so78_0)
          have ne_b64_no78_0 : b64 ≠ no78_0 := Nat.ne_of_lt (Nat.lt_of_lt_of_le c65_Eb64.lt so78_0)
          refine oG m T78 108 #[vI i0,vI cp,vI 3,vR b61,vI 3,vR b64,vR no78_0,oU,oU] [(.int cp)] (fun _ k => XS.astore X78.here hx rfl (hb hby at_105) rfl rfl (l' := #[vI i0,vI cp,vI 3,vR b61,vI 3,vR b64,vR no78_0,oU,oU]) rfl (XS.iloadN X78.here hx rfl (hb hby at_107) rfl k)) ?_
          refine oG m T78 115 #[vI i0,vI cp,vI 3,vR b61,vI 3,vR b64,vR no78_0,oU,oU] [(.ref no78_0)] (fun _ k => (X78.ldcInt hx hown (mvT hZ (oH hw 108 rfl)) (g := (mkF m 108 #[vI i0,vI cp,vI 3,vR b61,vI 3,vR b64,vR no78_0,oU,oU] [(.int cp)])) rfl (hb hby at_108)) _ (XS.icmpNo X78.here hx rfl (hb hby at_110) rfl (tlt c3).2.1 (XS.aload X78.here hx rfl (hb hby at_113) rfl rfl k))) ?_
          have nx79 : no78_0 ≠ na78_0 := eo78_0.neArv va78_0 (oH hw 53 rfl)
          obtain ⟨cq80, kq80, q80a, q80b, q80c⟩ := isOf hZ rfl eo78_0
          obtain ⟨v80, _, ⟨T80, L80, k80, n80⟩, -, X80, ⟨Lc80, hQ80, l80, y80, z80⟩, st80⟩ := X78.virtualBack hx (y := (⟨"java/lang/String", "length", "()I"⟩ : MethodName)) (z := (⟨"java/lang/String", "length", "()I"⟩ : MethodName)) hown (mvT hZ (oH hw 109 rfl)) (mvT hZ (oH hw 110 rfl)) (notFace_of_selects (args := #[]) (mvT hZ (oH hw 112 rfl))) (mvT hZ (oH hw 112 rfl)) (mvT hZ (oH hw 111 rfl)) (by decide) (backOf (W := 0) (rmz55 l Z a0 hw [] no78_0 na78_0 ka78_0 (own_hi (own_d3 b0 b1 b2)) (own_lo (own_d3 b0 b1 b2)) u8 zc fv T78.heap n0 Z78 eo78_0 g_no78_0 va78_0 g_na78_0 fo78_0_value fo78_0_coder nx79 c78_USS) hZ (oH hw 113 rfl) (oH hw 54 rfl) (by decide) (by decide)) q80a q80c (g := (mkF m 115 #[vI i0, vI cp, vI 3, vR b61, vI 3, vR b64, vR no78_0, oU, oU] [(.ref no78_0)])) rfl (by rw [hml]; rfl) (Steps.refl _) (argsL := []) (rest := []) (lenOf pd_329 rfl) rfl (by show 2 * 0 + _ ≤ _; exact Nat.le_of_eq rfl) (hb hby at_115) (fun _ _ => ⟨rfl, rfl, (by decide : 6 + 0 ≤ _), (by decide : 21 + 0 ≤ _)⟩)
          dsimp only [Pt.U, Pt.locs, Pt.cells, Pt.slots] at X80 l80 y80 z80 st80 hQ80
          subst l80 y80 z80
          obtain ⟨rfl, eh80, rfl⟩ := hQ80
          have N80 := Fr.app N78 (Fr.nil n0)
          refine oG m T80 125 #[vI i0,vI cp,vI 3,vR b61,vI 3,vR b64,vR no78_0,oU,oU] [(.int 0),(.ref no78_0)] (fun _ k => st80.trans (XS.iconst X80.here hx rfl (hb hby at_118) (XS.icmpNo X80.here hx rfl (hb hby at_119) rfl (teq (by decide)).2 (XS.aload X80.here hx rfl (hb hby at_122) rfl rfl (XS.iconst X80.here hx rfl (hb hby at_124) k))))) ?_
          obtain ⟨cq81, kq81, q81a, q81b, q81c⟩ := isOf hZ eh80 eo78_0
          obtain ⟨v81, _, ⟨T81, L81, k81, n81⟩, -, X81, ⟨Lc81, hQ81, l81, y81, z81⟩, st81⟩ := X80.virtualBack hx (y := (⟨"java/lang/String", "charAt", "(I)C"⟩ : MethodName)) (z := (⟨"java/lang/String", "charAt", "(I)C"⟩ : MethodName)) hown (mvT hZ (oH hw 119 rfl)) (mvT hZ (oH hw 120 rfl)) (notFace_of_selects (args := #[]) (mvT hZ (oH hw 122 rfl))) (mvT hZ (oH hw 122 rfl)) (mvT hZ (oH hw 121 rfl)) (by decide) (backOf (W := 0) (rmz61 l Z a0 hw [] no78_0 na78_0 ka78_0 (own_hi (own_d3 b0 b1 b2)) (own_lo (own_d3 b0 b1 b2)) u8 zc fv T78.heap n0 Z78 eo78_0 g_no78_0 va78_0 g_na78_0 fo78_0_value fo78_0_coder nx79 c78_USS) hZ (oH hw 123 rfl) (oH hw 54 rfl) (by decide) (by decide)) q81a q81c (g := (mkF m 125 #[vI i0, vI cp, vI 3, vR b61, vI 3, vR b64, vR no78_0, oU, oU] [(.int 0), (.ref no78_0)])) rfl (by rw [hml]; rfl) (Steps.refl _) (argsL := [(.int 0)]) (rest := []) (lenOf pd_374 rfl) rfl (by show 2 * 0 + _ ≤ _; exact Nat.le_of_eq rfl) (hb hby at_125) (fun _ _ => ⟨rfl, eh80, (by decide : 6 + 0 ≤ _), (by decide : 21 + 0 ≤ _)⟩)
          dsimp only [Pt.U, Pt.locs, Pt.cells, Pt.slots] at X81 l81 y81 z81 st81 hQ81
          subst l81 y81 z81
          obtain ⟨rfl, eh81, rfl⟩ := hQ81
          have N81 := Fr.app N80 (Fr.nil n0)
          refine oG m T81 130 #[vI i0,vI cp,vI 3,vR b61,vI 3,vR b64,vR no78_0,oU,oU] [(.int (cp.toUInt32.toUInt16.toUInt32.toInt32)),(.int (nar .char (nar .char (nar .char (((((own_hi (own_d3 b0 b1 b2)) &&& (255 : Int32)) <<< ((0 : Int32) &&& 31)) ||| (((own_lo (own_d3 b0 b1 b2)) &&& (255 : Int32)) <<< ((8 : Int32) &&& 31))).toUInt32.toUInt16.toUInt32.toInt32)))))] (fun _ k => st81.trans (XS.iloadN X81.here hx rfl (hb hby at_128) rfl (XS.i2c X81.here hx rfl (hb hby at_129) rfl k))) ?_
          have hp82 : (nar .char (nar .char (nar .char (((((own_hi (own_d3 b0 b1 b2)) &&& (255 : Int32)) <<< ((0 : Int32) &&& 31)) ||| (((own_lo (own_d3 b0 b1 b2)) &&& (255 : Int32)) <<< ((8 : Int32) &&& 31))).toUInt32.toUInt16.toUInt32.toInt32)))) = (cp.toUInt32.toUInt16.toUInt32.toInt32) := (by rw [own_d3v b0 b1 b2 cp hlo hhi tb0 tb1 tb2, own_gp cp (by omega) (by omega)]; simp only [own_i2c cp (by omega) (by omega), own_nch cp (by omega) (by omega)])
          refine oG m T81 138 #[vI i0,vI cp,vI 3,vR b61,vI 3,vR b64,vR no78_0,oU,oU] [(.int 1)] (fun _ k => XS.icmpNo X81.here hx rfl (hb hby at_130) rfl (teq hp82).2 (XS.iconst X81.here hx rfl (hb hby at_133) (XS.goto X81.here hx rfl (pc0 := 134) (pc' := 138) rfl (hb hby at_134) (by decide) (by decide) k))) ?_
          refine own_retN (t := .boolean) X81 hx hlk (by simp) Bd.returns (hb hby at_138) (by decide) (by decide) ?_
          exact ⟨rfl, N81⟩
        · have hlo : 65536 ≤ cp.toInt := own_nltr c3 (by decide)
          have hhi : cp.toInt < 1114112 := hc1
          refine oG m s₁ 27 #[vI i0,vI cp,oU,oU,oU,oU,oU,oU,oU] [(.int cp)] (fun _ k => XS.iloadN X0.here hx rfl (hb hby at_26) rfl k) ?_
          obtain ⟨T83, X83, e83, st83⟩ := own_cP X0 hx hZ hown (oH hw 3 rfl) (oH hw 4 rfl) (oH hw 5 rfl) (oH hw 6 rfl) (by decide) (rmz83 l Z a0 hw [] cp u8 zc fv h0 n0 Z0  SS c1 c2 c3) (W := 0) (by decide) (by decide) (g := (mkF m 27 #[vI i0, vI cp, oU, oU, oU, oU, oU, oU, oU] [(.int cp)])) rfl (by rw [hml]; rfl) (argsL := [(.int cp)]) (rest := []) (lenOf pd_79 rfl) rfl rfl rfl (hb hby at_27) e0 rfl (by decide) (by decide) (by decide : 0 ≤ _) (by decide : 0 ≤ _)
          refine oG m T83 44 #[vI i0,vI cp,vI 4,oU,oU,oU,oU,oU,oU] [(.int 4)] (fun _ k => st83 _ (XS.istoreN X83.here hx rfl (hb hby at_30) rfl (l' := #[vI i0,vI cp,vI 4,oU,oU,oU,oU,oU,oU]) rfl (XS.iloadN X83.here hx rfl (hb hby at_31) rfl (XS.iconst X83.here hx rfl (hb hby at_32) (XS.icmpNo X83.here hx rfl (hb hby at_33) rfl (flt (by decide)).1 (XS.iloadN X83.here hx rfl (hb hby at_36) rfl (XS.iconst X83.here hx rfl (hb hby at_37) (XS.icmpYes X83.here hx rfl (pc0 := 38) (pc' := 43) rfl (hb hby at_38) rfl (flt (by decide)).2.2.2 (by decide) (by decide) (XS.iconst X83.here hx rfl (hb hby at_43) k))))))))) ?_
          obtain ⟨T84, h84, k84, X84, e84, E84, A84, Ec84, st84⟩ := newPE X83 hx hZ (oH hw 7 rfl) e83 (g := (mkF m 44 #[vI i0, vI cp, vI 4, oU, oU, oU, oU, oU, oU] [(.int 4)])) rfl (hb hby at_44) rfl (by decide) (cap := 4) (by decide) (by decide) (by decide) (by decide) (ad := "[B") (by decide)
          obtain ⟨b84, gz84⟩ : ∃ z, z = h0.size := ⟨_, rfl⟩
          rw [← gz84] at A84 Ec84 st84
          have sz_b84 : h0.size ≤ b84 := Nat.le_trans K0.1 (Nat.le_of_eq gz84.symm)
          have c84_USS := SS.ext E84
          have K84 := K0.ext E84
          have g_b84 : n0 ≤ b84 := Nat.le_trans Z0 (Nat.le_of_eq gz84.symm)
          have V84 := Arv.new A84 (by decide)
          have Z84 : n0 ≤ h84.size := Nat.le_trans Z0 E84.1
          refine oG m T84 46 #[vI i0,vI cp,vI 4,oU,oU,oU,oU,oU,oU] [(.ref b84)] (fun _ k => st84 _ k) ?_
          have V85 : Arv Z h84 b84 k84 .byte (4 : Int32) [(.int 0), (.int 0), (.int 0), (.int 0)] (.int 0) := V84.pad (pad_rep [] (.int 0) 4)
          refine oG m T84 50 #[vI i0,vI cp,vI 4,vR b84,oU,oU,oU,oU,oU] [(.int 0),(.ref b84),(.int cp)] (fun _ k => XS.astoreN X84.here hx rfl (hb hby at_46) rfl rfl (l' := #[vI i0,vI cp,vI 4,vR b84,oU,oU,oU,oU,oU]) rfl (XS.iloadN X84.here hx rfl (hb hby at_47) rfl (XS.aloadN X84.here hx rfl (hb hby at_48) rfl rfl (XS.iconst X84.here hx rfl (hb hby at_49) k)))) ?_
          obtain ⟨v86, T86, Lc86, X86, hQ86, st86⟩ := own_cS X84 hx hZ hown (oH hw 8 rfl) (oH hw 9 rfl) (oH hw 5 rfl) (oH hw 10 rfl) (by decide) (rmz84 l Z a0 hw [] cp b84 k84 (0 : Int32) (0 : Int32) (0 : Int32) (0 : Int32) u8 zc fv h84 n0 Z84 V85 g_b84 Ec84 c84_USS c1 c2 c3) (W := 0) (by decide) (by decide) (g := (mkF m 50 #[vI i0, vI cp, vI 4, vR b84, oU, oU, oU, oU, oU] [(.int 0), (.ref b84), (.int cp)])) rfl (by rw [hml]; rfl) (argsL := [(.int cp), (.ref b84), (.int 0)]) (rest := []) (lenOf pd_104 rfl) rfl rfl rfl (hb hby at_50) e84 rfl (by decide : 1 + 0 ≤ _) (by decide : 4 + 0 ≤ _)
          obtain ⟨rfl, Nq86, Kc86, wa86_0⟩ := hQ86
          have Kt86 := K84.trans Kc86 (fun x hx => by simp only [List.mem_cons, List.mem_singleton, List.not_mem_nil, or_false] at hx; rcases hx with rfl <;> first | (left; simp; done) | (right; assumption))
          have N86 := Fr.app N0 Nq86
          have Z86 : n0 ≤ T86.heap.size := Nat.le_trans Z84 Kc86.1
          have c86_USS := c84_USS.keep Kc86 (own_nsS (own_nsA V85) own_ns0)
          have c86_Eb84 := Ec84.keep Kc86
          refine oG m T86 53 #[vI i0,vI cp,vI 4,vR b84,oU,oU,oU,oU,oU] [(.int 4)] (fun _ k => st86 _ k) ?_
          obtain ⟨b0, hb0⟩ : ∃ z : Int32, z = (nar .byte (((4080 : Int32) ||| (((cp >>> ((6 : Int32) &&& 31)) >>> ((6 : Int32) &&& 31)) >>> ((6 : Int32) &&& 31))).toInt8.toInt32)) := ⟨_, rfl⟩
          rw [← hb0] at wa86_0
          have d1 := own_sh cp
          have d2 := own_sh (cp >>> ((6 : Int32) &&& 31))
          have d3 := own_sh ((cp >>> ((6 : Int32) &&& 31)) >>> ((6 : Int32) &&& 31))
          have tb0 : b0.toInt = cp.toInt / 262144 - 16 := by rw [hb0]; exact own_lead _ _ 4 (by decide) 16 (by decide) 4080 (by decide) (by decide) (by omega) (by omega) (by decide) (by decide) _ (by omega) (by omega) (by omega)
          obtain ⟨b1, hb1⟩ : ∃ z : Int32, z = (nar .byte (((128 : Int32) ||| (((cp >>> ((6 : Int32) &&& 31)) >>> ((6 : Int32) &&& 31)) &&& (63 : Int32))).toInt8.toInt32)) := ⟨_, rfl⟩
          rw [← hb1] at wa86_0
          have tb1 : b1.toInt = (cp.toInt / 4096) % 64 - 128 := by rw [hb1]; refine (own_cont _).trans ?_; omega
          obtain ⟨b2, hb2⟩ : ∃ z : Int32, z = (nar .byte (((128 : Int32) ||| ((cp >>> ((6 : Int32) &&& 31)) &&& (63 : Int32))).toInt8.toInt32)) := ⟨_, rfl⟩
          rw [← hb2] at wa86_0
          have tb2 : b2.toInt = (cp.toInt / 64) % 64 - 128 := by rw [hb2]; refine (own_cont _).trans ?_; omega
          obtain ⟨b3, hb3⟩ : ∃ z : Int32, z = (nar .byte (((128 : Int32) ||| (cp &&& (63 : Int32))).toInt8.toInt32)) := ⟨_, rfl⟩
          rw [← hb3] at wa86_0
          have tb3 : b3.toInt = cp.toInt % 64 - 128 := by rw [hb3]; refine (own_cont _).trans ?_; omega
          refine oG m T86 63 #[vI i0,vI cp,vI 4,vR b84,vI 4,oU,oU,oU,oU] [] (fun _ k => XS.istore X86.here hx rfl (hb hby at_53) rfl (l' := #[vI i0,vI cp,vI 4,vR b84,vI 4,oU,oU,oU,oU]) rfl (XS.iload X86.here hx rfl (hb hby at_55) rfl (XS.iloadN X86.here hx rfl (hb hby at_57) rfl (XS.icmpYes X86.here hx rfl (pc0 := 58) (pc' := 63) rfl (hb hby at_58) rfl (teq (by decide)).1 (by decide) (by decide) k)))) ?_
          obtain ⟨T87, h87, X87, e87, E87, A87, D87, -, st87⟩ := newO X86 hx hZ hown (oH hw 12 rfl) (oH hw 13 rfl) (oH hw 5 rfl) rfl (g := (mkF m 63 #[vI i0, vI cp, vI 4, vR b84, vI 4, oU, oU, oU, oU] [])) rfl (hb hby at_63) (by decide) (by decide)
          obtain ⟨b87, gz87⟩ : ∃ z, z = T86.heap.size := ⟨_, rfl⟩
          rw [← gz87] at A87 D87 st87
          have sz_b87 : h0.size ≤ b87 := Nat.le_trans Kt86.1 (Nat.le_of_eq gz87.symm)
          have ne_b84_b87 : b84 ≠ b87 := Nat.ne_of_lt (by rw [gz87]; exact c86_Eb84.lt)
          have c87_USS := c86_USS.ext E87
          have c87_Eb84 := c86_Eb84.ext E87
          have c87_Vb84 := wa86_0.ext E87
          have K87 := Kt86.ext E87
          have g_b87 : n0 ≤ b87 := Nat.le_trans Z86 (Nat.le_of_eq gz87.symm)
          have F87_bytes : Fld Z h87 b87 "clearcut/Text" "bytes" "[B" .null := D87 (Or.inr (oH hw 21 rfl)) (ty := (.array .byte)) (by decide)
          have F87_length : Fld Z h87 b87 "clearcut/Text" "length" "I" (.int 0) := D87 (Or.inr (oH hw 23 rfl)) (ty := .int) (by decide)
          have Z87 : n0 ≤ h87.size := Nat.le_trans Z86 E87.1
          refine oG m T87 69 #[vI i0,vI cp,vI 4,vR b84,vI 4,oU,oU,oU,oU] [(.int 4),(.ref b84),(.ref b87),(.ref b87)] (fun _ k => st87 _ (XS.dup X87.here hx rfl (hb hby at_66) rfl rfl (XS.aloadN X87.here hx rfl (hb hby at_67) rfl rfl (XS.iloadN X87.here hx rfl (hb hby at_68) rfl k)))) ?_
          obtain ⟨v88, _, ⟨T88, L88, k88, n88⟩, -, X88, ⟨Lc88, hQ88, l88, y88, z88⟩, st88⟩ := X87.specialBack hx (y := (⟨"clearcut/Text", "<init>", "([BI)V"⟩ : MethodName)) rfl hown (mvT hZ (oH hw 14 rfl)) (mvT hZ (oH hw 15 rfl)) (mvT hZ (oH hw 16 rfl)) (by decide) (backOf (W := 1) (rmz3 l Z a0 hw [] b87 b84 k84 b0 b1 b2 b3 (4 : Int32) u8 zc fv h87 n0 Z87 A87 g_b87 F87_bytes F87_length c87_Vb84 g_b84 c87_Eb84 (Ne.symm ne_b84_b87) c87_USS) hZ (oH hw 16 rfl) (oH hw 5 rfl) (by decide) (by decide)) (g := (mkF m 69 #[vI i0, vI cp, vI 4, vR b84, vI 4, oU, oU, oU, oU] [(.int 4), (.ref b84), (.ref b87), (.ref b87)])) rfl (by rw [hml]; rfl) (Steps.refl _) (a := b87) (argsL := [(.ref b84), (.int 4)]) (rest := [(.ref b87)]) (lenOf pd_114 rfl) rfl (by show 2 * 0 + _ ≤ _; exact Nat.le_of_eq rfl) (hb hby at_69) (fun _ _ => ⟨rfl, e87, (by decide : 2 + 0 ≤ _), (by decide : 6 + 0 ≤ _)⟩)
          dsimp only [Pt.U, Pt.locs, Pt.cells, Pt.slots] at X88 l88 y88 z88 st88 hQ88
          subst l88 y88 z88
          obtain ⟨rfl, Nq88, Kc88, wo88_0_bytes, wo88_0_length⟩ := hQ88
          have Kt88 := K87.trans Kc88 (fun x hx => by simp only [List.mem_cons, List.mem_singleton, List.not_mem_nil, or_false] at hx; rcases hx with rfl <;> first | (left; simp; done) | (right; assumption))
          have N88 := Fr.app N86 Nq88
          have Z88 : n0 ≤ T88.heap.size := Nat.le_trans Z87 Kc88.1
          have c88_USS := c87_USS.keep Kc88 (own_nsS (own_nsE A87) own_ns0)
          have c88_Eb84 := c87_Eb84.keep Kc88
          have c88_Vb84 := c87_Vb84.keep Kc88 (ninS ne_b84_b87 nin0)
          have c88_Eb87 := A87.keep Kc88
          refine oG m T88 77 #[vI i0,vI cp,vI 4,vR b84,vI 4,vR b87,oU,oU,oU] [(.int 0),(.ref b87)] (fun _ k => st88.trans (XS.astore X88.here hx rfl (hb hby at_72) rfl rfl (l' := #[vI i0,vI cp,vI 4,vR b84,vI 4,vR b87,oU,oU,oU]) rfl (XS.aload X88.here hx rfl (hb hby at_74) rfl rfl (XS.iconst X88.here hx rfl (hb hby at_76) k)))) ?_
          have hp89 : ¬ (b0 &&& (255 : Int32)) < (128 : Int32) := (fun zz => by have aa := own_m255 b0; have kk := own_ltr zz (by decide : (128 : Int32).toInt = 128); omega)
          have hp90 : ¬ (b0 &&& (255 : Int32)) < (224 : Int32) := (fun zz => by have aa := own_m255 b0; have kk := own_ltr zz (by decide : (224 : Int32).toInt = 224); omega)
          have hp91 : ¬ (b0 &&& (255 : Int32)) < (240 : Int32) := (fun zz => by have aa := own_m255 b0; have kk := own_ltr zz (by decide : (240 : Int32).toInt = 240); omega)
          obtain ⟨cq92, kq92, q92a, q92b, q92c⟩ := isOf hZ rfl c88_Eb87
          obtain ⟨v92, _, ⟨T92, L92, k92, n92⟩, -, X92, ⟨Lc92, hQ92, l92, y92, z92⟩, st92⟩ := X88.virtualBack hx (y := (⟨"clearcut/Text", "next", "(I)I"⟩ : MethodName)) (z := (⟨"clearcut/Text", "next", "(I)I"⟩ : MethodName)) hown (mvT hZ (oH hw 24 rfl)) (mvT hZ (oH hw 25 rfl)) (notFace_of_selects (args := #[]) (mvT hZ (oH hw 27 rfl))) (mvT hZ (oH hw 27 rfl)) (mvT hZ (oH hw 26 rfl)) (by decide) (backOf (W := 0) (rmz86 l Z a0 hw [] b87 b84 k84 b0 b1 b2 b3 u8 zc fv T88.heap n0 Z88 c88_Eb87 g_b87 c88_Vb84 g_b84 c88_Eb84 wo88_0_bytes (Ne.symm ne_b84_b87) c88_USS hp89 hp90 hp91) hZ (oH hw 28 rfl) (oH hw 5 rfl) (by decide) (by decide)) q92a q92c (g := (mkF m 77 #[vI i0, vI cp, vI 4, vR b84, vI 4, vR b87, oU, oU, oU] [(.int 0), (.ref b87)])) rfl (by rw [hml]; rfl) (Steps.refl _) (argsL := [(.int 0)]) (rest := []) (lenOf pd_79 rfl) rfl (by show 2 * 0 + _ ≤ _; exact Nat.le_of_eq rfl) (hb hby at_77) (fun _ _ => ⟨rfl, rfl, (by decide : 2 + 0 ≤ _), (by decide : 6 + 0 ≤ _)⟩)
          dsimp only [Pt.U, Pt.locs, Pt.cells, Pt.slots] at X92 l92 y92 z92 st92 hQ92
          subst l92 y92 z92
          obtain ⟨rfl, eh92, rfl⟩ := hQ92
          have N92 := Fr.app N88 (Fr.nil n0)
          refine oG m T92 89 #[vI i0,vI cp,vI 4,vR b84,vI 4,vR b87,oU,oU,oU] [(.int 0),(.ref b87)] (fun _ k => st92.trans (XS.iloadN X92.here hx rfl (hb hby at_80) rfl (XS.icmpYes X92.here hx rfl (pc0 := 81) (pc' := 86) rfl (hb hby at_81) rfl (teq (by decide)).1 (by decide) (by decide) (XS.aload X92.here hx rfl (hb hby at_86) rfl rfl (XS.iconst X92.here hx rfl (hb hby at_88) k))))) ?_
          obtain ⟨cq93, kq93, q93a, q93b, q93c⟩ := isOf hZ eh92 c88_Eb87
          obtain ⟨v93, _, ⟨T93, L93, k93, n93⟩, -, X93, ⟨Lc93, hQ93, l93, y93, z93⟩, st93⟩ := X92.virtualBack hx (y := (⟨"clearcut/Text", "codePointAt", "(I)I"⟩ : MethodName)) (z := (⟨"clearcut/Text", "codePointAt", "(I)I"⟩ : MethodName)) hown (mvT hZ (oH hw 37 rfl)) (mvT hZ (oH hw 38 rfl)) (notFace_of_selects (args := #[]) (mvT hZ (oH hw 40 rfl))) (mvT hZ (oH hw 40 rfl)) (mvT hZ (oH hw 39 rfl)) (by decide) (backOf (W := 0) (rmz87 l Z a0 hw [] b87 b84 k84 b0 b1 b2 b3 u8 zc fv T88.heap n0 Z88 c88_Eb87 g_b87 c88_Vb84 g_b84 c88_Eb84 wo88_0_bytes (Ne.symm ne_b84_b87) c88_USS hp89 hp90 hp91) hZ (oH hw 41 rfl) (oH hw 5 rfl) (by decide) (by decide)) q93a q93c (g := (mkF m 89 #[vI i0, vI cp, vI 4, vR b84, vI 4, vR b87, oU, oU, oU] [(.int 0), (.ref b87)])) rfl (by rw [hml]; rfl) (Steps.refl _) (argsL := [(.int 0)]) (rest := []) (lenOf pd_79 rfl) rfl (by show 2 * 0 + _ ≤ _; exact Nat.le_of_eq rfl) (hb hby at_89) (fun _ _ => ⟨rfl, eh92, (by decide : 2 + 0 ≤ _), (by decide : 6 + 0 ≤ _)⟩)
          dsimp only [Pt.U, Pt.locs, Pt.cells, Pt.slots] at X93 l93 y93 z93 st93 hQ93
          subst l93 y93 z93
          obtain ⟨rfl, eh93, rfl⟩ := hQ93
          have N93 := Fr.app N92 (Fr.nil n0)
          refine oG m T93 93 #[vI i0,vI cp,vI 4,vR b84,vI 4,vR b87,oU,oU,oU] [(.int cp),(.int ((((((((b0 &&& (255 : Int32)) &&& (7 : Int32)) <<< ((6 : Int32) &&& 31)) ||| (b1 &&& (63 : Int32))) <<< ((6 : Int32) &&& 31)) ||| (b2 &&& (63 : Int32))) <<< ((6 : Int32) &&& 31)) ||| (b3 &&& (63 : Int32))))] (fun _ k => st93.trans (XS.iloadN X93.here hx rfl (hb hby at_92) rfl k)) ?_
          have hp94 : ((((((((b0 &&& (255 : Int32)) &&& (7 : Int32)) <<< ((6 : Int32) &&& 31)) ||| (b1 &&& (63 : Int32))) <<< ((6 : Int32) &&& 31)) ||| (b2 &&& (63 : Int32))) <<< ((6 : Int32) &&& 31)) ||| (b3 &&& (63 : Int32))) = cp := (by have a0 := own_m255 b0; have a1 : ((b0 &&& (255 : Int32)) &&& (7 : Int32)).toInt = (b0 &&& (255 : Int32)).toInt % 8 := (by have z := c_mask (b0 &&& (255 : Int32)) 7 3 (by decide) (by decide); simpa using z); have a2 := own_acc ((b0 &&& (255 : Int32)) &&& (7 : Int32)) b1 (by omega) (by omega); have a3 := own_acc ((((b0 &&& (255 : Int32)) &&& (7 : Int32)) <<< ((6 : Int32) &&& 31)) ||| (b1 &&& (63 : Int32))) b2 (by omega) (by omega); have a4 := own_acc ((((((b0 &&& (255 : Int32)) &&& (7 : Int32)) <<< ((6 : Int32) &&& 31)) ||| (b1 &&& (63 : Int32))) <<< ((6 : Int32) &&& 31)) ||| (b2 &&& (63 : Int32))) b3 (by omega) (by omega); rw [← Int32.toInt_inj]; omega)
          refine oG m T93 102 #[vI i0,vI cp,vI 4,vR b84,vI 4,vR b87,oU,oU,oU] [(.int 4),(.int 0),(.ref b87)] (fun _ k => XS.icmpYes X93.here hx rfl (pc0 := 93) (pc' := 98) rfl (hb hby at_93) rfl (teq hp94).1 (by decide) (by decide) (XS.aload X93.here hx rfl (hb hby at_98) rfl rfl (XS.iconst X93.here hx rfl (hb hby at_100) (XS.iloadN X93.here hx rfl (hb hby at_101) rfl k)))) ?_
          have hp95 : b0 < (0 : Int32) := (by rw [Int32.lt_iff_toInt_lt]; have kk : (0 : Int32).toInt = 0 := (by decide); omega)
          have hp96 : ¬ (b0 &&& (254 : Int32)) = (194 : Int32) := (own_fin (P := fun x => ¬ (x &&& (254 : Int32)) = (194 : Int32)) (-16) 5 (by decide) b0 (by omega) (by omega))
          have hp97 : ¬ (b0 >>> ((5 : Int32) &&& 31)) = (-2 : Int32) := (fun zz => by have aa : (b0 >>> ((5 : Int32) &&& 31)).toInt = b0.toInt / 32 := (by have zz := c_ishr b0 5 5 (by decide); simpa using zz); have kk : (b0 >>> ((5 : Int32) &&& 31)).toInt = -2 := (by rw [zz]; decide); omega)
          have hp98 : ¬ (b0 >>> ((4 : Int32) &&& 31)) = (-2 : Int32) := (fun zz => by have aa : (b0 >>> ((4 : Int32) &&& 31)).toInt = b0.toInt / 16 := (by have zz := c_ishr b0 4 4 (by decide); simpa using zz); have kk : (b0 >>> ((4 : Int32) &&& 31)).toInt = -2 := (by rw [zz]; decide); omega)
          have hp99 : (b0 >>> ((3 : Int32) &&& 31)) = (-2 : Int32) := (by have aa : (b0 >>> ((3 : Int32) &&& 31)).toInt = b0.toInt / 8 := (by have zz := c_ishr b0 3 3 (by decide); simpa using zz); have kk : (-2 : Int32).toInt = -2 := (by decide); rw [← Int32.toInt_inj]; omega)
          have hp100 : (own_im4_0 b1 b2 b3) = (0 : Int32) := (own_im4v b1 b2 b3 (by omega) (by omega) (by omega) (by omega) (by omega) (by omega))
          have hp101 : ¬ (own_sup_0 (own_d4 b0 b1 b2 b3)) = (0 : Int32) := (by rw [own_d4v b0 b1 b2 b3 cp hlo hhi tb0 tb1 tb2 tb3]; exact own_supv cp hlo hhi)
          obtain ⟨cq102, kq102, q102a, q102b, q102c⟩ := isOf hZ eh93 c88_Eb87
          obtain ⟨v102, _, ⟨T102, L102, k102, n102⟩, -, X102, ⟨Lc102, hQ102, l102, y102, z102⟩, st102⟩ := X93.virtualBack hx (y := (⟨"clearcut/Text", "substring", "(II)Ljava/lang/String;"⟩ : MethodName)) (z := (⟨"clearcut/Text", "substring", "(II)Ljava/lang/String;"⟩ : MethodName)) hown (mvT hZ (oH hw 42 rfl)) (mvT hZ (oH hw 43 rfl)) (notFace_of_selects (args := #[]) (mvT hZ (oH hw 45 rfl))) (mvT hZ (oH hw 45 rfl)) (mvT hZ (oH hw 44 rfl)) (by decide) (backOf (W := 0) (rmz105 l Z a0 hw [] b87 b84 k84 b0 b1 b2 b3 u8 zc fv T88.heap n0 Z88 c88_Eb87 g_b87 c88_Vb84 g_b84 c88_Eb84 wo88_0_bytes (Ne.symm ne_b84_b87) c88_USS hp95 hp96 hp97 hp98 hp99 hp100 hp101) hZ (oH hw 46 rfl) (oH hw 5 rfl) (by decide) (by decide)) q102a q102c (g := (mkF m 102 #[vI i0, vI cp, vI 4, vR b84, vI 4, vR b87, oU, oU, oU] [(.int 4), (.int 0), (.ref b87)])) rfl (by rw [hml]; rfl) (Steps.refl _) (argsL := [(.int 0), (.int 4)]) (rest := []) (lenOf pd_313 rfl) rfl (by show 2 * 0 + _ ≤ _; exact Nat.le_of_eq rfl) (hb hby at_102) (fun _ _ => ⟨rfl, eh93, (by decide : 2 + 4 ≤ _), (by decide : 6 + 20 ≤ _)⟩)
          dsimp only [Pt.U, Pt.locs, Pt.cells, Pt.slots] at X102 l102 y102 z102 st102 hQ102
          subst l102 y102 z102
          obtain ⟨na102_0, ka102_0, no102_0, rfl, Nq102, Kc102, sa102_0, va102_0, so102_0, eo102_0, fo102_0_value, fo102_0_coder⟩ := hQ102
          have Kt102 := Kt88.trans Kc102 (fun x hx => nomatch hx)
          have N102 := Fr.app N93 Nq102
          have Z102 : n0 ≤ T102.heap.size := Nat.le_trans Z88 Kc102.1
          have c102_USS := c88_USS.keep Kc102 own_ns0
          have c102_Eb84 := c88_Eb84.keep Kc102
          have c102_Vb84 := c88_Vb84.keep Kc102 nin0
          have c102_Eb87 := c88_Eb87.keep Kc102
          have c102_Fb87_bytes := wo88_0_bytes.keep Kc102 nin0
          have c102_Fb87_length := wo88_0_length.keep Kc102 nin0
          refine oG m T102 105 #[vI i0,vI cp,vI 4,vR b84,vI 4,vR b87,oU,oU,oU] [(.ref no102_0)] (fun _ k => st102.trans k) ?_
          have g_na102_0 : n0 ≤ na102_0 := Nat.le_trans Z88 sa102_0
          have sz_na102_0 : h0.size ≤ na102_0 := Nat.le_trans Kt88.1 sa102_0
          have ne_b84_na102_0 : b84 ≠ na102_0 := Nat.ne_of_lt (Nat.lt_of_lt_of_le c88_Vb84.lt sa102_0)
          have ne_b87_na102_0 : b87 ≠ na102_0 := Nat.ne_of_lt (Nat.lt_of_lt_of_le c88_Eb87.lt sa102_0)
          have g_no102_0 : n0 ≤ no102_0 := Nat.le_trans Z88 so102_0
          have sz_no102_0 : h0.size ≤ no102_0 := Nat.le_trans Kt88.1 so102_0
          have ne_b84_no102_0 : b84 ≠ no102_0 := Nat.ne_of_lt (Nat.lt_of_lt_of_le c88_Vb84.lt so102_0)
          have ne_b87_no102_0 : b87 ≠ no102_0 := Nat.ne_of_lt (Nat.lt_of_lt_of_le c88_Eb87.lt so102_0)
          refine oG m T102 108 #[vI i0,vI cp,vI 4,vR b84,vI 4,vR b87,vR no102_0,oU,oU] [(.int cp)] (fun _ k => XS.astore X102.here hx rfl (hb hby at_105) rfl rfl (l' := #[vI i0,vI cp,vI 4,vR b84,vI 4,vR b87,vR no102_0,oU,oU]) rfl (XS.iloadN X102.here hx rfl (hb hby at_107) rfl k)) ?_
          refine oG m T102 139 #[vI i0,vI cp,vI 4,vR b84,vI 4,vR b87,vR no102_0,oU,oU] [] (fun _ k => (X102.ldcInt hx hown (mvT hZ (oH hw 108 rfl)) (g := (mkF m 108 #[vI i0,vI cp,vI 4,vR b84,vI 4,vR b87,vR no102_0,oU,oU] [(.int cp)])) rfl (hb hby at_108)) _ (XS.icmpYes X102.here hx rfl (pc0 := 110) (pc' := 139) rfl (hb hby at_110) rfl (flt c3).2.1 (by decide) (by decide) k)) ?_
          refine oG m T102 142 #[vI i0,vI cp,vI 4,vR b84,vI 4,vR b87,vR no102_0,oU,oU] [(.int cp),(.int 55296)] (fun _ k => (X102.ldcInt hx hown (mvT hZ (oH hw 2 rfl)) (g := (mkF m 139 #[vI i0,vI cp,vI 4,vR b84,vI 4,vR b87,vR no102_0,oU,oU] [])) rfl (hb hby at_139)) _ (XS.iloadN X102.here hx rfl (hb hby at_141) rfl k)) ?_
          refine oG m T102 152 #[vI i0,vI cp,vI 4,vR b84,vI 4,vR b87,vR no102_0,vI (((55296 : Int32) + ((cp - (65536 : Int32)) >>> ((10 : Int32) &&& 31))).toUInt32.toUInt16.toUInt32.toInt32),oU] [] (fun _ k => (X102.ldcInt hx hown (mvT hZ (oH hw 108 rfl)) (g := (mkF m 142 #[vI i0,vI cp,vI 4,vR b84,vI 4,vR b87,vR no102_0,oU,oU] [(.int cp),(.int 55296)])) rfl (hb hby at_142)) _ (XS.isub X102.here hx rfl (hb hby at_144) rfl (XS.bipush X102.here hx rfl (hb hby at_145) (XS.ishr X102.here hx rfl (hb hby at_147) rfl (XS.iadd X102.here hx rfl (hb hby at_148) rfl (XS.i2c X102.here hx rfl (hb hby at_149) rfl (XS.istore X102.here hx rfl (hb hby at_150) rfl (l' := #[vI i0,vI cp,vI 4,vR b84,vI 4,vR b87,vR no102_0,vI (((55296 : Int32) + ((cp - (65536 : Int32)) >>> ((10 : Int32) &&& 31))).toUInt32.toUInt16.toUInt32.toInt32),oU]) rfl k))))))) ?_
          refine oG m T102 165 #[vI i0,vI cp,vI 4,vR b84,vI 4,vR b87,vR no102_0,vI (((55296 : Int32) + ((cp - (65536 : Int32)) >>> ((10 : Int32) &&& 31))).toUInt32.toUInt16.toUInt32.toInt32),vI (((56320 : Int32) + (cp &&& (1023 : Int32))).toUInt32.toUInt16.toUInt32.toInt32)] [(.ref no102_0)] (fun _ k => (X102.ldcInt hx hown (mvT hZ (oH hw 204 rfl)) (g := (mkF m 152 #[vI i0,vI cp,vI 4,vR b84,vI 4,vR b87,vR no102_0,vI (((55296 : Int32) + ((cp - (65536 : Int32)) >>> ((10 : Int32) &&& 31))).toUInt32.toUInt16.toUInt32.toInt32),oU] [])) rfl (hb hby at_152)) _ (XS.iloadN X102.here hx rfl (hb hby at_154) rfl (XS.sipush X102.here hx rfl (hb hby at_155) (XS.iand X102.here hx rfl (hb hby at_158) rfl (XS.iadd X102.here hx rfl (hb hby at_159) rfl (XS.i2c X102.here hx rfl (hb hby at_160) rfl (XS.istore X102.here hx rfl (hb hby at_161) rfl (l' := #[vI i0,vI cp,vI 4,vR b84,vI 4,vR b87,vR no102_0,vI (((55296 : Int32) + ((cp - (65536 : Int32)) >>> ((10 : Int32) &&& 31))).toUInt32.toUInt16.toUInt32.toInt32),vI (((56320 : Int32) + (cp &&& (1023 : Int32))).toUInt32.toUInt16.toUInt32.toInt32)]) rfl (XS.aload X102.here hx rfl (hb hby at_163) rfl rfl k)))))))) ?_
          have nx103 : no102_0 ≠ na102_0 := eo102_0.neArv va102_0 (oH hw 53 rfl)
          obtain ⟨cq104, kq104, q104a, q104b, q104c⟩ := isOf hZ rfl eo102_0
          obtain ⟨v104, _, ⟨T104, L104, k104, n104⟩, -, X104, ⟨Lc104, hQ104, l104, y104, z104⟩, st104⟩ := X102.virtualBack hx (y := (⟨"java/lang/String", "length", "()I"⟩ : MethodName)) (z := (⟨"java/lang/String", "length", "()I"⟩ : MethodName)) hown (mvT hZ (oH hw 109 rfl)) (mvT hZ (oH hw 110 rfl)) (notFace_of_selects (args := #[]) (mvT hZ (oH hw 112 rfl))) (mvT hZ (oH hw 112 rfl)) (mvT hZ (oH hw 111 rfl)) (by decide) (backOf (W := 0) (rmz107 l Z a0 hw [] no102_0 na102_0 ka102_0 (own_hi (own_hs (own_d4 b0 b1 b2 b3))) (own_lo (own_hs (own_d4 b0 b1 b2 b3))) (own_hi (own_ls (own_d4 b0 b1 b2 b3))) (own_lo (own_ls (own_d4 b0 b1 b2 b3))) u8 zc fv T102.heap n0 Z102 eo102_0 g_no102_0 va102_0 g_na102_0 fo102_0_value fo102_0_coder nx103 c102_USS) hZ (oH hw 113 rfl) (oH hw 54 rfl) (by decide) (by decide)) q104a q104c (g := (mkF m 165 #[vI i0, vI cp, vI 4, vR b84, vI 4, vR b87, vR no102_0, vI (((55296 : Int32) + ((cp - (65536 : Int32)) >>> ((10 : Int32) &&& 31))).toUInt32.toUInt16.toUInt32.toInt32), vI (((56320 : Int32) + (cp &&& (1023 : Int32))).toUInt32.toUInt16.toUInt32.toInt32)] [(.ref no102_0)])) rfl (by rw [hml]; rfl) (Steps.refl _) (argsL := []) (rest := []) (lenOf pd_329 rfl) rfl (by show 2 * 0 + _ ≤ _; exact Nat.le_of_eq rfl) (hb hby at_165) (fun _ _ => ⟨rfl, rfl, (by decide : 6 + 0 ≤ _), (by decide : 26 + 0 ≤ _)⟩)
          dsimp only [Pt.U, Pt.locs, Pt.cells, Pt.slots] at X104 l104 y104 z104 st104 hQ104
          subst l104 y104 z104
          obtain ⟨rfl, eh104, rfl⟩ := hQ104
          have N104 := Fr.app N102 (Fr.nil n0)
          refine oG m T104 175 #[vI i0,vI cp,vI 4,vR b84,vI 4,vR b87,vR no102_0,vI (((55296 : Int32) + ((cp - (65536 : Int32)) >>> ((10 : Int32) &&& 31))).toUInt32.toUInt16.toUInt32.toInt32),vI (((56320 : Int32) + (cp &&& (1023 : Int32))).toUInt32.toUInt16.toUInt32.toInt32)] [(.int 0),(.ref no102_0)] (fun _ k => st104.trans (XS.iconst X104.here hx rfl (hb hby at_168) (XS.icmpNo X104.here hx rfl (hb hby at_169) rfl (teq (by decide)).2 (XS.aload X104.here hx rfl (hb hby at_172) rfl rfl (XS.iconst X104.here hx rfl (hb hby at_174) k))))) ?_
          obtain ⟨cq105, kq105, q105a, q105b, q105c⟩ := isOf hZ eh104 eo102_0
          obtain ⟨v105, _, ⟨T105, L105, k105, n105⟩, -, X105, ⟨Lc105, hQ105, l105, y105, z105⟩, st105⟩ := X104.virtualBack hx (y := (⟨"java/lang/String", "charAt", "(I)C"⟩ : MethodName)) (z := (⟨"java/lang/String", "charAt", "(I)C"⟩ : MethodName)) hown (mvT hZ (oH hw 119 rfl)) (mvT hZ (oH hw 120 rfl)) (notFace_of_selects (args := #[]) (mvT hZ (oH hw 122 rfl))) (mvT hZ (oH hw 122 rfl)) (mvT hZ (oH hw 121 rfl)) (by decide) (backOf (W := 0) (rmz112 l Z a0 hw [] no102_0 na102_0 ka102_0 (own_hi (own_hs (own_d4 b0 b1 b2 b3))) (own_lo (own_hs (own_d4 b0 b1 b2 b3))) (own_hi (own_ls (own_d4 b0 b1 b2 b3))) (own_lo (own_ls (own_d4 b0 b1 b2 b3))) u8 zc fv T102.heap n0 Z102 eo102_0 g_no102_0 va102_0 g_na102_0 fo102_0_value fo102_0_coder nx103 c102_USS) hZ (oH hw 123 rfl) (oH hw 54 rfl) (by decide) (by decide)) q105a q105c (g := (mkF m 175 #[vI i0, vI cp, vI 4, vR b84, vI 4, vR b87, vR no102_0, vI (((55296 : Int32) + ((cp - (65536 : Int32)) >>> ((10 : Int32) &&& 31))).toUInt32.toUInt16.toUInt32.toInt32), vI (((56320 : Int32) + (cp &&& (1023 : Int32))).toUInt32.toUInt16.toUInt32.toInt32)] [(.int 0), (.ref no102_0)])) rfl (by rw [hml]; rfl) (Steps.refl _) (argsL := [(.int 0)]) (rest := []) (lenOf pd_374 rfl) rfl (by show 2 * 0 + _ ≤ _; exact Nat.le_of_eq rfl) (hb hby at_175) (fun _ _ => ⟨rfl, eh104, (by decide : 6 + 0 ≤ _), (by decide : 26 + 0 ≤ _)⟩)
          dsimp only [Pt.U, Pt.locs, Pt.cells, Pt.slots] at X105 l105 y105 z105 st105 hQ105
          subst l105 y105 z105
          obtain ⟨rfl, eh105, rfl⟩ := hQ105
          have N105 := Fr.app N104 (Fr.nil n0)
          refine oG m T105 180 #[vI i0,vI cp,vI 4,vR b84,vI 4,vR b87,vR no102_0,vI (((55296 : Int32) + ((cp - (65536 : Int32)) >>> ((10 : Int32) &&& 31))).toUInt32.toUInt16.toUInt32.toInt32),vI (((56320 : Int32) + (cp &&& (1023 : Int32))).toUInt32.toUInt16.toUInt32.toInt32)] [(.int (((55296 : Int32) + ((cp - (65536 : Int32)) >>> ((10 : Int32) &&& 31))).toUInt32.toUInt16.toUInt32.toInt32)),(.int (nar .char (nar .char (nar .char (((((own_hi (own_hs (own_d4 b0 b1 b2 b3))) &&& (255 : Int32)) <<< ((0 : Int32) &&& 31)) ||| (((own_lo (own_hs (own_d4 b0 b1 b2 b3))) &&& (255 : Int32)) <<< ((8 : Int32) &&& 31))).toUInt32.toUInt16.toUInt32.toInt32)))))] (fun _ k => st105.trans (XS.iload X105.here hx rfl (hb hby at_178) rfl k)) ?_
          have hp106 : (nar .char (nar .char (nar .char (((((own_hi (own_hs (own_d4 b0 b1 b2 b3))) &&& (255 : Int32)) <<< ((0 : Int32) &&& 31)) ||| (((own_lo (own_hs (own_d4 b0 b1 b2 b3))) &&& (255 : Int32)) <<< ((8 : Int32) &&& 31))).toUInt32.toUInt16.toUInt32.toInt32)))) = (((55296 : Int32) + ((cp - (65536 : Int32)) >>> ((10 : Int32) &&& 31))).toUInt32.toUInt16.toUInt32.toInt32) := (by rw [own_d4v b0 b1 b2 b3 cp hlo hhi tb0 tb1 tb2 tb3]; have a0 := own_hsv cp hlo hhi; have a1 := own_hil cp hlo hhi; rw [own_gp (own_hs cp) (by omega) (by omega)]; simp only [own_nch (own_hs cp) (by omega) (by omega)]; rw [own_i2c _ (by omega) (by omega), ← Int32.toInt_inj]; omega)
          refine oG m T105 186 #[vI i0,vI cp,vI 4,vR b84,vI 4,vR b87,vR no102_0,vI (((55296 : Int32) + ((cp - (65536 : Int32)) >>> ((10 : Int32) &&& 31))).toUInt32.toUInt16.toUInt32.toInt32),vI (((56320 : Int32) + (cp &&& (1023 : Int32))).toUInt32.toUInt16.toUInt32.toInt32)] [(.int 1),(.ref no102_0)] (fun _ k => XS.icmpNo X105.here hx rfl (hb hby at_180) rfl (teq hp106).2 (XS.aload X105.here hx rfl (hb hby at_183) rfl rfl (XS.iconst X105.here hx rfl (hb hby at_185) k))) ?_
          obtain ⟨cq107, kq107, q107a, q107b, q107c⟩ := isOf hZ eh105 eo102_0
          obtain ⟨v107, _, ⟨T107, L107, k107, n107⟩, -, X107, ⟨Lc107, hQ107, l107, y107, z107⟩, st107⟩ := X105.virtualBack hx (y := (⟨"java/lang/String", "charAt", "(I)C"⟩ : MethodName)) (z := (⟨"java/lang/String", "charAt", "(I)C"⟩ : MethodName)) hown (mvT hZ (oH hw 119 rfl)) (mvT hZ (oH hw 120 rfl)) (notFace_of_selects (args := #[]) (mvT hZ (oH hw 122 rfl))) (mvT hZ (oH hw 122 rfl)) (mvT hZ (oH hw 121 rfl)) (by decide) (backOf (W := 0) (rmz116 l Z a0 hw [] no102_0 na102_0 ka102_0 (own_hi (own_hs (own_d4 b0 b1 b2 b3))) (own_lo (own_hs (own_d4 b0 b1 b2 b3))) (own_hi (own_ls (own_d4 b0 b1 b2 b3))) (own_lo (own_ls (own_d4 b0 b1 b2 b3))) u8 zc fv T102.heap n0 Z102 eo102_0 g_no102_0 va102_0 g_na102_0 fo102_0_value fo102_0_coder nx103 c102_USS) hZ (oH hw 123 rfl) (oH hw 54 rfl) (by decide) (by decide)) q107a q107c (g := (mkF m 186 #[vI i0, vI cp, vI 4, vR b84, vI 4, vR b87, vR no102_0, vI (((55296 : Int32) + ((cp - (65536 : Int32)) >>> ((10 : Int32) &&& 31))).toUInt32.toUInt16.toUInt32.toInt32), vI (((56320 : Int32) + (cp &&& (1023 : Int32))).toUInt32.toUInt16.toUInt32.toInt32)] [(.int 1), (.ref no102_0)])) rfl (by rw [hml]; rfl) (Steps.refl _) (argsL := [(.int 1)]) (rest := []) (lenOf pd_374 rfl) rfl (by show 2 * 0 + _ ≤ _; exact Nat.le_of_eq rfl) (hb hby at_186) (fun _ _ => ⟨rfl, eh105, (by decide : 6 + 0 ≤ _), (by decide : 26 + 0 ≤ _)⟩)
          dsimp only [Pt.U, Pt.locs, Pt.cells, Pt.slots] at X107 l107 y107 z107 st107 hQ107
          subst l107 y107 z107
          obtain ⟨rfl, eh107, rfl⟩ := hQ107
          have N107 := Fr.app N105 (Fr.nil n0)
          refine oG m T107 191 #[vI i0,vI cp,vI 4,vR b84,vI 4,vR b87,vR no102_0,vI (((55296 : Int32) + ((cp - (65536 : Int32)) >>> ((10 : Int32) &&& 31))).toUInt32.toUInt16.toUInt32.toInt32),vI (((56320 : Int32) + (cp &&& (1023 : Int32))).toUInt32.toUInt16.toUInt32.toInt32)] [(.int (((56320 : Int32) + (cp &&& (1023 : Int32))).toUInt32.toUInt16.toUInt32.toInt32)),(.int (nar .char (nar .char (nar .char (((((own_hi (own_ls (own_d4 b0 b1 b2 b3))) &&& (255 : Int32)) <<< ((0 : Int32) &&& 31)) ||| (((own_lo (own_ls (own_d4 b0 b1 b2 b3))) &&& (255 : Int32)) <<< ((8 : Int32) &&& 31))).toUInt32.toUInt16.toUInt32.toInt32)))))] (fun _ k => st107.trans (XS.iload X107.here hx rfl (hb hby at_189) rfl k)) ?_
          have hp108 : (nar .char (nar .char (nar .char (((((own_hi (own_ls (own_d4 b0 b1 b2 b3))) &&& (255 : Int32)) <<< ((0 : Int32) &&& 31)) ||| (((own_lo (own_ls (own_d4 b0 b1 b2 b3))) &&& (255 : Int32)) <<< ((8 : Int32) &&& 31))).toUInt32.toUInt16.toUInt32.toInt32)))) = (((56320 : Int32) + (cp &&& (1023 : Int32))).toUInt32.toUInt16.toUInt32.toInt32) := (by rw [own_d4v b0 b1 b2 b3 cp hlo hhi tb0 tb1 tb2 tb3]; have a0 := own_lsv cp; have a1 := own_lol cp; rw [own_gp (own_ls cp) (by omega) (by omega)]; simp only [own_nch (own_ls cp) (by omega) (by omega)]; rw [own_i2c _ (by omega) (by omega), ← Int32.toInt_inj]; omega)
          refine oG m T107 199 #[vI i0,vI cp,vI 4,vR b84,vI 4,vR b87,vR no102_0,vI (((55296 : Int32) + ((cp - (65536 : Int32)) >>> ((10 : Int32) &&& 31))).toUInt32.toUInt16.toUInt32.toInt32),vI (((56320 : Int32) + (cp &&& (1023 : Int32))).toUInt32.toUInt16.toUInt32.toInt32)] [(.int 1)] (fun _ k => XS.icmpNo X107.here hx rfl (hb hby at_191) rfl (teq hp108).2 (XS.iconst X107.here hx rfl (hb hby at_194) (XS.goto X107.here hx rfl (pc0 := 195) (pc' := 199) rfl (hb hby at_195) (by decide) (by decide) k))) ?_
          refine own_retN (t := .boolean) X107 hx hlk (by simp) Bd.returns (hb hby at_199) (by decide) (by decide) ?_
          exact ⟨rfl, N107⟩
  have hr1 := c_andS i0 (2147483647 : Int32)
  have hr2 := c_irem (i0 &&& (2147483647 : Int32)) (1114112 : Int32) 1114112 (by decide)
  have hr3 := hr2.1 (hr1.2.2 (by decide))
  refine oG m s₁ 1 #[vI i0,oU,oU,oU,oU,oU,oU,oU,oU] [(.int i0)] (fun _ k => XS.iloadN X0.here hx rfl (hb hby at_0) rfl k) ?_
  refine oG m s₁ 4 #[vI i0,oU,oU,oU,oU,oU,oU,oU,oU] [(.int (i0 &&& (2147483647 : Int32)))] (fun _ k => (X0.ldcInt hx hown (mvT hZ (oH hw 0 rfl)) (g := (mkF m 1 #[vI i0,oU,oU,oU,oU,oU,oU,oU,oU] [(.int i0)])) rfl (hb hby at_1)) _ (XS.iand X0.here hx rfl (hb hby at_3) rfl k)) ?_
  refine oG m s₁ 9 #[vI i0,vI ((i0 &&& (2147483647 : Int32)) % (1114112 : Int32)),oU,oU,oU,oU,oU,oU,oU] [(.int ((i0 &&& (2147483647 : Int32)) % (1114112 : Int32)))] (fun _ k => (X0.ldcInt hx hown (mvT hZ (oH hw 1 rfl)) (g := (mkF m 4 #[vI i0,oU,oU,oU,oU,oU,oU,oU,oU] [(.int (i0 &&& (2147483647 : Int32)))])) rfl (hb hby at_4)) _ (iremM X0 hx (g := (mkF m 6 #[vI i0,oU,oU,oU,oU,oU,oU,oU,oU] [(.int 1114112),(.int (i0 &&& (2147483647 : Int32)))])) rfl (hb hby at_6) rfl (by decide) (XS.istoreN X0.here hx rfl (hb hby at_7) rfl (l' := #[vI i0,vI ((i0 &&& (2147483647 : Int32)) % (1114112 : Int32)),oU,oU,oU,oU,oU,oU,oU]) rfl (XS.iloadN X0.here hx rfl (hb hby at_8) rfl k)))) ?_
  refine oG m s₁ 11 #[vI i0,vI ((i0 &&& (2147483647 : Int32)) % (1114112 : Int32)),oU,oU,oU,oU,oU,oU,oU] [(.int 55296),(.int ((i0 &&& (2147483647 : Int32)) % (1114112 : Int32)))] (fun _ k => (X0.ldcInt hx hown (mvT hZ (oH hw 2 rfl)) (g := (mkF m 9 #[vI i0,vI ((i0 &&& (2147483647 : Int32)) % (1114112 : Int32)),oU,oU,oU,oU,oU,oU,oU] [(.int ((i0 &&& (2147483647 : Int32)) % (1114112 : Int32)))])) rfl (hb hby at_9)) _ k) ?_
  by_cases qa : ((i0 &&& (2147483647 : Int32)) % (1114112 : Int32)) < (55296 : Int32)
  · refine oG m s₁ 26 #[vI i0,vI ((i0 &&& (2147483647 : Int32)) % (1114112 : Int32)),oU,oU,oU,oU,oU,oU,oU] [] (fun _ k => XS.icmpYes X0.here hx rfl (pc0 := 11) (pc' := 26) rfl (hb hby at_11) rfl (tlt qa).1 (by decide) (by decide) k) ?_
    have n1 := own_ltr qa (by decide : (55296 : Int32).toInt = 55296)
    exact K26 _ (by omega) (by omega) (by omega)
  · refine oG m s₁ 14 #[vI i0,vI ((i0 &&& (2147483647 : Int32)) % (1114112 : Int32)),oU,oU,oU,oU,oU,oU,oU] [] (fun _ k => XS.icmpNo X0.here hx rfl (hb hby at_11) rfl (flt qa).1 k) ?_
    have n1 := own_nltr qa (by decide : (55296 : Int32).toInt = 55296)
    refine oG m s₁ 15 #[vI i0,vI ((i0 &&& (2147483647 : Int32)) % (1114112 : Int32)),oU,oU,oU,oU,oU,oU,oU] [(.int ((i0 &&& (2147483647 : Int32)) % (1114112 : Int32)))] (fun _ k => XS.iloadN X0.here hx rfl (hb hby at_14) rfl k) ?_
    refine oG m s₁ 17 #[vI i0,vI ((i0 &&& (2147483647 : Int32)) % (1114112 : Int32)),oU,oU,oU,oU,oU,oU,oU] [(.int 57343),(.int ((i0 &&& (2147483647 : Int32)) % (1114112 : Int32)))] (fun _ k => (X0.ldcInt hx hown (mvT hZ (oH hw 139 rfl)) (g := (mkF m 15 #[vI i0,vI ((i0 &&& (2147483647 : Int32)) % (1114112 : Int32)),oU,oU,oU,oU,oU,oU,oU] [(.int ((i0 &&& (2147483647 : Int32)) % (1114112 : Int32)))])) rfl (hb hby at_15)) _ k) ?_
    by_cases qc : (57343 : Int32) < ((i0 &&& (2147483647 : Int32)) % (1114112 : Int32))
    · refine oG m s₁ 26 #[vI i0,vI ((i0 &&& (2147483647 : Int32)) % (1114112 : Int32)),oU,oU,oU,oU,oU,oU,oU] [] (fun _ k => XS.icmpYes X0.here hx rfl (pc0 := 17) (pc' := 26) rfl (hb hby at_17) rfl (tlt qc).2.2.1 (by decide) (by decide) k) ?_
      have n2 := own_ltl qc (by decide : (57343 : Int32).toInt = 57343)
      exact K26 _ (by omega) (by omega) (by omega)
    · refine oG m s₁ 26 #[vI i0,vI (((i0 &&& (2147483647 : Int32)) % (1114112 : Int32)) - (2048 : Int32)),oU,oU,oU,oU,oU,oU,oU] [] (fun _ k => XS.icmpNo X0.here hx rfl (hb hby at_17) rfl (flt qc).2.2.1 (XS.iloadN X0.here hx rfl (hb hby at_20) rfl (XS.sipush X0.here hx rfl (hb hby at_21) (XS.isub X0.here hx rfl (hb hby at_24) rfl (XS.istoreN X0.here hx rfl (hb hby at_25) rfl (l' := #[vI i0,vI (((i0 &&& (2147483647 : Int32)) % (1114112 : Int32)) - (2048 : Int32)),oU,oU,oU,oU,oU,oU,oU]) rfl k))))) ?_
      have n2 := own_nltl qc (by decide : (57343 : Int32).toInt = 57343)
      have n3 := c_isub ((i0 &&& (2147483647 : Int32)) % (1114112 : Int32)) (2048 : Int32)
      have n4 := rng32 (((i0 &&& (2147483647 : Int32)) % (1114112 : Int32)) - (2048 : Int32))
      have n5 : (2048 : Int32).toInt = 2048 := by decide
      exact K26 _ (by omega) (by omega) (by omega)
theorem comes_1 {Post : Tables → Env → Array Value → State → Outcome → State → Prop} (hpost : ∀ tb e args s v u, (limb_1_1.after args s (.returned v) u = true ∧ limb_1_2.after args s (.returned v) u = true ∧ True) → FrameEnd s (.returned v) u (Jvm.fieldLocs frame_1_writes args s ++ Jvm.arrayLocs frame_1_arrays args s ++ Jvm.staticLocs frame_1_statics s) 24 128 → Post tb e args s (.returned v) u) :
    ArmFor flags0 classFile x code maxLocals ret World_1 tables_1 room_1 Calls_1 rest_1 Pre_1 Post := by
  intro l hfl _ _ p e ha hc hk s m args below hf hA hF happ hP
  obtain ⟨hcalls, hrest, hpre⟩ := hP
  obtain ⟨-, -, -, hnamed, -, -, -, hat⟩ := (Spec.applies_iff hf).mp happ
  obtain ⟨hg, hn⟩ := and_e (Cond.before_iff.mp (show (Jvm.Cond.and given_1 narrow_1).before args s = true from hpre))
  obtain ⟨h1, h2⟩ := and_e hg
  obtain ⟨w0, rfl⟩ : ∃ w0 : Value, args = #[w0] := by
    have hs : args.size = 1 := by simpa [Cond.value, given_1] using h1
    obtain ⟨L⟩ := args
    match L, hs with
    | [w0], _ => exact ⟨w0, rfl⟩
  have hw := fun d (hd : d ∈ tables_1) => atoms_spec (ws := Jvm.Cond.code x code maxLocals ret :: tables_1) hat d (List.mem_cons_of_mem _ hd)
  have hfit : Fit s := fun {y c} hc i hi => by
    obtain ⟨ha, rfl⟩ := Array.getElem?_eq_some_iff.mp hc
    have q := List.all_eq_true.mp ((Array.all_eq_true_iff_forall_mem.mp hF) _ (Array.getElem_mem ha)) i (List.mem_range.mpr hi)
    simpa [Array.getElem?_eq_getElem hi] using q
  obtain ⟨i0, ev0⟩ := is_v h2
  obtain rfl : w0 = (.int i0) := Option.some.inj ev0
  obtain ⟨j0, jr0⟩ := and_e (Cond.before_iff.mp (show rest_1_c.before _ s = true from hrest))
  obtain ⟨j1, jr1⟩ := and_e jr0
  obtain ⟨j2, jr2⟩ := and_e jr1
  obtain ⟨j3, jr3⟩ := and_e jr2
  obtain ⟨j4, jr4⟩ := and_e jr3
  obtain ⟨j5, jr5⟩ := and_e jr4
  obtain ⟨j6, jr6⟩ := and_e jr5
  obtain ⟨j7, jr7⟩ := and_e jr6
  obtain ⟨j8, jr8⟩ := and_e jr7
  obtain ⟨j9, jr9⟩ := and_e jr8
  obtain ⟨j10, jr10⟩ := and_e jr9
  obtain ⟨j11, jr11⟩ := and_e jr10
  obtain ⟨j12, jr12⟩ := and_e jr11
  obtain ⟨j13, jr13⟩ := and_e jr12
  obtain ⟨j14, jr14⟩ := and_e jr13
  obtain ⟨j15, jr15⟩ := and_e jr14
  obtain ⟨j16, jr16⟩ := and_e jr15
  obtain ⟨j17, jr17⟩ := and_e jr16
  obtain ⟨j18, jr18⟩ := and_e jr17
  obtain ⟨j19, jr19⟩ := and_e jr18
  obtain ⟨j20, jr20⟩ := and_e jr19
  obtain ⟨j21, jr21⟩ := and_e jr20
  obtain ⟨j22, jr22⟩ := and_e jr21
  obtain ⟨j23, jr23⟩ := and_e jr22
  obtain ⟨j24, jr24⟩ := and_e jr23
  obtain ⟨j25, jr25⟩ := and_e jr24
  obtain ⟨j26, jr26⟩ := and_e jr25
  obtain ⟨j27, jr27⟩ := and_e jr26
  obtain ⟨u8, evU⟩ := exa_v j5
  have e_u := Exa.start evU j5
  have s_U := Sta.start evU (Or.inl (Cond.before_iff.mpr j1))
  have evI := own_eqRef evU j4
  have s_I := Sta.start evI (Or.inl (Cond.before_iff.mpr j3))
  obtain ⟨zc, evC⟩ := is_v j7
  have s_C := Sta.start evC (Or.inl (Cond.before_iff.mpr j6))
  have hzc := own_neInt evC j8
  obtain ⟨fv, evF, hfr, hfc⟩ := own_isRef j14
  have s_F := Sta.start evF (Or.inl (Cond.before_iff.mpr j13))
  have s_A := Sta.start (own_eqInt j21) (Or.inl (Cond.before_iff.mpr j20))
  have s_H := Sta.start (own_eqInt j24) (Or.inl (Cond.before_iff.mpr j23))
  have s_L := Sta.start (own_eqInt j27) (Or.inl (Cond.before_iff.mpr j26))
  have SS : own_Sx s s.heap u8 zc fv := ⟨⟨s_U, s_I, s_C, s_F, s_A, s_H, s_L⟩, e_u, hzc, hfr, hfc⟩
  obtain ⟨n, o, h1, h2, h3, _, L, rfl, ⟨rfl, N⟩, hq⟩ := rm0 l s _ hw tables_1 i0 u8 zc fv s.heap s.heap.size (Nat.le_refl _) SS p e ha hc hk s m _ below hf ((Spec.applies_iff_loose hf).mp happ).1 ⟨rfl, State.Warmed39.refl s, rfl⟩ trivial
  refine ⟨n, _, h1, h2, h3, hpost _ _ _ _ _ _ ⟨Cond.after_iff.mpr rfl, Cond.after_iff.mpr (eq_i res_at (Term.int_eval (1)) rfl), trivial⟩ ⟨hq.1, hq.2.1, (hq.2.2.sift fun y hy => Or.inr (N y hy)).mono (by decide) (by decide)⟩⟩
theorem main_1_1 : Claimed_1_1 := comes_1 fun _ _ _ _ _ _ h hF => ⟨h.1, hF⟩
theorem main_1_2 : Claimed_1_2 := comes_1 fun _ _ _ _ _ _ h hF => ⟨h.2.1, hF⟩
end Jvm.Pilot.@@N@@
namespace Jvm.Pilot.@@N@@
open Jvm Jvm.ClassFile Sem Op Lib Jvm.Free Jvm.Stand Jvm.Pilot.@@N@@.Jvm.D
/-! MADE BY PROGRAM (witnessworld.py) out of the Statement's table words and the real class files: 29 classes; the members and pool entries that the words name. The judged class is class 1, her method 1. -/
namespace start1
open Jvm.ClassFile
def u (s : String) : CpInfo := .utf8 (stringToUtf16 s)
/-- a pool by its gaps: so many unusable entries, then the entry; so many at the end -/
def gap : Nat → List CpInfo → List CpInfo
  | 0, r => r
  | n + 1, r => .unusable :: gap n r
def poolList (es : List (Nat × CpInfo)) (last : Nat) : List CpInfo := es.foldr (fun e r => gap e.1 (e.2 :: r)) (gap last [])
def pool (es : List (Nat × CpInfo)) (last : Nat) : Array CpInfo := ⟨poolList es last⟩
def fileOf (pool : Array CpInfo) (this : Nat) (attrs : Array Attribute := #[]) (ms : Array MethodInfo := #[]) (fl : Nat := 33) (sup : Nat := 0) (ifs : Array Nat := #[]) (fds : Array FieldInfo := #[]) : ClassFile where
  minorVersion := 0
  majorVersion := 65
  constantPool := pool
  accessFlags := fl
  thisClass := this
  superClass := sup
  interfaces := ifs
  fields := fds
  methods := ms
  attributes := attrs
def plain (name : String) (sup : Option ClassId) : Class where
  name := name
  kind := .ordinary
  loader := none
  accessFlags := 33
  super := sup
  interfaces := #[]
  cf := none
  fields := #[]
  methods := #[]
  instanceTypes := #[]
  staticTypes := #[]
  resolved := #[]
  callSites := []
  init := .initialized
  statics := none
  mirror := none

def pool0 : Array CpInfo := pool [(5, u "<init>"), (0, u "()V"), (1, .class_ 10), (1, u "java/lang/Object"), (85, u "clone"), (0, u "()Ljava/lang/Object;")] 26

def k0c0 : Code := { maxStack := 0, maxLocals := 1, code := object_method_1_code, exceptionTable := #[], attributes := #[] }
def k0m0 : Method := { name := "<init>", desc := "()V", sig := { parameters := [], returnType := none }, accessFlags := 1, code := some k0c0 }
def k0m1 : Method := { name := "clone", desc := "()Ljava/lang/Object;", sig := { parameters := [], returnType := some (.object "java/lang/Object") }, accessFlags := 260, code := none }
/-- java/lang/Object -/
def k0 : Class := { plain "java/lang/Object" none with
  accessFlags := 33
  interfaces := #[]
  cf := some (fileOf pool0 8 #[] #[{ accessFlags := 1, nameIndex := 5, descriptorIndex := 6, attributes := #[] }, { accessFlags := 260, nameIndex := 96, descriptorIndex := 97, attributes := #[] }] 33 0 #[] #[])
  fields := #[]
  methods := #[k0m0, k0m1]
  instanceTypes := #[]
  staticTypes := #[]
  resolved := Array.replicate 124 none
  statics := none }

def pool1 : Array CpInfo := pool [(2, .class_ 4), (1, u "java/lang/Object"), (0, u "<init>"), (0, u "()V"), (0, .integer 2147483647), (0, .integer 1114112), (0, .integer 55296), (0, .integer 57343), (0, .methodref 12 13), (0, .class_ 14), (0, .nameAndType 15 16), (0, u "clearcut/Text"), (0, u "encodedSize"), (0, u "(I)I"), (0, .methodref 12 18), (0, .nameAndType 19 20), (0, u "encode"), (0, u "(I[BI)I"), (0, .methodref 12 22), (0, .nameAndType 5 23), (0, u "([BI)V"), (0, .methodref 12 25), (0, .nameAndType 26 16), (0, u "next"), (0, .methodref 12 28), (0, .nameAndType 29 16), (0, u "codePointAt"), (0, .methodref 12 31), (0, .nameAndType 32 33), (0, u "substring"), (0, u "(II)Ljava/lang/String;"), (0, .integer 65536), (0, .methodref 36 37), (0, .class_ 38), (0, .nameAndType 39 40), (0, u "java/lang/String"), (0, u "length"), (0, u "()I"), (0, .methodref 36 42), (0, .nameAndType 43 44), (0, u "charAt"), (0, u "(I)C"), (0, .integer 56320), (0, .class_ 47), (0, u "clearcut/TextEncodedSizePinLaw"), (2, u "law"), (0, u "(I)Z")] 5

def k1m0 : Method := { name := "<init>", desc := "()V", sig := { parameters := [], returnType := none }, accessFlags := 1, code := none }
def k1c1 : Code := { maxStack := 4, maxLocals := 9, code := code, exceptionTable := #[], attributes := #[] }
def k1m1 : Method := { name := "law", desc := "(I)Z", sig := { parameters := [.int], returnType := some .boolean }, accessFlags := 9, code := some k1c1 }
/-- clearcut/TextEncodedSizePinLaw -/
def k1 : Class := { plain "clearcut/TextEncodedSizePinLaw" (some 0) with
  accessFlags := 49
  interfaces := #[]
  cf := some (fileOf pool1 46 #[] #[{ accessFlags := 1, nameIndex := 5, descriptorIndex := 6, attributes := #[] }, { accessFlags := 9, nameIndex := 50, descriptorIndex := 51, attributes := #[] }] 49 2 #[] #[])
  fields := #[]
  methods := #[k1m0, k1m1]
  instanceTypes := #[]
  staticTypes := #[]
  resolved := Array.replicate 57 none
  statics := none }

def pool2 : Array CpInfo := pool [(2, .class_ 4), (1, u "clearcut/Text"), (0, u "<init>"), (0, u "([BI)V"), (0, .methodref 8 9), (0, .class_ 10), (0, .nameAndType 5 11), (0, u "java/lang/Object"), (0, u "()V"), (0, .fieldref 2 13), (0, .nameAndType 14 15), (0, u "bytes"), (0, u "[B"), (0, .fieldref 2 17), (0, .nameAndType 18 19), (0, u "length"), (0, u "I"), (1, .class_ 23), (1, u "java/lang/String"), (5, .methodref 2 30), (0, .nameAndType 31 32), (0, u "at"), (0, u "(I)I"), (0, .methodref 2 34), (0, .nameAndType 35 32), (0, u "size"), (0, .integer 65536), (0, .methodref 2 38), (0, .nameAndType 39 32), (0, u "encodedSize"), (0, .integer 65280), (4, .methodref 2 46), (0, .nameAndType 47 48), (0, u "decode"), (0, u "(II)Ljava/lang/String;"), (16, u "next"), (23, .fieldref 90 91), (0, .class_ 92), (0, .nameAndType 93 94), (0, u "java/nio/charset/StandardCharsets"), (0, u "UTF_8"), (0, u "Ljava/nio/charset/Charset;"), (0, .methodref 21 96), (0, .nameAndType 5 97), (0, u "([BIILjava/nio/charset/Charset;)V"), (0, .class_ 99), (0, u "clearcut/Text$Joiner"), (3, u "PIECE"), (1, u "LATIN1_RUN"), (1, u "WIDE"), (7, u "codePointAt"), (0, u "encode"), (0, u "(I[BI)I"), (2, u "substring")] 12

def k2c0 : Code := { maxStack := 2, maxLocals := 3, code := prog_60_method_2_code, exceptionTable := #[], attributes := #[] }
def k2m0 : Method := { name := "<init>", desc := "([BI)V", sig := { parameters := [(.array .byte), .int], returnType := none }, accessFlags := 0, code := some k2c0 }
def k2c1 : Code := { maxStack := 2, maxLocals := 2, code := prog_60_method_4_code, exceptionTable := #[], attributes := #[] }
def k2m1 : Method := { name := "at", desc := "(I)I", sig := { parameters := [.int], returnType := some .int }, accessFlags := 0, code := some k2c1 }
def k2c2 : Code := { maxStack := 4, maxLocals := 6, code := prog_60_method_6_code, exceptionTable := #[], attributes := #[] }
def k2m2 : Method := { name := "codePointAt", desc := "(I)I", sig := { parameters := [.int], returnType := some .int }, accessFlags := 0, code := some k2c2 }
def k2c3 : Code := { maxStack := 3, maxLocals := 2, code := prog_60_method_7_code, exceptionTable := #[], attributes := #[] }
def k2m3 : Method := { name := "next", desc := "(I)I", sig := { parameters := [.int], returnType := some .int }, accessFlags := 0, code := some k2c3 }
def k2c4 : Code := { maxStack := 2, maxLocals := 1, code := prog_60_method_8_code, exceptionTable := #[], attributes := #[] }
def k2m4 : Method := { name := "size", desc := "(I)I", sig := { parameters := [.int], returnType := some .int }, accessFlags := 10, code := some k2c4 }
def k2c5 : Code := { maxStack := 2, maxLocals := 1, code := prog_60_method_9_code, exceptionTable := #[], attributes := #[] }
def k2m5 : Method := { name := "encodedSize", desc := "(I)I", sig := { parameters := [.int], returnType := some .int }, accessFlags := 8, code := some k2c5 }
def k2c6 : Code := { maxStack := 5, maxLocals := 6, code := prog_60_method_10_code, exceptionTable := #[], attributes := #[] }
def k2m6 : Method := { name := "encode", desc := "(I[BI)I", sig := { parameters := [.int, (.array .byte), .int], returnType := some .int }, accessFlags := 8, code := some k2c6 }
def k2c7 : Code := { maxStack := 4, maxLocals := 4, code := prog_60_method_13_code, exceptionTable := #[], attributes := #[] }
def k2m7 : Method := { name := "substring", desc := "(II)Ljava/lang/String;", sig := { parameters := [.int, .int], returnType := some (.object "java/lang/String") }, accessFlags := 0, code := some k2c7 }
def k2c8 : Code := { maxStack := 6, maxLocals := 3, code := prog_60_method_17_code, exceptionTable := #[], attributes := #[] }
def k2m8 : Method := { name := "decode", desc := "(II)Ljava/lang/String;", sig := { parameters := [.int, .int], returnType := some (.object "java/lang/String") }, accessFlags := 2, code := some k2c8 }
/-- clearcut/Text -/
def k2 : Class := { plain "clearcut/Text" (some 0) with
  accessFlags := 48
  interfaces := #[]
  cf := some (fileOf pool2 2 #[.nestMembers #[98]] #[{ accessFlags := 0, nameIndex := 5, descriptorIndex := 6, attributes := #[] }, { accessFlags := 0, nameIndex := 31, descriptorIndex := 32, attributes := #[] }, { accessFlags := 0, nameIndex := 115, descriptorIndex := 32, attributes := #[] }, { accessFlags := 0, nameIndex := 65, descriptorIndex := 32, attributes := #[] }, { accessFlags := 10, nameIndex := 35, descriptorIndex := 32, attributes := #[] }, { accessFlags := 8, nameIndex := 39, descriptorIndex := 32, attributes := #[] }, { accessFlags := 8, nameIndex := 116, descriptorIndex := 117, attributes := #[] }, { accessFlags := 0, nameIndex := 120, descriptorIndex := 48, attributes := #[] }, { accessFlags := 2, nameIndex := 47, descriptorIndex := 48, attributes := #[] }] 48 8 #[] #[{ accessFlags := 26, nameIndex := 103, descriptorIndex := 19, attributes := #[] }, { accessFlags := 26, nameIndex := 105, descriptorIndex := 19, attributes := #[] }, { accessFlags := 26, nameIndex := 107, descriptorIndex := 19, attributes := #[] }, { accessFlags := 18, nameIndex := 14, descriptorIndex := 15, attributes := #[] }, { accessFlags := 18, nameIndex := 18, descriptorIndex := 19, attributes := #[] }])
  fields := #[{ name := "PIECE", type := .int, accessFlags := 26, slot := 0, constantValue := 0 }, { name := "LATIN1_RUN", type := .int, accessFlags := 26, slot := 1, constantValue := 0 }, { name := "WIDE", type := .int, accessFlags := 26, slot := 2, constantValue := 0 }, { name := "bytes", type := (.array .byte), accessFlags := 18, slot := 0, constantValue := 0 }, { name := "length", type := .int, accessFlags := 18, slot := 1, constantValue := 0 }]
  methods := #[k2m0, k2m1, k2m2, k2m3, k2m4, k2m5, k2m6, k2m7, k2m8]
  instanceTypes := #[(.array .byte), .int]
  staticTypes := #[.int, .int, .int]
  resolved := Array.replicate 133 none
  statics := none }

def pool3 : Array CpInfo := pool [(1, .class_ 2), (0, u "java/io/Serializable"), (0, .class_ 4), (0, u "java/lang/Object")] 2

/-- java/io/Serializable -/
def k3 : Class := { plain "java/io/Serializable" (some 0) with
  accessFlags := 1537
  interfaces := #[]
  cf := some (fileOf pool3 1 #[] #[] 1537 3 #[] #[])
  fields := #[]
  methods := #[]
  instanceTypes := #[]
  staticTypes := #[]
  resolved := Array.replicate 7 none
  statics := none }

def pool4 : Array CpInfo := pool [(1, .class_ 2), (0, u "java/lang/Comparable"), (0, .class_ 4), (0, u "java/lang/Object")] 7

/-- java/lang/Comparable -/
def k4 : Class := { plain "java/lang/Comparable" (some 0) with
  accessFlags := 1537
  interfaces := #[]
  cf := some (fileOf pool4 1 #[] #[] 1537 3 #[] #[])
  fields := #[]
  methods := #[]
  instanceTypes := #[]
  staticTypes := #[]
  resolved := Array.replicate 12 none
  statics := none }

def pool5 : Array CpInfo := pool [(2, .class_ 4), (1, u "java/lang/CharSequence"), (42, .class_ 48), (0, u "java/lang/CharSequence$1CodePointIterator"), (10, .class_ 60), (0, u "java/lang/CharSequence$1CharIterator"), (5, .class_ 67), (0, u "java/lang/Object")] 63

/-- java/lang/CharSequence -/
def k5 : Class := { plain "java/lang/CharSequence" (some 0) with
  accessFlags := 1537
  interfaces := #[]
  cf := some (fileOf pool5 2 #[.nestMembers #[47, 59]] #[] 1537 66 #[] #[])
  fields := #[]
  methods := #[]
  instanceTypes := #[]
  staticTypes := #[]
  resolved := Array.replicate 131 none
  statics := none }

def pool6 : Array CpInfo := pool [(1, .class_ 2), (0, u "java/lang/constant/Constable"), (0, .class_ 4), (0, u "java/lang/Object")] 6

/-- java/lang/constant/Constable -/
def k6 : Class := { plain "java/lang/constant/Constable" (some 0) with
  accessFlags := 1537
  interfaces := #[]
  cf := some (fileOf pool6 1 #[] #[] 1537 3 #[] #[])
  fields := #[]
  methods := #[]
  instanceTypes := #[]
  staticTypes := #[]
  resolved := Array.replicate 11 none
  statics := none }

def pool7 : Array CpInfo := pool [(1, .class_ 2), (0, u "java/lang/constant/ConstantDesc"), (0, .class_ 4), (0, u "java/lang/Object")] 32

/-- java/lang/constant/ConstantDesc -/
def k7 : Class := { plain "java/lang/constant/ConstantDesc" (some 0) with
  accessFlags := 1537
  interfaces := #[]
  cf := some (fileOf pool7 1 #[] #[] 1537 3 #[] #[])
  fields := #[]
  methods := #[]
  instanceTypes := #[]
  staticTypes := #[]
  resolved := Array.replicate 37 none
  statics := none }

def pool8 : Array CpInfo := pool [(1, .methodref 2 3), (0, .class_ 4), (0, .nameAndType 5 6), (0, u "java/lang/Object"), (0, u "<init>"), (0, u "()V"), (2, .fieldref 10 11), (0, .class_ 12), (0, .nameAndType 13 14), (0, u "java/lang/String"), (0, u "value"), (0, u "[B"), (0, .fieldref 10 16), (0, .nameAndType 17 18), (0, u "coder"), (0, u "B"), (2, u "hash"), (0, u "I"), (2, u "hashIsZero"), (0, u "Z"), (7, .methodref 10 35), (0, .nameAndType 36 37), (0, u "checkBoundsOffCount"), (0, u "(III)I"), (0, .fieldref 10 39), (0, .nameAndType 40 26), (0, u "COMPACT_STRINGS"), (1, .class_ 44), (1, u "java/lang/StringUTF16"), (9, .methodref 55 56), (0, .class_ 57), (0, .nameAndType 58 59), (0, u "java/util/Arrays"), (0, u "copyOfRange"), (0, u "([BII)[B"), (0, .methodref 42 61), (0, .nameAndType 62 63), (0, u "newBytesFor"), (0, u "(I)[B"), (0, .methodref 42 65), (0, .nameAndType 66 67), (0, u "putChar"), (0, u "([BII)V"), (7, .methodref 10 76), (0, .nameAndType 5 77), (0, u "(Ljava/nio/charset/Charset;[BII)V"), (0, .methodref 79 80), (0, .class_ 81), (0, .nameAndType 82 83), (0, u "java/util/Objects"), (0, u "requireNonNull"), (0, u "(Ljava/lang/Object;)Ljava/lang/Object;"), (0, .class_ 85), (0, u "java/nio/charset/Charset"), (0, .fieldref 87 88), (0, .class_ 89), (0, .nameAndType 90 91), (0, u "sun/nio/cs/UTF_8"), (0, u "INSTANCE"), (0, u "Lsun/nio/cs/UTF_8;"), (0, .methodref 93 94), (0, .class_ 95), (0, .nameAndType 96 97), (0, u "java/lang/StringCoding"), (0, u "countPositives"), (0, u "([BII)I"), (0, .methodref 10 99), (0, .nameAndType 100 101), (0, u "decode2"), (0, u "(II)C"), (0, .methodref 55 103), (0, .nameAndType 104 105), (0, u "copyOf"), (0, u "([BI)[B"), (0, .methodref 107 108), (0, .class_ 109), (0, .nameAndType 110 111), (0, u "java/lang/StringLatin1"), (0, u "inflate"), (0, u "([BI[BII)V"), (0, .methodref 10 113), (0, .nameAndType 114 115), (0, u "decodeUTF8_UTF16"), (0, u "([BII[BIZ)I"), (26, u "()Z"), (95, u "([BIILjava/nio/charset/Charset;)V"), (95, u "()I"), (0, .methodref 10 336), (0, .nameAndType 17 337), (0, u "()B"), (25, u "([BI)C"), (1, .class_ 367), (1, u "java/lang/Character"), (1, u "(C)Z"), (13, .integer 4294844288), (0, .integer 3678080), (0, .methodref 10 386), (0, .nameAndType 387 388), (0, u "isNotContinuation"), (0, u "(I)Z"), (2, u "(II)V"), (0, .methodref 10 393), (0, .nameAndType 394 395), (0, u "isMalformed3"), (0, u "(III)Z"), (4, .methodref 10 401), (0, .nameAndType 402 403), (0, u "decode3"), (0, u "(III)C"), (0, .methodref 365 405), (0, .nameAndType 406 369), (0, u "isSurrogate"), (4, .methodref 10 412), (0, .nameAndType 413 414), (0, u "decode4"), (0, u "(IIII)I"), (0, .methodref 10 416), (0, .nameAndType 417 395), (0, u "isMalformed4"), (0, .methodref 365 419), (0, .nameAndType 420 388), (0, u "isSupplementaryCodePoint"), (3, .methodref 365 425), (0, .nameAndType 426 427), (0, u "highSurrogate"), (0, u "(I)C"), (0, .methodref 365 429), (0, .nameAndType 430 427), (0, u "lowSurrogate"), (61, .methodref 10 493), (0, .nameAndType 494 142), (0, u "isLatin1"), (0, .methodref 107 496), (0, .nameAndType 497 363), (0, u "charAt"), (0, .methodref 42 496), (2, u "checkIndex"), (5, u "length"), (67, .class_ 576), (0, u "java/lang/CharSequence"), (22, u "CASE_INSENSITIVE_ORDER"), (0, u "Ljava/util/Comparator;"), (452, .fieldref 1054 1055), (0, .class_ 1056), (0, .nameAndType 1057 1058), (0, u "jdk/internal/util/Preconditions"), (0, u "SIOOBE_FORMATTER"), (0, u "Ljava/util/function/BiFunction;"), (0, .methodref 1054 1060), (0, .nameAndType 501 1061), (0, u "(IILjava/util/function/BiFunction;)I"), (2, u "(IIILjava/util/function/BiFunction;)I"), (0, .methodref 1054 1066), (0, .nameAndType 1067 1064), (0, u "checkFromIndexSize"), (33, u "serialPersistentFields"), (0, u "[Ljava/io/ObjectStreamField;"), (0, .class_ 1104), (0, u "java/lang/String$CaseInsensitiveComparator"), (1, .class_ 1107), (0, u "java/io/Serializable"), (0, .class_ 1109), (0, u "java/lang/Comparable"), (0, .class_ 1111), (0, u "java/lang/constant/Constable"), (0, .class_ 1113), (0, u "java/lang/constant/ConstantDesc"), (2, u "serialVersionUID"), (0, u "J"), (3, u "REPL"), (0, u "C"), (2, u "LATIN1"), (1, u "UTF16")] 323

def k8m0 : Method := { name := "<init>", desc := "()V", sig := { parameters := [], returnType := none }, accessFlags := 1, code := none }
def k8c1 : Code := { maxStack := 6, maxLocals := 5, code := jdk_42_method_10_code, exceptionTable := #[], attributes := #[] }
def k8m1 : Method := { name := "<init>", desc := "([BIILjava/nio/charset/Charset;)V", sig := { parameters := [(.array .byte), .int, .int, (.object "java/nio/charset/Charset")], returnType := none }, accessFlags := 1, code := some k8c1 }
def k8c2 : Code := { maxStack := 6, maxLocals := 11, code := jdk_42_method_11_code, exceptionTable := #[{ startPc := 800, endPc := 813, handlerPc := 816, catchType := 202 }], attributes := #[] }
def k8m2 : Method := { name := "<init>", desc := "(Ljava/nio/charset/Charset;[BII)V", sig := { parameters := [(.object "java/nio/charset/Charset"), (.array .byte), .int, .int], returnType := none }, accessFlags := 2, code := some k8c2 }
def k8c3 : Code := { maxStack := 2, maxLocals := 1, code := jdk_42_method_29_code, exceptionTable := #[], attributes := #[] }
def k8m3 : Method := { name := "isNotContinuation", desc := "(I)Z", sig := { parameters := [.int], returnType := some .boolean }, accessFlags := 10, code := some k8c3 }
def k8c4 : Code := { maxStack := 2, maxLocals := 3, code := jdk_42_method_30_code, exceptionTable := #[], attributes := #[] }
def k8m4 : Method := { name := "isMalformed3", desc := "(III)Z", sig := { parameters := [.int, .int, .int], returnType := some .boolean }, accessFlags := 10, code := some k8c4 }
def k8c5 : Code := { maxStack := 2, maxLocals := 3, code := jdk_42_method_32_code, exceptionTable := #[], attributes := #[] }
def k8m5 : Method := { name := "isMalformed4", desc := "(III)Z", sig := { parameters := [.int, .int, .int], returnType := some .boolean }, accessFlags := 10, code := some k8c5 }
def k8c6 : Code := { maxStack := 2, maxLocals := 2, code := jdk_42_method_35_code, exceptionTable := #[], attributes := #[] }
def k8m6 : Method := { name := "decode2", desc := "(II)C", sig := { parameters := [.int, .int], returnType := some .char }, accessFlags := 10, code := some k8c6 }
def k8c7 : Code := { maxStack := 3, maxLocals := 3, code := jdk_42_method_36_code, exceptionTable := #[], attributes := #[] }
def k8m7 : Method := { name := "decode3", desc := "(III)C", sig := { parameters := [.int, .int, .int], returnType := some .char }, accessFlags := 10, code := some k8c7 }
def k8c8 : Code := { maxStack := 3, maxLocals := 4, code := jdk_42_method_37_code, exceptionTable := #[], attributes := #[] }
def k8m8 : Method := { name := "decode4", desc := "(IIII)I", sig := { parameters := [.int, .int, .int, .int], returnType := some .int }, accessFlags := 10, code := some k8c8 }
def k8c9 : Code := { maxStack := 4, maxLocals := 11, code := jdk_42_method_38_code, exceptionTable := #[], attributes := #[] }
def k8m9 : Method := { name := "decodeUTF8_UTF16", desc := "([BII[BIZ)I", sig := { parameters := [(.array .byte), .int, .int, (.array .byte), .int, .boolean], returnType := some .int }, accessFlags := 10, code := some k8c9 }
def k8c10 : Code := { maxStack := 2, maxLocals := 1, code := jdk_42_method_54_code, exceptionTable := #[], attributes := #[] }
def k8m10 : Method := { name := "length", desc := "()I", sig := { parameters := [], returnType := some .int }, accessFlags := 1, code := some k8c10 }
def k8c11 : Code := { maxStack := 2, maxLocals := 2, code := jdk_42_method_56_code, exceptionTable := #[], attributes := #[] }
def k8m11 : Method := { name := "charAt", desc := "(I)C", sig := { parameters := [.int], returnType := some .char }, accessFlags := 1, code := some k8c11 }
def k8c12 : Code := { maxStack := 1, maxLocals := 1, code := jdk_42_method_152_code, exceptionTable := #[], attributes := #[] }
def k8m12 : Method := { name := "coder", desc := "()B", sig := { parameters := [], returnType := some .byte }, accessFlags := 0, code := some k8c12 }
def k8c13 : Code := { maxStack := 1, maxLocals := 1, code := jdk_42_method_154_code, exceptionTable := #[], attributes := #[] }
def k8m13 : Method := { name := "isLatin1", desc := "()Z", sig := { parameters := [], returnType := some .boolean }, accessFlags := 0, code := some k8c13 }
def k8c14 : Code := { maxStack := 3, maxLocals := 2, code := jdk_42_method_155_code, exceptionTable := #[], attributes := #[] }
def k8m14 : Method := { name := "checkIndex", desc := "(II)V", sig := { parameters := [.int, .int], returnType := none }, accessFlags := 8, code := some k8c14 }
def k8c15 : Code := { maxStack := 4, maxLocals := 3, code := jdk_42_method_157_code, exceptionTable := #[], attributes := #[] }
def k8m15 : Method := { name := "checkBoundsOffCount", desc := "(III)I", sig := { parameters := [.int, .int, .int], returnType := some .int }, accessFlags := 8, code := some k8c15 }
/-- java/lang/String -/
def k8 : Class := { plain "java/lang/String" (some 0) with
  accessFlags := 49
  interfaces := #[3, 4, 5, 6, 7]
  cf := some (fileOf pool8 10 #[.nestMembers #[1103]] #[{ accessFlags := 1, nameIndex := 5, descriptorIndex := 6, attributes := #[] }, { accessFlags := 1, nameIndex := 5, descriptorIndex := 238, attributes := #[] }, { accessFlags := 2, nameIndex := 5, descriptorIndex := 77, attributes := #[] }, { accessFlags := 10, nameIndex := 387, descriptorIndex := 388, attributes := #[] }, { accessFlags := 10, nameIndex := 394, descriptorIndex := 395, attributes := #[] }, { accessFlags := 10, nameIndex := 417, descriptorIndex := 395, attributes := #[] }, { accessFlags := 10, nameIndex := 100, descriptorIndex := 101, attributes := #[] }, { accessFlags := 10, nameIndex := 402, descriptorIndex := 403, attributes := #[] }, { accessFlags := 10, nameIndex := 413, descriptorIndex := 414, attributes := #[] }, { accessFlags := 10, nameIndex := 114, descriptorIndex := 115, attributes := #[] }, { accessFlags := 1, nameIndex := 507, descriptorIndex := 334, attributes := #[] }, { accessFlags := 1, nameIndex := 497, descriptorIndex := 427, attributes := #[] }, { accessFlags := 0, nameIndex := 17, descriptorIndex := 337, attributes := #[] }, { accessFlags := 0, nameIndex := 494, descriptorIndex := 142, attributes := #[] }, { accessFlags := 8, nameIndex := 501, descriptorIndex := 391, attributes := #[] }, { accessFlags := 8, nameIndex := 36, descriptorIndex := 37, attributes := #[] }] 49 2 #[1106, 1108, 575, 1110, 1112] #[{ accessFlags := 18, nameIndex := 13, descriptorIndex := 14, attributes := #[] }, { accessFlags := 18, nameIndex := 17, descriptorIndex := 18, attributes := #[] }, { accessFlags := 2, nameIndex := 21, descriptorIndex := 22, attributes := #[] }, { accessFlags := 2, nameIndex := 25, descriptorIndex := 26, attributes := #[] }, { accessFlags := 26, nameIndex := 1116, descriptorIndex := 1117, attributes := #[] }, { accessFlags := 24, nameIndex := 40, descriptorIndex := 26, attributes := #[] }, { accessFlags := 26, nameIndex := 1101, descriptorIndex := 1102, attributes := #[] }, { accessFlags := 26, nameIndex := 1121, descriptorIndex := 1122, attributes := #[] }, { accessFlags := 25, nameIndex := 599, descriptorIndex := 600, attributes := #[] }, { accessFlags := 24, nameIndex := 1125, descriptorIndex := 18, attributes := #[] }, { accessFlags := 24, nameIndex := 1127, descriptorIndex := 18, attributes := #[] }])
  fields := #[{ name := "value", type := (.array .byte), accessFlags := 18, slot := 0, constantValue := 0 }, { name := "coder", type := .byte, accessFlags := 18, slot := 1, constantValue := 0 }, { name := "hash", type := .int, accessFlags := 2, slot := 2, constantValue := 0 }, { name := "hashIsZero", type := .boolean, accessFlags := 2, slot := 3, constantValue := 0 }, { name := "serialVersionUID", type := .long, accessFlags := 26, slot := 0, constantValue := 0 }, { name := "COMPACT_STRINGS", type := .boolean, accessFlags := 24, slot := 1, constantValue := 0 }, { name := "serialPersistentFields", type := (.array (.object "java/io/ObjectStreamField")), accessFlags := 26, slot := 2, constantValue := 0 }, { name := "REPL", type := .char, accessFlags := 26, slot := 3, constantValue := 0 }, { name := "CASE_INSENSITIVE_ORDER", type := (.object "java/util/Comparator"), accessFlags := 25, slot := 4, constantValue := 0 }, { name := "LATIN1", type := .byte, accessFlags := 24, slot := 5, constantValue := 0 }, { name := "UTF16", type := .byte, accessFlags := 24, slot := 6, constantValue := 0 }]
  methods := #[k8m0, k8m1, k8m2, k8m3, k8m4, k8m5, k8m6, k8m7, k8m8, k8m9, k8m10, k8m11, k8m12, k8m13, k8m14, k8m15]
  instanceTypes := #[(.array .byte), .byte, .int, .boolean]
  staticTypes := #[.long, .boolean, (.array (.object "java/io/ObjectStreamField")), .char, (.object "java/util/Comparator"), .byte, .byte]
  resolved := Array.replicate 1451 none
  statics := some 0 }

def pool9 : Array CpInfo := pool [(2, .class_ 4), (1, u "java/lang/Object"), (0, u "<init>"), (0, u "()V"), (14, .class_ 23), (1, u "java/nio/charset/StandardCharsets"), (0, u "US_ASCII"), (0, u "Ljava/nio/charset/Charset;"), (7, u "ISO_8859_1"), (7, u "UTF_8"), (5, u "UTF_16BE"), (5, u "UTF_16LE"), (5, u "UTF_16")] 8

def k9m0 : Method := { name := "<init>", desc := "()V", sig := { parameters := [], returnType := none }, accessFlags := 2, code := none }
/-- java/nio/charset/StandardCharsets -/
def k9 : Class := { plain "java/nio/charset/StandardCharsets" (some 0) with
  accessFlags := 49
  interfaces := #[]
  cf := some (fileOf pool9 21 #[] #[{ accessFlags := 2, nameIndex := 5, descriptorIndex := 6, attributes := #[] }] 49 2 #[] #[{ accessFlags := 25, nameIndex := 24, descriptorIndex := 25, attributes := #[] }, { accessFlags := 25, nameIndex := 33, descriptorIndex := 25, attributes := #[] }, { accessFlags := 25, nameIndex := 41, descriptorIndex := 25, attributes := #[] }, { accessFlags := 25, nameIndex := 47, descriptorIndex := 25, attributes := #[] }, { accessFlags := 25, nameIndex := 53, descriptorIndex := 25, attributes := #[] }, { accessFlags := 25, nameIndex := 59, descriptorIndex := 25, attributes := #[] }])
  fields := #[{ name := "US_ASCII", type := (.object "java/nio/charset/Charset"), accessFlags := 25, slot := 0, constantValue := 0 }, { name := "ISO_8859_1", type := (.object "java/nio/charset/Charset"), accessFlags := 25, slot := 1, constantValue := 0 }, { name := "UTF_8", type := (.object "java/nio/charset/Charset"), accessFlags := 25, slot := 2, constantValue := 0 }, { name := "UTF_16BE", type := (.object "java/nio/charset/Charset"), accessFlags := 25, slot := 3, constantValue := 0 }, { name := "UTF_16LE", type := (.object "java/nio/charset/Charset"), accessFlags := 25, slot := 4, constantValue := 0 }, { name := "UTF_16", type := (.object "java/nio/charset/Charset"), accessFlags := 25, slot := 5, constantValue := 0 }]
  methods := #[k9m0]
  instanceTypes := #[]
  staticTypes := #[(.object "java/nio/charset/Charset"), (.object "java/nio/charset/Charset"), (.object "java/nio/charset/Charset"), (.object "java/nio/charset/Charset"), (.object "java/nio/charset/Charset"), (.object "java/nio/charset/Charset")]
  resolved := Array.replicate 68 none
  statics := some 1 }

def pool10 : Array CpInfo := pool [(2, .class_ 4), (1, u "java/lang/Object"), (0, u "<init>"), (0, u "()V"), (35, .class_ 44), (1, u "java/util/Objects"), (0, u "requireNonNull"), (0, u "(Ljava/lang/Object;)Ljava/lang/Object;")] 137

def k10m0 : Method := { name := "<init>", desc := "()V", sig := { parameters := [], returnType := none }, accessFlags := 2, code := none }
def k10c1 : Code := { maxStack := 2, maxLocals := 1, code := jdk_31_method_10_code, exceptionTable := #[], attributes := #[] }
def k10m1 : Method := { name := "requireNonNull", desc := "(Ljava/lang/Object;)Ljava/lang/Object;", sig := { parameters := [(.object "java/lang/Object")], returnType := some (.object "java/lang/Object") }, accessFlags := 9, code := some k10c1 }
/-- java/util/Objects -/
def k10 : Class := { plain "java/util/Objects" (some 0) with
  accessFlags := 49
  interfaces := #[]
  cf := some (fileOf pool10 42 #[] #[{ accessFlags := 2, nameIndex := 5, descriptorIndex := 6, attributes := #[] }, { accessFlags := 9, nameIndex := 45, descriptorIndex := 46, attributes := #[] }] 49 2 #[] #[])
  fields := #[]
  methods := #[k10m0, k10m1]
  instanceTypes := #[]
  staticTypes := #[]
  resolved := Array.replicate 184 none
  statics := none }

def pool11 : Array CpInfo := pool [(18, .class_ 20), (1, u "java/nio/charset/Charset"), (0, u "cache1"), (0, u "[Ljava/lang/Object;"), (2, u "cache2"), (0, .class_ 27), (0, u "java/lang/Object"), (0, .class_ 29), (0, u "java/nio/charset/Charset$1"), (4, .class_ 36), (1, u "java/nio/charset/Charset$ThreadTrackHolder"), (21, .class_ 59), (0, u "java/nio/charset/Charset$2"), (11, .class_ 73), (1, u "java/nio/charset/Charset$ExtendedProviderHolder"), (22, u "standardProvider"), (0, u "Ljava/nio/charset/spi/CharsetProvider;"), (29, u "name"), (7, .class_ 136), (0, u "java/nio/charset/Charset$3"), (5, u "defaultCharset"), (0, u "Ljava/nio/charset/Charset;"), (14, u "zeroAliases"), (0, u "[Ljava/lang/String;"), (29, u "Ljava/lang/String;"), (2, u "aliases"), (2, u "aliasSet"), (0, u "Ljava/util/Set;"), (82, .class_ 280), (0, u "java/lang/Comparable"), (84, .class_ 366), (0, u "java/nio/charset/Charset$ExtendedProviderHolder$1")] 3

/-- java/nio/charset/Charset -/
def k11 : Class := { plain "java/nio/charset/Charset" (some 0) with
  accessFlags := 1057
  interfaces := #[4]
  cf := some (fileOf pool11 18 #[.nestMembers #[71, 365, 34, 135, 58, 28]] #[] 1057 26 #[279] #[{ accessFlags := 26, nameIndex := 96, descriptorIndex := 97, attributes := #[] }, { accessFlags := 26, nameIndex := 158, descriptorIndex := 159, attributes := #[] }, { accessFlags := 74, nameIndex := 21, descriptorIndex := 22, attributes := #[] }, { accessFlags := 74, nameIndex := 25, descriptorIndex := 22, attributes := #[] }, { accessFlags := 10, nameIndex := 142, descriptorIndex := 143, attributes := #[] }, { accessFlags := 18, nameIndex := 127, descriptorIndex := 189, attributes := #[] }, { accessFlags := 18, nameIndex := 192, descriptorIndex := 159, attributes := #[] }, { accessFlags := 2, nameIndex := 195, descriptorIndex := 196, attributes := #[] }])
  fields := #[{ name := "standardProvider", type := (.object "java/nio/charset/spi/CharsetProvider"), accessFlags := 26, slot := 0, constantValue := 0 }, { name := "zeroAliases", type := (.array (.object "java/lang/String")), accessFlags := 26, slot := 1, constantValue := 0 }, { name := "cache1", type := (.array (.object "java/lang/Object")), accessFlags := 74, slot := 2, constantValue := 0 }, { name := "cache2", type := (.array (.object "java/lang/Object")), accessFlags := 74, slot := 3, constantValue := 0 }, { name := "defaultCharset", type := (.object "java/nio/charset/Charset"), accessFlags := 10, slot := 4, constantValue := 0 }, { name := "name", type := (.object "java/lang/String"), accessFlags := 18, slot := 0, constantValue := 0 }, { name := "aliases", type := (.array (.object "java/lang/String")), accessFlags := 18, slot := 1, constantValue := 0 }, { name := "aliasSet", type := (.object "java/util/Set"), accessFlags := 2, slot := 2, constantValue := 0 }]
  methods := #[]
  instanceTypes := #[(.object "java/lang/String"), (.array (.object "java/lang/String")), (.object "java/util/Set")]
  staticTypes := #[(.object "java/nio/charset/spi/CharsetProvider"), (.array (.object "java/lang/String")), (.array (.object "java/lang/Object")), (.array (.object "java/lang/Object")), (.object "java/nio/charset/Charset")]
  resolved := Array.replicate 370 none
  statics := none }

def pool12 : Array CpInfo := pool [(1, .class_ 2), (0, u "sun/nio/cs/HistoricallyNamedCharset"), (0, .class_ 4), (0, u "java/lang/Object")] 4

/-- sun/nio/cs/HistoricallyNamedCharset -/
def k12 : Class := { plain "sun/nio/cs/HistoricallyNamedCharset" (some 0) with
  accessFlags := 1537
  interfaces := #[]
  cf := some (fileOf pool12 1 #[] #[] 1537 3 #[] #[])
  fields := #[]
  methods := #[]
  instanceTypes := #[]
  staticTypes := #[]
  resolved := Array.replicate 9 none
  statics := none }

def pool13 : Array CpInfo := pool [(2, .class_ 4), (1, u "java/nio/charset/Charset"), (130, .class_ 136), (0, u "sun/nio/cs/Unicode"), (0, .class_ 138), (0, u "sun/nio/cs/HistoricallyNamedCharset")] 15

/-- sun/nio/cs/Unicode -/
def k13 : Class := { plain "sun/nio/cs/Unicode" (some 11) with
  accessFlags := 1056
  interfaces := #[12]
  cf := some (fileOf pool13 135 #[] #[] 1056 2 #[137] #[])
  fields := #[]
  methods := #[]
  instanceTypes := #[(.object "java/lang/String"), (.array (.object "java/lang/String")), (.object "java/util/Set")]
  staticTypes := #[]
  resolved := Array.replicate 154 none
  statics := none }

def pool14 : Array CpInfo := pool [(10, .class_ 12), (1, u "sun/nio/cs/Unicode"), (0, u "<init>"), (3, .class_ 18), (0, u "sun/nio/cs/UTF_8$Decoder"), (3, .class_ 23), (0, u "sun/nio/cs/UTF_8$Encoder"), (15, .class_ 40), (0, u "sun/nio/cs/UTF_8"), (2, u "()V"), (2, u "INSTANCE"), (0, u "Lsun/nio/cs/UTF_8;"), (8, u "JLA"), (0, u "Ljdk/internal/access/JavaLangAccess;")] 26

def k14m0 : Method := { name := "<init>", desc := "()V", sig := { parameters := [], returnType := none }, accessFlags := 1, code := none }
/-- sun/nio/cs/UTF_8 -/
def k14 : Class := { plain "sun/nio/cs/UTF_8" (some 13) with
  accessFlags := 49
  interfaces := #[]
  cf := some (fileOf pool14 39 #[.nestMembers #[22, 17]] #[{ accessFlags := 1, nameIndex := 13, descriptorIndex := 43, attributes := #[] }] 49 10 #[] #[{ accessFlags := 25, nameIndex := 46, descriptorIndex := 47, attributes := #[] }, { accessFlags := 26, nameIndex := 56, descriptorIndex := 57, attributes := #[] }])
  fields := #[{ name := "INSTANCE", type := (.object "sun/nio/cs/UTF_8"), accessFlags := 25, slot := 0, constantValue := 0 }, { name := "JLA", type := (.object "jdk/internal/access/JavaLangAccess"), accessFlags := 26, slot := 1, constantValue := 0 }]
  methods := #[k14m0]
  instanceTypes := #[(.object "java/lang/String"), (.array (.object "java/lang/String")), (.object "java/util/Set")]
  staticTypes := #[(.object "sun/nio/cs/UTF_8"), (.object "jdk/internal/access/JavaLangAccess")]
  resolved := Array.replicate 84 none
  statics := some 2 }

def pool15 : Array CpInfo := pool [(2, .class_ 4), (1, u "java/lang/Object"), (0, u "<init>"), (0, u "()V"), (17, .class_ 26), (1, u "jdk/internal/util/Preconditions"), (6, u "checkIndex"), (15, u "checkFromIndexSize"), (5, .class_ 56), (0, u "jdk/internal/util/Preconditions$4"), (57, .class_ 115), (0, u "jdk/internal/util/Preconditions$1"), (7, u "SIOOBE_FORMATTER"), (0, u "Ljava/util/function/BiFunction;"), (0, .class_ 126), (0, u "jdk/internal/util/Preconditions$2"), (3, u "AIOOBE_FORMATTER"), (0, .class_ 132), (0, u "jdk/internal/util/Preconditions$3"), (3, u "IOOBE_FORMATTER"), (41, u "(IILjava/util/function/BiFunction;)I"), (4, u "(IIILjava/util/function/BiFunction;)I")] 10

def k15m0 : Method := { name := "<init>", desc := "()V", sig := { parameters := [], returnType := none }, accessFlags := 1, code := none }
def k15c1 : Code := { maxStack := 3, maxLocals := 3, code := jdk_41_method_11_code, exceptionTable := #[], attributes := #[] }
def k15m1 : Method := { name := "checkIndex", desc := "(IILjava/util/function/BiFunction;)I", sig := { parameters := [.int, .int, (.object "java/util/function/BiFunction")], returnType := some .int }, accessFlags := 9, code := some k15c1 }
def k15c2 : Code := { maxStack := 4, maxLocals := 4, code := jdk_41_method_13_code, exceptionTable := #[], attributes := #[] }
def k15m2 : Method := { name := "checkFromIndexSize", desc := "(IIILjava/util/function/BiFunction;)I", sig := { parameters := [.int, .int, .int, (.object "java/util/function/BiFunction")], returnType := some .int }, accessFlags := 9, code := some k15c2 }
/-- jdk/internal/util/Preconditions -/
def k15 : Class := { plain "jdk/internal/util/Preconditions" (some 0) with
  accessFlags := 33
  interfaces := #[]
  cf := some (fileOf pool15 24 #[.nestMembers #[55, 131, 125, 114]] #[{ accessFlags := 1, nameIndex := 5, descriptorIndex := 6, attributes := #[] }, { accessFlags := 9, nameIndex := 33, descriptorIndex := 178, attributes := #[] }, { accessFlags := 9, nameIndex := 49, descriptorIndex := 183, attributes := #[] }] 33 2 #[] #[{ accessFlags := 25, nameIndex := 123, descriptorIndex := 124, attributes := #[] }, { accessFlags := 25, nameIndex := 130, descriptorIndex := 124, attributes := #[] }, { accessFlags := 25, nameIndex := 136, descriptorIndex := 124, attributes := #[] }])
  fields := #[{ name := "SIOOBE_FORMATTER", type := (.object "java/util/function/BiFunction"), accessFlags := 25, slot := 0, constantValue := 0 }, { name := "AIOOBE_FORMATTER", type := (.object "java/util/function/BiFunction"), accessFlags := 25, slot := 1, constantValue := 0 }, { name := "IOOBE_FORMATTER", type := (.object "java/util/function/BiFunction"), accessFlags := 25, slot := 2, constantValue := 0 }]
  methods := #[k15m0, k15m1, k15m2]
  instanceTypes := #[]
  staticTypes := #[(.object "java/util/function/BiFunction"), (.object "java/util/function/BiFunction"), (.object "java/util/function/BiFunction")]
  resolved := Array.replicate 194 none
  statics := some 3 }

def pool16 : Array CpInfo := pool [(2, .class_ 4), (1, u "java/lang/Object"), (0, u "<init>"), (0, u "()V"), (1, .class_ 10), (1, u "java/lang/StringCoding"), (0, u "countPositives"), (0, u "([BII)I")] 36

def k16m0 : Method := { name := "<init>", desc := "()V", sig := { parameters := [], returnType := none }, accessFlags := 2, code := none }
def k16c1 : Code := { maxStack := 2, maxLocals := 5, code := jdk_123_method_3_code, exceptionTable := #[], attributes := #[] }
def k16m1 : Method := { name := "countPositives", desc := "([BII)I", sig := { parameters := [(.array .byte), .int, .int], returnType := some .int }, accessFlags := 9, code := some k16c1 }
/-- java/lang/StringCoding -/
def k16 : Class := { plain "java/lang/StringCoding" (some 0) with
  accessFlags := 32
  interfaces := #[]
  cf := some (fileOf pool16 8 #[] #[{ accessFlags := 2, nameIndex := 5, descriptorIndex := 6, attributes := #[] }, { accessFlags := 9, nameIndex := 11, descriptorIndex := 12, attributes := #[] }] 32 2 #[] #[])
  fields := #[]
  methods := #[k16m0, k16m1]
  instanceTypes := #[]
  staticTypes := #[]
  resolved := Array.replicate 49 none
  statics := none }

def pool17 : Array CpInfo := pool [(2, .class_ 4), (1, u "java/lang/Object"), (0, u "<init>"), (0, u "()V"), (7, .class_ 16), (1, u "java/util/Arrays"), (57, .class_ 76), (1, u "java/util/Arrays$NaturalOrder"), (32, u "()Ljava/lang/Object;"), (3, .class_ 115), (1, u "java/util/Arrays$LegacyMergeSort"), (1, u "Z"), (10, .nameAndType 129 109), (0, u "clone"), (9, u "copyOfRange"), (10, .methodref 151 152), (0, .class_ 153), (0, .nameAndType 154 155), (0, u "java/lang/System"), (0, u "arraycopy"), (0, u "(Ljava/lang/Object;ILjava/lang/Object;II)V"), (146, u "copyOf"), (1, .methodref 305 306), (0, .class_ 307), (0, .nameAndType 308 309), (0, u "java/lang/Math"), (0, u "min"), (0, u "(II)I"), (0, .methodref 311 128), (0, .class_ 312), (0, u "[B"), (26, .methodref 14 340), (0, .nameAndType 341 342), (0, u "copyOfRangeByte"), (0, u "([BII)[B"), (0, .methodref 14 344), (0, .nameAndType 345 346), (0, u "checkLength"), (0, u "(II)V"), (28, .class_ 376), (0, u "java/util/Arrays$ArrayList"), (68, u "$assertionsDisabled"), (269, u "MIN_ARRAY_SORT_GRAN"), (0, u "I"), (2, u "INSERTIONSORT_THRESHOLD"), (149, u "([BI)[B"), (105, .class_ 976), (0, u "java/util/Arrays$ArrayItr")] 52

def k17m0 : Method := { name := "<init>", desc := "()V", sig := { parameters := [], returnType := none }, accessFlags := 2, code := none }
def k17c1 : Code := { maxStack := 6, maxLocals := 3, code := jdk_65_method_121_code, exceptionTable := #[], attributes := #[] }
def k17m1 : Method := { name := "copyOf", desc := "([BI)[B", sig := { parameters := [(.array .byte), .int], returnType := some (.array .byte) }, accessFlags := 9, code := some k17c1 }
def k17c2 : Code := { maxStack := 4, maxLocals := 2, code := jdk_65_method_131_code, exceptionTable := #[], attributes := #[] }
def k17m2 : Method := { name := "checkLength", desc := "(II)V", sig := { parameters := [.int, .int], returnType := none }, accessFlags := 10, code := some k17c2 }
def k17c3 : Code := { maxStack := 3, maxLocals := 3, code := jdk_65_method_132_code, exceptionTable := #[], attributes := #[] }
def k17m3 : Method := { name := "copyOfRange", desc := "([BII)[B", sig := { parameters := [(.array .byte), .int, .int], returnType := some (.array .byte) }, accessFlags := 9, code := some k17c3 }
def k17c4 : Code := { maxStack := 6, maxLocals := 5, code := jdk_65_method_133_code, exceptionTable := #[], attributes := #[] }
def k17m4 : Method := { name := "copyOfRangeByte", desc := "([BII)[B", sig := { parameters := [(.array .byte), .int, .int], returnType := some (.array .byte) }, accessFlags := 10, code := some k17c4 }
/-- java/util/Arrays -/
def k17 : Class := { plain "java/util/Arrays" (some 0) with
  accessFlags := 49
  interfaces := #[]
  cf := some (fileOf pool17 14 #[.nestMembers #[975, 375, 113, 74]] #[{ accessFlags := 2, nameIndex := 5, descriptorIndex := 6, attributes := #[] }, { accessFlags := 9, nameIndex := 302, descriptorIndex := 869, attributes := #[] }, { accessFlags := 10, nameIndex := 345, descriptorIndex := 346, attributes := #[] }, { accessFlags := 9, nameIndex := 139, descriptorIndex := 342, attributes := #[] }, { accessFlags := 10, nameIndex := 341, descriptorIndex := 342, attributes := #[] }] 49 2 #[] #[{ accessFlags := 26, nameIndex := 715, descriptorIndex := 716, attributes := #[] }, { accessFlags := 26, nameIndex := 719, descriptorIndex := 716, attributes := #[] }, { accessFlags := 4120, nameIndex := 445, descriptorIndex := 117, attributes := #[] }])
  fields := #[{ name := "MIN_ARRAY_SORT_GRAN", type := .int, accessFlags := 26, slot := 0, constantValue := 0 }, { name := "INSERTIONSORT_THRESHOLD", type := .int, accessFlags := 26, slot := 1, constantValue := 0 }, { name := "$assertionsDisabled", type := .boolean, accessFlags := 4120, slot := 2, constantValue := 0 }]
  methods := #[k17m0, k17m1, k17m2, k17m3, k17m4]
  instanceTypes := #[]
  staticTypes := #[.int, .int, .boolean]
  resolved := Array.replicate 1029 none
  statics := none }

def pool18 : Array CpInfo := pool [(1, .class_ 2), (0, u "java/lang/Math"), (1, .class_ 6), (1, u "java/lang/Object"), (0, u "<init>"), (0, u "()V"), (89, .class_ 100), (1, u "java/lang/Math$RandomNumberGeneratorHolder"), (71, u "negativeZeroFloatBits"), (0, u "J"), (2, u "negativeZeroDoubleBits"), (24, u "min"), (43, u "$assertionsDisabled"), (0, u "Z"), (88, u "(II)I"), (2, u "twoToTheDoubleScaleDown"), (0, u "D"), (4, u "twoToTheDoubleScaleUp"), (9, u "E"), (3, u "PI"), (2, u "TAU"), (2, u "DEGREES_TO_RADIANS"), (0, u "RADIANS_TO_DEGREES")] 94

def k18m0 : Method := { name := "<init>", desc := "()V", sig := { parameters := [], returnType := none }, accessFlags := 2, code := none }
def k18c1 : Code := { maxStack := 2, maxLocals := 2, code := jdk_29_method_69_code, exceptionTable := #[], attributes := #[] }
def k18m1 : Method := { name := "min", desc := "(II)I", sig := { parameters := [.int, .int], returnType := some .int }, accessFlags := 9, code := some k18c1 }
/-- java/lang/Math -/
def k18 : Class := { plain "java/lang/Math" (some 0) with
  accessFlags := 49
  interfaces := #[]
  cf := some (fileOf pool18 1 #[.nestMembers #[98]] #[{ accessFlags := 2, nameIndex := 7, descriptorIndex := 8, attributes := #[] }, { accessFlags := 9, nameIndex := 201, descriptorIndex := 335, attributes := #[] }] 49 4 #[] #[{ accessFlags := 25, nameIndex := 354, descriptorIndex := 339, attributes := #[] }, { accessFlags := 25, nameIndex := 358, descriptorIndex := 339, attributes := #[] }, { accessFlags := 25, nameIndex := 361, descriptorIndex := 339, attributes := #[] }, { accessFlags := 26, nameIndex := 364, descriptorIndex := 339, attributes := #[] }, { accessFlags := 26, nameIndex := 365, descriptorIndex := 339, attributes := #[] }, { accessFlags := 26, nameIndex := 172, descriptorIndex := 173, attributes := #[] }, { accessFlags := 26, nameIndex := 176, descriptorIndex := 173, attributes := #[] }, { accessFlags := 8, nameIndex := 344, descriptorIndex := 339, attributes := #[] }, { accessFlags := 8, nameIndex := 338, descriptorIndex := 339, attributes := #[] }, { accessFlags := 4120, nameIndex := 245, descriptorIndex := 246, attributes := #[] }])
  fields := #[{ name := "E", type := .double, accessFlags := 25, slot := 0, constantValue := 0 }, { name := "PI", type := .double, accessFlags := 25, slot := 1, constantValue := 0 }, { name := "TAU", type := .double, accessFlags := 25, slot := 2, constantValue := 0 }, { name := "DEGREES_TO_RADIANS", type := .double, accessFlags := 26, slot := 3, constantValue := 0 }, { name := "RADIANS_TO_DEGREES", type := .double, accessFlags := 26, slot := 4, constantValue := 0 }, { name := "negativeZeroFloatBits", type := .long, accessFlags := 26, slot := 5, constantValue := 0 }, { name := "negativeZeroDoubleBits", type := .long, accessFlags := 26, slot := 6, constantValue := 0 }, { name := "twoToTheDoubleScaleUp", type := .double, accessFlags := 8, slot := 7, constantValue := 0 }, { name := "twoToTheDoubleScaleDown", type := .double, accessFlags := 8, slot := 8, constantValue := 0 }, { name := "$assertionsDisabled", type := .boolean, accessFlags := 4120, slot := 9, constantValue := 0 }]
  methods := #[k18m0, k18m1]
  instanceTypes := #[]
  staticTypes := #[.double, .double, .double, .double, .double, .long, .long, .double, .double, .boolean]
  resolved := Array.replicate 460 none
  statics := none }

def pool19 : Array CpInfo := pool [(2, .class_ 4), (1, u "java/lang/Object"), (0, u "<init>"), (0, u "()V"), (1, .class_ 10), (1, u "java/lang/System"), (0, u "allowSecurityManager"), (0, u "I"), (16, u "cons"), (0, u "Ljava/io/Console;"), (77, .class_ 110), (1, u "java/lang/System$CallersHolder"), (43, u "initialErrStream"), (0, u "Ljava/io/PrintStream;"), (19, u "security"), (0, u "Ljava/lang/SecurityManager;"), (31, .class_ 209), (0, u "java/lang/System$1"), (7, u "props"), (0, u "Ljava/util/Properties;"), (2, u "lineSeparator"), (0, u "Ljava/lang/String;"), (96, .class_ 321), (1, u "java/lang/System$LoggerFinder"), (5, .class_ 328), (0, u "java/lang/System$Logger"), (67, u "err"), (2, u "out"), (91, u "notSupportedJnuEncoding"), (15, u "in"), (17, u "initialIn"), (0, u "Ljava/io/InputStream;"), (35, u "bootLayer"), (0, u "Ljava/lang/ModuleLayer;"), (99, .class_ 664), (0, u "java/lang/System$2"), (9, u "NEVER"), (2, u "MAYBE"), (49, u "arraycopy"), (0, u "(Ljava/lang/Object;ILjava/lang/Object;II)V"), (72, .class_ 802), (0, u "java/lang/System$Logger$Level")] 31

def k19m0 : Method := { name := "<init>", desc := "()V", sig := { parameters := [], returnType := none }, accessFlags := 2, code := none }
def k19m1 : Method := { name := "arraycopy", desc := "(Ljava/lang/Object;ILjava/lang/Object;II)V", sig := { parameters := [(.object "java/lang/Object"), .int, (.object "java/lang/Object"), .int, .int], returnType := none }, accessFlags := 265, code := none }
/-- java/lang/System -/
def k19 : Class := { plain "java/lang/System" (some 0) with
  accessFlags := 49
  interfaces := #[]
  cf := some (fileOf pool19 8 #[.nestMembers #[319, 327, 801, 108, 663, 208]] #[{ accessFlags := 2, nameIndex := 5, descriptorIndex := 6, attributes := #[] }, { accessFlags := 265, nameIndex := 727, descriptorIndex := 728, attributes := #[] }] 49 2 #[] #[{ accessFlags := 25, nameIndex := 507, descriptorIndex := 526, attributes := #[] }, { accessFlags := 25, nameIndex := 399, descriptorIndex := 155, attributes := #[] }, { accessFlags := 25, nameIndex := 396, descriptorIndex := 155, attributes := #[] }, { accessFlags := 10, nameIndex := 525, descriptorIndex := 526, attributes := #[] }, { accessFlags := 26, nameIndex := 674, descriptorIndex := 12, attributes := #[] }, { accessFlags := 26, nameIndex := 677, descriptorIndex := 12, attributes := #[] }, { accessFlags := 10, nameIndex := 11, descriptorIndex := 12, attributes := #[] }, { accessFlags := 74, nameIndex := 175, descriptorIndex := 176, attributes := #[] }, { accessFlags := 10, nameIndex := 491, descriptorIndex := 222, attributes := #[] }, { accessFlags := 74, nameIndex := 29, descriptorIndex := 30, attributes := #[] }, { accessFlags := 74, nameIndex := 154, descriptorIndex := 155, attributes := #[] }, { accessFlags := 10, nameIndex := 217, descriptorIndex := 218, attributes := #[] }, { accessFlags := 10, nameIndex := 221, descriptorIndex := 222, attributes := #[] }, { accessFlags := 8, nameIndex := 562, descriptorIndex := 563, attributes := #[] }])
  fields := #[{ name := "in", type := (.object "java/io/InputStream"), accessFlags := 25, slot := 0, constantValue := 0 }, { name := "out", type := (.object "java/io/PrintStream"), accessFlags := 25, slot := 1, constantValue := 0 }, { name := "err", type := (.object "java/io/PrintStream"), accessFlags := 25, slot := 2, constantValue := 0 }, { name := "initialIn", type := (.object "java/io/InputStream"), accessFlags := 10, slot := 3, constantValue := 0 }, { name := "NEVER", type := .int, accessFlags := 26, slot := 4, constantValue := 0 }, { name := "MAYBE", type := .int, accessFlags := 26, slot := 5, constantValue := 0 }, { name := "allowSecurityManager", type := .int, accessFlags := 10, slot := 6, constantValue := 0 }, { name := "security", type := (.object "java/lang/SecurityManager"), accessFlags := 74, slot := 7, constantValue := 0 }, { name := "notSupportedJnuEncoding", type := (.object "java/lang/String"), accessFlags := 10, slot := 8, constantValue := 0 }, { name := "cons", type := (.object "java/io/Console"), accessFlags := 74, slot := 9, constantValue := 0 }, { name := "initialErrStream", type := (.object "java/io/PrintStream"), accessFlags := 74, slot := 10, constantValue := 0 }, { name := "props", type := (.object "java/util/Properties"), accessFlags := 10, slot := 11, constantValue := 0 }, { name := "lineSeparator", type := (.object "java/lang/String"), accessFlags := 10, slot := 12, constantValue := 0 }, { name := "bootLayer", type := (.object "java/lang/ModuleLayer"), accessFlags := 8, slot := 13, constantValue := 0 }]
  methods := #[k19m0, k19m1]
  instanceTypes := #[]
  staticTypes := #[(.object "java/io/InputStream"), (.object "java/io/PrintStream"), (.object "java/io/PrintStream"), (.object "java/io/InputStream"), .int, .int, .int, (.object "java/lang/SecurityManager"), (.object "java/lang/String"), (.object "java/io/Console"), (.object "java/io/PrintStream"), (.object "java/util/Properties"), (.object "java/lang/String"), (.object "java/lang/ModuleLayer")]
  resolved := Array.replicate 834 none
  statics := none }

def pool20 : Array CpInfo := pool [(1, .class_ 2), (0, u "java/lang/String"), (1, .class_ 6), (1, u "java/lang/Object"), (0, u "<init>"), (0, u "()V"), (0, .methodref 1 10), (0, .nameAndType 11 12), (0, u "checkIndex"), (0, u "(II)V"), (1, .class_ 16), (1, u "java/lang/StringLatin1"), (0, u "inflate"), (2, .class_ 22), (1, u "java/lang/StringUTF16"), (3, .nameAndType 17 27), (0, u "([BI[BII)V"), (25, u "([BI)C"), (67, u "$assertionsDisabled"), (0, u "Z"), (98, .class_ 223), (1, u "java/lang/StringLatin1$LinesSpliterator"), (16, .methodref 20 26), (11, u "charAt"), (137, .class_ 391), (0, u "java/lang/StringLatin1$CharsSpliterator")] 3

def k20m0 : Method := { name := "<init>", desc := "()V", sig := { parameters := [], returnType := none }, accessFlags := 0, code := none }
def k20c1 : Code := { maxStack := 2, maxLocals := 2, code := jdk_43_method_2_code, exceptionTable := #[], attributes := #[] }
def k20m1 : Method := { name := "charAt", desc := "([BI)C", sig := { parameters := [(.array .byte), .int], returnType := some .char }, accessFlags := 9, code := some k20c1 }
def k20c2 : Code := { maxStack := 5, maxLocals := 5, code := jdk_43_method_50_code, exceptionTable := #[], attributes := #[] }
def k20m2 : Method := { name := "inflate", desc := "([BI[BII)V", sig := { parameters := [(.array .byte), .int, (.array .byte), .int, .int], returnType := none }, accessFlags := 9, code := some k20c2 }
/-- java/lang/StringLatin1 -/
def k20 : Class := { plain "java/lang/StringLatin1" (some 0) with
  accessFlags := 48
  interfaces := #[]
  cf := some (fileOf pool20 14 #[.nestMembers #[390, 221]] #[{ accessFlags := 0, nameIndex := 7, descriptorIndex := 8, attributes := #[] }, { accessFlags := 9, nameIndex := 252, descriptorIndex := 53, attributes := #[] }, { accessFlags := 9, nameIndex := 17, descriptorIndex := 27, attributes := #[] }] 48 4 #[] #[{ accessFlags := 4120, nameIndex := 121, descriptorIndex := 122, attributes := #[] }])
  fields := #[{ name := "$assertionsDisabled", type := .boolean, accessFlags := 4120, slot := 0, constantValue := 0 }]
  methods := #[k20m0, k20m1, k20m2]
  instanceTypes := #[]
  staticTypes := #[.boolean]
  resolved := Array.replicate 395 none
  statics := none }

def pool21 : Array CpInfo := pool [(1, .class_ 2), (0, u "java/lang/Cloneable"), (0, .class_ 4), (0, u "java/lang/Object")] 2

/-- java/lang/Cloneable -/
def k21 : Class := { plain "java/lang/Cloneable" (some 0) with
  accessFlags := 1537
  interfaces := #[]
  cf := some (fileOf pool21 1 #[] #[] 1537 3 #[] #[])
  fields := #[]
  methods := #[]
  instanceTypes := #[]
  staticTypes := #[]
  resolved := Array.replicate 7 none
  statics := none }

def pool22 : Array CpInfo := pool [(3, .class_ 4), (0, u "java/lang/String"), (1, .class_ 8), (1, u "java/lang/Object"), (0, u "<init>"), (0, u "()V"), (0, .methodref 12 13), (0, .class_ 14), (0, .nameAndType 15 16), (0, u "java/lang/StringUTF16"), (0, u "newBytesLength"), (0, u "(I)I"), (3, .integer 1073741823), (23, .fieldref 12 45), (0, .nameAndType 46 47), (0, u "$assertionsDisabled"), (0, u "Z"), (0, .methodref 12 49), (0, .nameAndType 50 51), (0, u "length"), (0, u "([B)I"), (7, .fieldref 12 60), (0, .nameAndType 61 62), (0, u "HI_BYTE_SHIFT"), (0, u "I"), (0, .fieldref 12 64), (0, .nameAndType 65 62), (0, u "LO_BYTE_SHIFT"), (1, .methodref 12 68), (0, .nameAndType 69 70), (0, u "checkIndex"), (0, u "(I[B)V"), (0, .methodref 12 72), (0, .nameAndType 73 74), (0, u "getChar"), (0, u "([BI)C"), (24, u "(II[B)V"), (9, u "newBytesFor"), (0, u "(I)[B"), (2, u "putChar"), (0, u "([BII)V"), (25, u "inflate"), (0, u "([BI[BII)V"), (31, .methodref 12 174), (0, .nameAndType 175 99), (0, u "checkBoundsOffCount"), (105, u "(III)I"), (87, .class_ 371), (1, u "java/lang/StringUTF16$LinesSpliterator"), (20, u "charAt"), (21, .methodref 3 415), (0, .nameAndType 69 416), (0, u "(II)V"), (2, .methodref 3 420), (0, .nameAndType 175 281), (9, u "MAX_LENGTH"), (196, .class_ 628), (0, u "java/lang/StringUTF16$CodePointsSpliterator"), (0, .class_ 630), (0, u "java/lang/StringUTF16$CharsSpliterator")] 4

def k22m0 : Method := { name := "<init>", desc := "()V", sig := { parameters := [], returnType := none }, accessFlags := 0, code := none }
def k22c1 : Code := { maxStack := 1, maxLocals := 1, code := jdk_52_method_2_code, exceptionTable := #[], attributes := #[] }
def k22m1 : Method := { name := "newBytesFor", desc := "(I)[B", sig := { parameters := [.int], returnType := some (.array .byte) }, accessFlags := 9, code := some k22c1 }
def k22c2 : Code := { maxStack := 4, maxLocals := 1, code := jdk_52_method_3_code, exceptionTable := #[], attributes := #[] }
def k22m2 : Method := { name := "newBytesLength", desc := "(I)I", sig := { parameters := [.int], returnType := some .int }, accessFlags := 9, code := some k22c2 }
def k22c3 : Code := { maxStack := 4, maxLocals := 3, code := jdk_52_method_4_code, exceptionTable := #[], attributes := #[] }
def k22m3 : Method := { name := "putChar", desc := "([BII)V", sig := { parameters := [(.array .byte), .int, .int], returnType := none }, accessFlags := 8, code := some k22c3 }
def k22c4 : Code := { maxStack := 3, maxLocals := 2, code := jdk_52_method_5_code, exceptionTable := #[], attributes := #[] }
def k22m4 : Method := { name := "getChar", desc := "([BI)C", sig := { parameters := [(.array .byte), .int], returnType := some .char }, accessFlags := 8, code := some k22c4 }
def k22c5 : Code := { maxStack := 2, maxLocals := 1, code := jdk_52_method_6_code, exceptionTable := #[], attributes := #[] }
def k22m5 : Method := { name := "length", desc := "([B)I", sig := { parameters := [(.array .byte)], returnType := some .int }, accessFlags := 9, code := some k22c5 }
def k22c6 : Code := { maxStack := 2, maxLocals := 2, code := jdk_52_method_83_code, exceptionTable := #[], attributes := #[] }
def k22m6 : Method := { name := "charAt", desc := "([BI)C", sig := { parameters := [(.array .byte), .int], returnType := some .char }, accessFlags := 9, code := some k22c6 }
def k22c7 : Code := { maxStack := 4, maxLocals := 6, code := jdk_52_method_86_code, exceptionTable := #[], attributes := #[] }
def k22m7 : Method := { name := "inflate", desc := "([BI[BII)V", sig := { parameters := [(.array .byte), .int, (.array .byte), .int, .int], returnType := none }, accessFlags := 9, code := some k22c7 }
def k22c8 : Code := { maxStack := 2, maxLocals := 2, code := jdk_52_method_91_code, exceptionTable := #[], attributes := #[] }
def k22m8 : Method := { name := "checkIndex", desc := "(I[B)V", sig := { parameters := [.int, (.array .byte)], returnType := none }, accessFlags := 9, code := some k22c8 }
def k22c9 : Code := { maxStack := 3, maxLocals := 3, code := jdk_52_method_94_code, exceptionTable := #[], attributes := #[] }
def k22m9 : Method := { name := "checkBoundsOffCount", desc := "(II[B)V", sig := { parameters := [.int, .int, (.array .byte)], returnType := none }, accessFlags := 9, code := some k22c9 }
/-- java/lang/StringUTF16 -/
def k22 : Class := { plain "java/lang/StringUTF16" (some 0) with
  accessFlags := 48
  interfaces := #[]
  cf := some (fileOf pool22 12 #[.nestMembers #[627, 629, 369]] #[{ accessFlags := 0, nameIndex := 9, descriptorIndex := 10, attributes := #[] }, { accessFlags := 9, nameIndex := 109, descriptorIndex := 110, attributes := #[] }, { accessFlags := 9, nameIndex := 15, descriptorIndex := 16, attributes := #[] }, { accessFlags := 8, nameIndex := 113, descriptorIndex := 114, attributes := #[] }, { accessFlags := 8, nameIndex := 73, descriptorIndex := 74, attributes := #[] }, { accessFlags := 9, nameIndex := 50, descriptorIndex := 51, attributes := #[] }, { accessFlags := 9, nameIndex := 392, descriptorIndex := 74, attributes := #[] }, { accessFlags := 9, nameIndex := 140, descriptorIndex := 141, attributes := #[] }, { accessFlags := 9, nameIndex := 69, descriptorIndex := 70, attributes := #[] }, { accessFlags := 9, nameIndex := 175, descriptorIndex := 99, attributes := #[] }] 48 6 #[] #[{ accessFlags := 26, nameIndex := 61, descriptorIndex := 62, attributes := #[] }, { accessFlags := 26, nameIndex := 65, descriptorIndex := 62, attributes := #[] }, { accessFlags := 24, nameIndex := 430, descriptorIndex := 62, attributes := #[] }, { accessFlags := 4120, nameIndex := 46, descriptorIndex := 47, attributes := #[] }])
  fields := #[{ name := "HI_BYTE_SHIFT", type := .int, accessFlags := 26, slot := 0, constantValue := 0 }, { name := "LO_BYTE_SHIFT", type := .int, accessFlags := 26, slot := 1, constantValue := 0 }, { name := "MAX_LENGTH", type := .int, accessFlags := 24, slot := 2, constantValue := 0 }, { name := "$assertionsDisabled", type := .boolean, accessFlags := 4120, slot := 3, constantValue := 0 }]
  methods := #[k22m0, k22m1, k22m2, k22m3, k22m4, k22m5, k22m6, k22m7, k22m8, k22m9]
  instanceTypes := #[]
  staticTypes := #[.int, .int, .int, .boolean]
  resolved := Array.replicate 635 none
  statics := some 4 }

def pool23 : Array CpInfo := pool [(1, .class_ 2), (0, u "java/lang/Character"), (18, u "value"), (0, u "C"), (19, .class_ 44), (1, u "java/lang/Object"), (3, .class_ 50), (1, u "java/lang/Character$CharacterCache"), (22, .integer 65536), (0, .integer 1114112), (0, .integer 55296), (0, .integer 56320), (0, .integer 57344), (3, u "(C)Z"), (9, u "(I)C"), (18, .integer 55232), (3, u "(I)Z"), (20, u "lowSurrogate"), (2, u "highSurrogate"), (145, u "$assertionsDisabled"), (0, u "Z"), (21, .class_ 309), (1, u "java/lang/Character$UnicodeBlock"), (73, u "TYPE"), (0, u "Ljava/lang/Class;"), (0, .class_ 386), (0, u "java/io/Serializable"), (0, .class_ 388), (0, u "java/lang/Comparable"), (0, .class_ 390), (0, u "java/lang/constant/Constable"), (0, u "MIN_RADIX"), (0, u "I"), (2, u "MAX_RADIX"), (1, u "MIN_VALUE"), (1, u "MAX_VALUE"), (3, u "UNASSIGNED"), (0, u "B"), (0, u "UPPERCASE_LETTER"), (1, u "LOWERCASE_LETTER"), (0, u "TITLECASE_LETTER"), (1, u "MODIFIER_LETTER"), (1, u "OTHER_LETTER"), (1, u "NON_SPACING_MARK"), (1, u "ENCLOSING_MARK"), (1, u "COMBINING_SPACING_MARK"), (1, u "DECIMAL_DIGIT_NUMBER"), (1, u "LETTER_NUMBER"), (1, u "OTHER_NUMBER"), (1, u "SPACE_SEPARATOR"), (1, u "LINE_SEPARATOR"), (1, u "PARAGRAPH_SEPARATOR"), (1, u "CONTROL"), (1, u "FORMAT"), (1, u "PRIVATE_USE"), (1, u "SURROGATE"), (1, u "DASH_PUNCTUATION"), (1, u "START_PUNCTUATION"), (1, u "END_PUNCTUATION"), (1, u "CONNECTOR_PUNCTUATION"), (1, u "OTHER_PUNCTUATION"), (1, u "MATH_SYMBOL"), (1, u "CURRENCY_SYMBOL"), (1, u "MODIFIER_SYMBOL"), (1, u "OTHER_SYMBOL"), (1, u "INITIAL_QUOTE_PUNCTUATION"), (1, u "FINAL_QUOTE_PUNCTUATION"), (1, u "ERROR"), (1, u "DIRECTIONALITY_UNDEFINED"), (0, u "DIRECTIONALITY_LEFT_TO_RIGHT"), (0, u "DIRECTIONALITY_RIGHT_TO_LEFT"), (0, u "DIRECTIONALITY_RIGHT_TO_LEFT_ARABIC"), (0, u "DIRECTIONALITY_EUROPEAN_NUMBER"), (0, u "DIRECTIONALITY_EUROPEAN_NUMBER_SEPARATOR"), (0, u "DIRECTIONALITY_EUROPEAN_NUMBER_TERMINATOR"), (0, u "DIRECTIONALITY_ARABIC_NUMBER"), (0, u "DIRECTIONALITY_COMMON_NUMBER_SEPARATOR"), (0, u "DIRECTIONALITY_NONSPACING_MARK"), (0, u "DIRECTIONALITY_BOUNDARY_NEUTRAL"), (0, u "DIRECTIONALITY_PARAGRAPH_SEPARATOR"), (0, u "DIRECTIONALITY_SEGMENT_SEPARATOR"), (0, u "DIRECTIONALITY_WHITESPACE"), (0, u "DIRECTIONALITY_OTHER_NEUTRALS"), (0, u "DIRECTIONALITY_LEFT_TO_RIGHT_EMBEDDING"), (0, u "DIRECTIONALITY_LEFT_TO_RIGHT_OVERRIDE"), (0, u "DIRECTIONALITY_RIGHT_TO_LEFT_EMBEDDING"), (0, u "DIRECTIONALITY_RIGHT_TO_LEFT_OVERRIDE"), (1, u "DIRECTIONALITY_POP_DIRECTIONAL_FORMAT"), (0, u "DIRECTIONALITY_LEFT_TO_RIGHT_ISOLATE"), (0, u "DIRECTIONALITY_RIGHT_TO_LEFT_ISOLATE"), (0, u "DIRECTIONALITY_FIRST_STRONG_ISOLATE"), (0, u "DIRECTIONALITY_POP_DIRECTIONAL_ISOLATE"), (0, u "MIN_HIGH_SURROGATE"), (0, u "MAX_HIGH_SURROGATE"), (1, u "MIN_LOW_SURROGATE"), (0, u "MAX_LOW_SURROGATE"), (1, u "MIN_SURROGATE"), (0, u "MAX_SURROGATE"), (0, u "MIN_SUPPLEMENTARY_CODE_POINT"), (0, u "MIN_CODE_POINT"), (0, u "MAX_CODE_POINT"), (1, u "serialVersionUID"), (0, u "J"), (2, u "SIZE"), (0, u "BYTES"), (22, u "isSupplementaryCodePoint"), (1, u "isSurrogate"), (63, .class_ 596), (0, u "java/lang/Character$UnicodeScript"), (0, .class_ 598), (0, u "java/lang/Character$Subset")] 5

def k23c0 : Code := { maxStack := 2, maxLocals := 1, code := jdk_89_method_13_code, exceptionTable := #[], attributes := #[] }
def k23m0 : Method := { name := "isSupplementaryCodePoint", desc := "(I)Z", sig := { parameters := [.int], returnType := some .boolean }, accessFlags := 9, code := some k23c0 }
def k23c1 : Code := { maxStack := 2, maxLocals := 1, code := jdk_89_method_16_code, exceptionTable := #[], attributes := #[] }
def k23m1 : Method := { name := "isSurrogate", desc := "(C)Z", sig := { parameters := [.char], returnType := some .boolean }, accessFlags := 9, code := some k23c1 }
def k23c2 : Code := { maxStack := 2, maxLocals := 1, code := jdk_89_method_28_code, exceptionTable := #[], attributes := #[] }
def k23m2 : Method := { name := "highSurrogate", desc := "(I)C", sig := { parameters := [.int], returnType := some .char }, accessFlags := 9, code := some k23c2 }
def k23c3 : Code := { maxStack := 2, maxLocals := 1, code := jdk_89_method_29_code, exceptionTable := #[], attributes := #[] }
def k23m3 : Method := { name := "lowSurrogate", desc := "(I)C", sig := { parameters := [.int], returnType := some .char }, accessFlags := 9, code := some k23c3 }
/-- java/lang/Character -/
def k23 : Class := { plain "java/lang/Character" (some 0) with
  accessFlags := 49
  interfaces := #[3, 4, 6]
  cf := some (fileOf pool23 1 #[.nestMembers #[48, 595, 307, 597]] #[{ accessFlags := 9, nameIndex := 529, descriptorIndex := 114, attributes := #[] }, { accessFlags := 9, nameIndex := 531, descriptorIndex := 81, attributes := #[] }, { accessFlags := 9, nameIndex := 138, descriptorIndex := 91, attributes := #[] }, { accessFlags := 9, nameIndex := 135, descriptorIndex := 91, attributes := #[] }] 49 42 #[385, 387, 389] #[{ accessFlags := 25, nameIndex := 391, descriptorIndex := 392, attributes := #[] }, { accessFlags := 25, nameIndex := 395, descriptorIndex := 392, attributes := #[] }, { accessFlags := 25, nameIndex := 397, descriptorIndex := 22, attributes := #[] }, { accessFlags := 25, nameIndex := 399, descriptorIndex := 22, attributes := #[] }, { accessFlags := 25, nameIndex := 383, descriptorIndex := 384, attributes := #[] }, { accessFlags := 25, nameIndex := 403, descriptorIndex := 404, attributes := #[] }, { accessFlags := 25, nameIndex := 405, descriptorIndex := 404, attributes := #[] }, { accessFlags := 25, nameIndex := 407, descriptorIndex := 404, attributes := #[] }, { accessFlags := 25, nameIndex := 408, descriptorIndex := 404, attributes := #[] }, { accessFlags := 25, nameIndex := 410, descriptorIndex := 404, attributes := #[] }, { accessFlags := 25, nameIndex := 412, descriptorIndex := 404, attributes := #[] }, { accessFlags := 25, nameIndex := 414, descriptorIndex := 404, attributes := #[] }, { accessFlags := 25, nameIndex := 416, descriptorIndex := 404, attributes := #[] }, { accessFlags := 25, nameIndex := 418, descriptorIndex := 404, attributes := #[] }, { accessFlags := 25, nameIndex := 420, descriptorIndex := 404, attributes := #[] }, { accessFlags := 25, nameIndex := 422, descriptorIndex := 404, attributes := #[] }, { accessFlags := 25, nameIndex := 424, descriptorIndex := 404, attributes := #[] }, { accessFlags := 25, nameIndex := 426, descriptorIndex := 404, attributes := #[] }, { accessFlags := 25, nameIndex := 428, descriptorIndex := 404, attributes := #[] }, { accessFlags := 25, nameIndex := 430, descriptorIndex := 404, attributes := #[] }, { accessFlags := 25, nameIndex := 432, descriptorIndex := 404, attributes := #[] }, { accessFlags := 25, nameIndex := 434, descriptorIndex := 404, attributes := #[] }, { accessFlags := 25, nameIndex := 436, descriptorIndex := 404, attributes := #[] }, { accessFlags := 25, nameIndex := 438, descriptorIndex := 404, attributes := #[] }, { accessFlags := 25, nameIndex := 440, descriptorIndex := 404, attributes := #[] }, { accessFlags := 25, nameIndex := 442, descriptorIndex := 404, attributes := #[] }, { accessFlags := 25, nameIndex := 444, descriptorIndex := 404, attributes := #[] }, { accessFlags := 25, nameIndex := 446, descriptorIndex := 404, attributes := #[] }, { accessFlags := 25, nameIndex := 448, descriptorIndex := 404, attributes := #[] }, { accessFlags := 25, nameIndex := 450, descriptorIndex := 404, attributes := #[] }, { accessFlags := 25, nameIndex := 452, descriptorIndex := 404, attributes := #[] }, { accessFlags := 25, nameIndex := 454, descriptorIndex := 404, attributes := #[] }, { accessFlags := 25, nameIndex := 456, descriptorIndex := 404, attributes := #[] }, { accessFlags := 25, nameIndex := 458, descriptorIndex := 404, attributes := #[] }, { accessFlags := 25, nameIndex := 460, descriptorIndex := 404, attributes := #[] }, { accessFlags := 24, nameIndex := 462, descriptorIndex := 392, attributes := #[] }, { accessFlags := 25, nameIndex := 464, descriptorIndex := 404, attributes := #[] }, { accessFlags := 25, nameIndex := 465, descriptorIndex := 404, attributes := #[] }, { accessFlags := 25, nameIndex := 466, descriptorIndex := 404, attributes := #[] }, { accessFlags := 25, nameIndex := 467, descriptorIndex := 404, attributes := #[] }, { accessFlags := 25, nameIndex := 468, descriptorIndex := 404, attributes := #[] }, { accessFlags := 25, nameIndex := 469, descriptorIndex := 404, attributes := #[] }, { accessFlags := 25, nameIndex := 470, descriptorIndex := 404, attributes := #[] }, { accessFlags := 25, nameIndex := 471, descriptorIndex := 404, attributes := #[] }, { accessFlags := 25, nameIndex := 472, descriptorIndex := 404, attributes := #[] }, { accessFlags := 25, nameIndex := 473, descriptorIndex := 404, attributes := #[] }, { accessFlags := 25, nameIndex := 474, descriptorIndex := 404, attributes := #[] }, { accessFlags := 25, nameIndex := 475, descriptorIndex := 404, attributes := #[] }, { accessFlags := 25, nameIndex := 476, descriptorIndex := 404, attributes := #[] }, { accessFlags := 25, nameIndex := 477, descriptorIndex := 404, attributes := #[] }, { accessFlags := 25, nameIndex := 478, descriptorIndex := 404, attributes := #[] }, { accessFlags := 25, nameIndex := 479, descriptorIndex := 404, attributes := #[] }, { accessFlags := 25, nameIndex := 480, descriptorIndex := 404, attributes := #[] }, { accessFlags := 25, nameIndex := 481, descriptorIndex := 404, attributes := #[] }, { accessFlags := 25, nameIndex := 482, descriptorIndex := 404, attributes := #[] }, { accessFlags := 25, nameIndex := 484, descriptorIndex := 404, attributes := #[] }, { accessFlags := 25, nameIndex := 485, descriptorIndex := 404, attributes := #[] }, { accessFlags := 25, nameIndex := 486, descriptorIndex := 404, attributes := #[] }, { accessFlags := 25, nameIndex := 487, descriptorIndex := 404, attributes := #[] }, { accessFlags := 25, nameIndex := 488, descriptorIndex := 404, attributes := #[] }, { accessFlags := 25, nameIndex := 489, descriptorIndex := 22, attributes := #[] }, { accessFlags := 25, nameIndex := 490, descriptorIndex := 22, attributes := #[] }, { accessFlags := 25, nameIndex := 492, descriptorIndex := 22, attributes := #[] }, { accessFlags := 25, nameIndex := 493, descriptorIndex := 22, attributes := #[] }, { accessFlags := 25, nameIndex := 495, descriptorIndex := 22, attributes := #[] }, { accessFlags := 25, nameIndex := 496, descriptorIndex := 22, attributes := #[] }, { accessFlags := 25, nameIndex := 497, descriptorIndex := 392, attributes := #[] }, { accessFlags := 25, nameIndex := 498, descriptorIndex := 392, attributes := #[] }, { accessFlags := 25, nameIndex := 499, descriptorIndex := 392, attributes := #[] }, { accessFlags := 18, nameIndex := 21, descriptorIndex := 22, attributes := #[] }, { accessFlags := 26, nameIndex := 501, descriptorIndex := 502, attributes := #[] }, { accessFlags := 25, nameIndex := 505, descriptorIndex := 392, attributes := #[] }, { accessFlags := 25, nameIndex := 506, descriptorIndex := 392, attributes := #[] }, { accessFlags := 4120, nameIndex := 284, descriptorIndex := 285, attributes := #[] }])
  fields := #[{ name := "MIN_RADIX", type := .int, accessFlags := 25, slot := 0, constantValue := 0 }, { name := "MAX_RADIX", type := .int, accessFlags := 25, slot := 1, constantValue := 0 }, { name := "MIN_VALUE", type := .char, accessFlags := 25, slot := 2, constantValue := 0 }, { name := "MAX_VALUE", type := .char, accessFlags := 25, slot := 3, constantValue := 0 }, { name := "TYPE", type := (.object "java/lang/Class"), accessFlags := 25, slot := 4, constantValue := 0 }, { name := "UNASSIGNED", type := .byte, accessFlags := 25, slot := 5, constantValue := 0 }, { name := "UPPERCASE_LETTER", type := .byte, accessFlags := 25, slot := 6, constantValue := 0 }, { name := "LOWERCASE_LETTER", type := .byte, accessFlags := 25, slot := 7, constantValue := 0 }, { name := "TITLECASE_LETTER", type := .byte, accessFlags := 25, slot := 8, constantValue := 0 }, { name := "MODIFIER_LETTER", type := .byte, accessFlags := 25, slot := 9, constantValue := 0 }, { name := "OTHER_LETTER", type := .byte, accessFlags := 25, slot := 10, constantValue := 0 }, { name := "NON_SPACING_MARK", type := .byte, accessFlags := 25, slot := 11, constantValue := 0 }, { name := "ENCLOSING_MARK", type := .byte, accessFlags := 25, slot := 12, constantValue := 0 }, { name := "COMBINING_SPACING_MARK", type := .byte, accessFlags := 25, slot := 13, constantValue := 0 }, { name := "DECIMAL_DIGIT_NUMBER", type := .byte, accessFlags := 25, slot := 14, constantValue := 0 }, { name := "LETTER_NUMBER", type := .byte, accessFlags := 25, slot := 15, constantValue := 0 }, { name := "OTHER_NUMBER", type := .byte, accessFlags := 25, slot := 16, constantValue := 0 }, { name := "SPACE_SEPARATOR", type := .byte, accessFlags := 25, slot := 17, constantValue := 0 }, { name := "LINE_SEPARATOR", type := .byte, accessFlags := 25, slot := 18, constantValue := 0 }, { name := "PARAGRAPH_SEPARATOR", type := .byte, accessFlags := 25, slot := 19, constantValue := 0 }, { name := "CONTROL", type := .byte, accessFlags := 25, slot := 20, constantValue := 0 }, { name := "FORMAT", type := .byte, accessFlags := 25, slot := 21, constantValue := 0 }, { name := "PRIVATE_USE", type := .byte, accessFlags := 25, slot := 22, constantValue := 0 }, { name := "SURROGATE", type := .byte, accessFlags := 25, slot := 23, constantValue := 0 }, { name := "DASH_PUNCTUATION", type := .byte, accessFlags := 25, slot := 24, constantValue := 0 }, { name := "START_PUNCTUATION", type := .byte, accessFlags := 25, slot := 25, constantValue := 0 }, { name := "END_PUNCTUATION", type := .byte, accessFlags := 25, slot := 26, constantValue := 0 }, { name := "CONNECTOR_PUNCTUATION", type := .byte, accessFlags := 25, slot := 27, constantValue := 0 }, { name := "OTHER_PUNCTUATION", type := .byte, accessFlags := 25, slot := 28, constantValue := 0 }, { name := "MATH_SYMBOL", type := .byte, accessFlags := 25, slot := 29, constantValue := 0 }, { name := "CURRENCY_SYMBOL", type := .byte, accessFlags := 25, slot := 30, constantValue := 0 }, { name := "MODIFIER_SYMBOL", type := .byte, accessFlags := 25, slot := 31, constantValue := 0 }, { name := "OTHER_SYMBOL", type := .byte, accessFlags := 25, slot := 32, constantValue := 0 }, { name := "INITIAL_QUOTE_PUNCTUATION", type := .byte, accessFlags := 25, slot := 33, constantValue := 0 }, { name := "FINAL_QUOTE_PUNCTUATION", type := .byte, accessFlags := 25, slot := 34, constantValue := 0 }, { name := "ERROR", type := .int, accessFlags := 24, slot := 35, constantValue := 0 }, { name := "DIRECTIONALITY_UNDEFINED", type := .byte, accessFlags := 25, slot := 36, constantValue := 0 }, { name := "DIRECTIONALITY_LEFT_TO_RIGHT", type := .byte, accessFlags := 25, slot := 37, constantValue := 0 }, { name := "DIRECTIONALITY_RIGHT_TO_LEFT", type := .byte, accessFlags := 25, slot := 38, constantValue := 0 }, { name := "DIRECTIONALITY_RIGHT_TO_LEFT_ARABIC", type := .byte, accessFlags := 25, slot := 39, constantValue := 0 }, { name := "DIRECTIONALITY_EUROPEAN_NUMBER", type := .byte, accessFlags := 25, slot := 40, constantValue := 0 }, { name := "DIRECTIONALITY_EUROPEAN_NUMBER_SEPARATOR", type := .byte, accessFlags := 25, slot := 41, constantValue := 0 }, { name := "DIRECTIONALITY_EUROPEAN_NUMBER_TERMINATOR", type := .byte, accessFlags := 25, slot := 42, constantValue := 0 }, { name := "DIRECTIONALITY_ARABIC_NUMBER", type := .byte, accessFlags := 25, slot := 43, constantValue := 0 }, { name := "DIRECTIONALITY_COMMON_NUMBER_SEPARATOR", type := .byte, accessFlags := 25, slot := 44, constantValue := 0 }, { name := "DIRECTIONALITY_NONSPACING_MARK", type := .byte, accessFlags := 25, slot := 45, constantValue := 0 }, { name := "DIRECTIONALITY_BOUNDARY_NEUTRAL", type := .byte, accessFlags := 25, slot := 46, constantValue := 0 }, { name := "DIRECTIONALITY_PARAGRAPH_SEPARATOR", type := .byte, accessFlags := 25, slot := 47, constantValue := 0 }, { name := "DIRECTIONALITY_SEGMENT_SEPARATOR", type := .byte, accessFlags := 25, slot := 48, constantValue := 0 }, { name := "DIRECTIONALITY_WHITESPACE", type := .byte, accessFlags := 25, slot := 49, constantValue := 0 }, { name := "DIRECTIONALITY_OTHER_NEUTRALS", type := .byte, accessFlags := 25, slot := 50, constantValue := 0 }, { name := "DIRECTIONALITY_LEFT_TO_RIGHT_EMBEDDING", type := .byte, accessFlags := 25, slot := 51, constantValue := 0 }, { name := "DIRECTIONALITY_LEFT_TO_RIGHT_OVERRIDE", type := .byte, accessFlags := 25, slot := 52, constantValue := 0 }, { name := "DIRECTIONALITY_RIGHT_TO_LEFT_EMBEDDING", type := .byte, accessFlags := 25, slot := 53, constantValue := 0 }, { name := "DIRECTIONALITY_RIGHT_TO_LEFT_OVERRIDE", type := .byte, accessFlags := 25, slot := 54, constantValue := 0 }, { name := "DIRECTIONALITY_POP_DIRECTIONAL_FORMAT", type := .byte, accessFlags := 25, slot := 55, constantValue := 0 }, { name := "DIRECTIONALITY_LEFT_TO_RIGHT_ISOLATE", type := .byte, accessFlags := 25, slot := 56, constantValue := 0 }, { name := "DIRECTIONALITY_RIGHT_TO_LEFT_ISOLATE", type := .byte, accessFlags := 25, slot := 57, constantValue := 0 }, { name := "DIRECTIONALITY_FIRST_STRONG_ISOLATE", type := .byte, accessFlags := 25, slot := 58, constantValue := 0 }, { name := "DIRECTIONALITY_POP_DIRECTIONAL_ISOLATE", type := .byte, accessFlags := 25, slot := 59, constantValue := 0 }, { name := "MIN_HIGH_SURROGATE", type := .char, accessFlags := 25, slot := 60, constantValue := 0 }, { name := "MAX_HIGH_SURROGATE", type := .char, accessFlags := 25, slot := 61, constantValue := 0 }, { name := "MIN_LOW_SURROGATE", type := .char, accessFlags := 25, slot := 62, constantValue := 0 }, { name := "MAX_LOW_SURROGATE", type := .char, accessFlags := 25, slot := 63, constantValue := 0 }, { name := "MIN_SURROGATE", type := .char, accessFlags := 25, slot := 64, constantValue := 0 }, { name := "MAX_SURROGATE", type := .char, accessFlags := 25, slot := 65, constantValue := 0 }, { name := "MIN_SUPPLEMENTARY_CODE_POINT", type := .int, accessFlags := 25, slot := 66, constantValue := 0 }, { name := "MIN_CODE_POINT", type := .int, accessFlags := 25, slot := 67, constantValue := 0 }, { name := "MAX_CODE_POINT", type := .int, accessFlags := 25, slot := 68, constantValue := 0 }, { name := "value", type := .char, accessFlags := 18, slot := 0, constantValue := 0 }, { name := "serialVersionUID", type := .long, accessFlags := 26, slot := 69, constantValue := 0 }, { name := "SIZE", type := .int, accessFlags := 25, slot := 70, constantValue := 0 }, { name := "BYTES", type := .int, accessFlags := 25, slot := 71, constantValue := 0 }, { name := "$assertionsDisabled", type := .boolean, accessFlags := 4120, slot := 72, constantValue := 0 }]
  methods := #[k23m0, k23m1, k23m2, k23m3]
  instanceTypes := #[.char]
  staticTypes := #[.int, .int, .char, .char, (.object "java/lang/Class"), .byte, .byte, .byte, .byte, .byte, .byte, .byte, .byte, .byte, .byte, .byte, .byte, .byte, .byte, .byte, .byte, .byte, .byte, .byte, .byte, .byte, .byte, .byte, .byte, .byte, .byte, .byte, .byte, .byte, .byte, .int, .byte, .byte, .byte, .byte, .byte, .byte, .byte, .byte, .byte, .byte, .byte, .byte, .byte, .byte, .byte, .byte, .byte, .byte, .byte, .byte, .byte, .byte, .byte, .byte, .char, .char, .char, .char, .char, .char, .int, .int, .int, .long, .int, .int, .boolean]
  resolved := Array.replicate 604 none
  statics := none }

def pool24 : Array CpInfo := pool [(9, u "<init>"), (6, .class_ 18), (1, u "java/lang/Object"), (0, u "()V"), (1, .class_ 23), (1, u "jdk/internal/util/ArraysSupport"), (0, u "LOG2_ARRAY_LONG_INDEX_SCALE"), (0, u "I"), (2, u "U"), (0, u "Ljdk/internal/misc/Unsafe;"), (8, u "BIG_ENDIAN"), (0, u "Z"), (8, u "LOG2_BYTE_BIT_SIZE"), (4, u "LOG2_ARRAY_INT_INDEX_SCALE"), (54, u "JLA"), (0, u "Ljdk/internal/access/JavaLangAccess;"), (11, u "LOG2_ARRAY_BOOLEAN_INDEX_SCALE"), (9, u "LOG2_ARRAY_BYTE_INDEX_SCALE"), (5, u "LOG2_ARRAY_CHAR_INDEX_SCALE"), (5, u "LOG2_ARRAY_SHORT_INDEX_SCALE"), (18, u "LOG2_ARRAY_FLOAT_INDEX_SCALE"), (24, u "LOG2_ARRAY_DOUBLE_INDEX_SCALE"), (89, u "T_BOOLEAN"), (2, u "T_CHAR"), (1, u "T_FLOAT"), (1, u "T_DOUBLE"), (1, u "T_BYTE"), (1, u "T_SHORT"), (1, u "T_INT"), (1, u "T_LONG"), (1, u "SOFT_MAX_ARRAY_LENGTH")] 83

def k24m0 : Method := { name := "<init>", desc := "()V", sig := { parameters := [], returnType := none }, accessFlags := 2, code := none }
/-- jdk/internal/util/ArraysSupport -/
def k24 : Class := { plain "jdk/internal/util/ArraysSupport" (some 0) with
  accessFlags := 33
  interfaces := #[]
  cf := some (fileOf pool24 21 #[] #[{ accessFlags := 2, nameIndex := 9, descriptorIndex := 19, attributes := #[] }] 33 16 #[] #[{ accessFlags := 24, nameIndex := 28, descriptorIndex := 29, attributes := #[] }, { accessFlags := 26, nameIndex := 38, descriptorIndex := 39, attributes := #[] }, { accessFlags := 25, nameIndex := 121, descriptorIndex := 25, attributes := #[] }, { accessFlags := 25, nameIndex := 131, descriptorIndex := 25, attributes := #[] }, { accessFlags := 25, nameIndex := 137, descriptorIndex := 25, attributes := #[] }, { accessFlags := 25, nameIndex := 143, descriptorIndex := 25, attributes := #[] }, { accessFlags := 25, nameIndex := 53, descriptorIndex := 25, attributes := #[] }, { accessFlags := 25, nameIndex := 24, descriptorIndex := 25, attributes := #[] }, { accessFlags := 25, nameIndex := 162, descriptorIndex := 25, attributes := #[] }, { accessFlags := 25, nameIndex := 187, descriptorIndex := 25, attributes := #[] }, { accessFlags := 26, nameIndex := 48, descriptorIndex := 25, attributes := #[] }, { accessFlags := 25, nameIndex := 277, descriptorIndex := 25, attributes := #[] }, { accessFlags := 25, nameIndex := 280, descriptorIndex := 25, attributes := #[] }, { accessFlags := 25, nameIndex := 282, descriptorIndex := 25, attributes := #[] }, { accessFlags := 25, nameIndex := 284, descriptorIndex := 25, attributes := #[] }, { accessFlags := 25, nameIndex := 286, descriptorIndex := 25, attributes := #[] }, { accessFlags := 25, nameIndex := 288, descriptorIndex := 25, attributes := #[] }, { accessFlags := 25, nameIndex := 290, descriptorIndex := 25, attributes := #[] }, { accessFlags := 25, nameIndex := 292, descriptorIndex := 25, attributes := #[] }, { accessFlags := 26, nameIndex := 108, descriptorIndex := 109, attributes := #[] }, { accessFlags := 25, nameIndex := 294, descriptorIndex := 25, attributes := #[] }])
  fields := #[{ name := "U", type := (.object "jdk/internal/misc/Unsafe"), accessFlags := 24, slot := 0, constantValue := 0 }, { name := "BIG_ENDIAN", type := .boolean, accessFlags := 26, slot := 1, constantValue := 0 }, { name := "LOG2_ARRAY_BOOLEAN_INDEX_SCALE", type := .int, accessFlags := 25, slot := 2, constantValue := 0 }, { name := "LOG2_ARRAY_BYTE_INDEX_SCALE", type := .int, accessFlags := 25, slot := 3, constantValue := 0 }, { name := "LOG2_ARRAY_CHAR_INDEX_SCALE", type := .int, accessFlags := 25, slot := 4, constantValue := 0 }, { name := "LOG2_ARRAY_SHORT_INDEX_SCALE", type := .int, accessFlags := 25, slot := 5, constantValue := 0 }, { name := "LOG2_ARRAY_INT_INDEX_SCALE", type := .int, accessFlags := 25, slot := 6, constantValue := 0 }, { name := "LOG2_ARRAY_LONG_INDEX_SCALE", type := .int, accessFlags := 25, slot := 7, constantValue := 0 }, { name := "LOG2_ARRAY_FLOAT_INDEX_SCALE", type := .int, accessFlags := 25, slot := 8, constantValue := 0 }, { name := "LOG2_ARRAY_DOUBLE_INDEX_SCALE", type := .int, accessFlags := 25, slot := 9, constantValue := 0 }, { name := "LOG2_BYTE_BIT_SIZE", type := .int, accessFlags := 26, slot := 10, constantValue := 0 }, { name := "T_BOOLEAN", type := .int, accessFlags := 25, slot := 11, constantValue := 0 }, { name := "T_CHAR", type := .int, accessFlags := 25, slot := 12, constantValue := 0 }, { name := "T_FLOAT", type := .int, accessFlags := 25, slot := 13, constantValue := 0 }, { name := "T_DOUBLE", type := .int, accessFlags := 25, slot := 14, constantValue := 0 }, { name := "T_BYTE", type := .int, accessFlags := 25, slot := 15, constantValue := 0 }, { name := "T_SHORT", type := .int, accessFlags := 25, slot := 16, constantValue := 0 }, { name := "T_INT", type := .int, accessFlags := 25, slot := 17, constantValue := 0 }, { name := "T_LONG", type := .int, accessFlags := 25, slot := 18, constantValue := 0 }, { name := "JLA", type := (.object "jdk/internal/access/JavaLangAccess"), accessFlags := 26, slot := 19, constantValue := 0 }, { name := "SOFT_MAX_ARRAY_LENGTH", type := .int, accessFlags := 25, slot := 20, constantValue := 0 }]
  methods := #[k24m0]
  instanceTypes := #[]
  staticTypes := #[(.object "jdk/internal/misc/Unsafe"), .boolean, .int, .int, .int, .int, .int, .int, .int, .int, .int, .int, .int, .int, .int, .int, .int, .int, .int, (.object "jdk/internal/access/JavaLangAccess"), .int]
  resolved := Array.replicate 378 none
  statics := none }

/-- the primitive byte -/
def k25 : Class := { plain "byte" none with kind := .primitive 'B', accessFlags := 0x411 }
/-- [B -/
def k26 : Class := { plain "[B" (some 0) with kind := .array 25 .byte, interfaces := #[21, 3], accessFlags := 1041 }

/-- the primitive int -/
def k27 : Class := { plain "int" none with kind := .primitive 'I', accessFlags := 0x411 }
/-- [I -/
def k28 : Class := { plain "[I" (some 0) with kind := .array 27 .int, interfaces := #[21, 3], accessFlags := 1041 }

def heap : Heap := #[{ cls := 8, slots := #[.long 0, .int 1, .null, .int 0, .null, .int 0, .int 0], vm := .statics 8 },
  { cls := 9, slots := #[.null, .null, .ref 5, .null, .null, .null], vm := .statics 9 },
  { cls := 14, slots := #[.ref 5, .null], vm := .statics 14 },
  { cls := 15, slots := #[.null, .null, .null], vm := .statics 15 },
  { cls := 22, slots := #[.int 0, .int 8, .int 0, .int 1], vm := .statics 22 },
  { cls := 14, slots := #[.null, .null, .null], vm := .none }]
def classes : Array Class := #[k0, k1, k2, k3, k4, k5, k6, k7, k8, k9, k10, k11, k12, k13, k14, k15, k16, k17, k18, k19, k20, k21, k22, k23, k24, k25, k26, k27, k28]
def interned : List (Array UInt16 × Addr) := []
def slotsUsed : Nat := 25
def theMethod : MethodId := ⟨1, 1⟩
def args0 : Array Value := #[.int 65]
def aboutOver (below : List Frame) : State where
  vm := { classes := classes, interned := interned.toArray }
  heap := heap
  slotsUsed := slotsUsed
  threads := #[{ frames := .invoking theMethod args0 :: below }]
def below0 : List Frame := [.native { method := ⟨0, 0⟩, args := #[] }]
def about1 : State := aboutOver below0
def p0 : Program := .bare "" "" ""
def e0 : Env := launch0.env 0 0 0
theorem w_frames : about1.frames = Frame.invoking theMethod args0 :: below0 := rfl
set_option maxRecDepth 65536 in
theorem w_args : argsFit about1.vm theMethod args0 = true := by decide +kernel
set_option maxRecDepth 65536 in
theorem w_heap : heapFits about1 = true := by decide +kernel
set_option maxRecDepth 65536 in
theorem w_runnable : about1.curStatus? = some .runnable := by decide +kernel
set_option maxRecDepth 65536 in
theorem w_alone : about1.alone = true := by decide +kernel
set_option maxRecDepth 65536 in
theorem w_named : about1.methodNamed? x = some theMethod := by decide +kernel
set_option maxRecDepth 65536 in
theorem w_hears : about1.hears theMethod below0 = true := by decide +kernel
set_option maxRecDepth 65536 in
theorem w_ripe : about1.ripe theMethod args0 below0 = true := by decide +kernel
theorem w_running : about1.status = .running := rfl
set_option maxRecDepth 65536 in
theorem w_room : about1.hasRoom e0.platform room_1 = true :=
  launch0.hasRoom_least _ room_1 (by decide +kernel) (by decide +kernel) (by decide +kernel) (by decide +kernel) (by decide +kernel) (by decide +kernel)
theorem allAtoms_all (ts : List Jvm.Cond) (a : Array Jvm.Value) (st : Jvm.State) : (allAtoms ts).before a st = ts.all (fun c => c.before a st) := by
  induction ts with
  | nil => rfl
  | cons c t ih =>
    show (Jvm.Cond.and c (allAtoms t)).before a st = _
    rw [Jvm.Cond.before_and, ih, List.all_cons]
def words1 : List Jvm.Cond := Jvm.Cond.code x code maxLocals ret :: tables_1
/-- a 'code' word, met by the world's own term for the bytes: nothing is compared byte by byte -/
theorem code_word {y : MethodName} {bytes : ByteArray} {mx : Nat} {rt : Option FieldType} {a : Array Value} {s : State} {m : MethodId} {meth : Method} {c : Code} (h1 : s.methodNamed? y = some m) (h2 : s.vm.method? m = some meth) (h3 : meth.code = some c) (h4 : c.code = bytes)
    (h5 : (c.maxLocals == mx && c.exceptionTable.isEmpty && decide (c.maxStack ≤ mostOperands) && decide (meth.sig.returnType = rt) && !meth.locks && decide (parseMethodDescriptor y.desc = some meth.sig)) = true) : (Jvm.Cond.code y bytes mx rt).before a s = true := by
  simp only [Bool.and_eq_true, beq_iff_eq, Bool.not_eq_true', decide_eq_true_eq] at h5
  obtain ⟨⟨⟨⟨⟨g1, g2⟩, g3⟩, g4⟩, g5⟩, g6⟩ := h5
  simp [Cond.before, Cond.holds, Cond.value, h1, h2, h3, h4, g1, g2, g3, g4, g5, g6]
def isCode : Jvm.Cond → Bool
  | .code _ _ _ _ => true
  | .codeWith _ _ _ _ _ => true
  | _ => false
theorem all_split {L : List Jvm.Cond} {P : Jvm.Cond → Bool} (h1 : L.all (fun c => isCode c || P c) = true) (h2 : ∀ c ∈ L.filter isCode, P c = true) : L.all P = true := by
  refine List.all_eq_true.mpr fun c hc => ?_
  have h := List.all_eq_true.mp h1 c hc
  rcases Bool.eq_false_or_eq_true (isCode c) with hi | hi
  · exact h2 c (List.mem_filter.mpr ⟨hc, hi⟩)
  · simpa [hi] using h
set_option maxRecDepth 65536 in
theorem w_c0 : (Jvm.Cond.code x code maxLocals ret).before args0 about1 = true := code_word (m := ⟨1, 1⟩) (meth := k1m1) (c := k1c1) (by decide +kernel) rfl rfl rfl (by decide +kernel)
set_option maxRecDepth 65536 in
theorem w_c1 : (Jvm.Cond.code ({ cls := "clearcut/Text", name := "encodedSize", desc := "(I)I" } : Jvm.MethodName) prog_60_method_9_code (1 : Nat) (Option.some Jvm.ClassFile.FieldType.int)).before args0 about1 = true := code_word (m := ⟨2, 5⟩) (meth := k2m5) (c := k2c5) (by decide +kernel) rfl rfl rfl (by decide +kernel)
set_option maxRecDepth 65536 in
theorem w_c2 : (Jvm.Cond.code ({ cls := "clearcut/Text", name := "encode", desc := "(I[BI)I" } : Jvm.MethodName) prog_60_method_10_code (6 : Nat) (Option.some Jvm.ClassFile.FieldType.int)).before args0 about1 = true := code_word (m := ⟨2, 6⟩) (meth := k2m6) (c := k2c6) (by decide +kernel) rfl rfl rfl (by decide +kernel)
set_option maxRecDepth 65536 in
theorem w_c3 : (Jvm.Cond.code ({ cls := "clearcut/Text", name := "<init>", desc := "([BI)V" } : Jvm.MethodName) prog_60_method_2_code (3 : Nat) (Option.none : Option Jvm.ClassFile.FieldType)).before args0 about1 = true := code_word (m := ⟨2, 0⟩) (meth := k2m0) (c := k2c0) (by decide +kernel) rfl rfl rfl (by decide +kernel)
set_option maxRecDepth 65536 in
theorem w_c4 : (Jvm.Cond.code ({ cls := "java/lang/Object", name := "<init>", desc := "()V" } : Jvm.MethodName) object_method_1_code (1 : Nat) (Option.none : Option Jvm.ClassFile.FieldType)).before args0 about1 = true := code_word (m := ⟨0, 0⟩) (meth := k0m0) (c := k0c0) (by decide +kernel) rfl rfl rfl (by decide +kernel)
set_option maxRecDepth 65536 in
theorem w_c5 : (Jvm.Cond.code ({ cls := "clearcut/Text", name := "next", desc := "(I)I" } : Jvm.MethodName) prog_60_method_7_code (2 : Nat) (Option.some Jvm.ClassFile.FieldType.int)).before args0 about1 = true := code_word (m := ⟨2, 3⟩) (meth := k2m3) (c := k2c3) (by decide +kernel) rfl rfl rfl (by decide +kernel)
set_option maxRecDepth 65536 in
theorem w_c6 : (Jvm.Cond.code ({ cls := "clearcut/Text", name := "at", desc := "(I)I" } : Jvm.MethodName) prog_60_method_4_code (2 : Nat) (Option.some Jvm.ClassFile.FieldType.int)).before args0 about1 = true := code_word (m := ⟨2, 1⟩) (meth := k2m1) (c := k2c1) (by decide +kernel) rfl rfl rfl (by decide +kernel)
set_option maxRecDepth 65536 in
theorem w_c7 : (Jvm.Cond.code ({ cls := "clearcut/Text", name := "size", desc := "(I)I" } : Jvm.MethodName) prog_60_method_8_code (1 : Nat) (Option.some Jvm.ClassFile.FieldType.int)).before args0 about1 = true := code_word (m := ⟨2, 4⟩) (meth := k2m4) (c := k2c4) (by decide +kernel) rfl rfl rfl (by decide +kernel)
set_option maxRecDepth 65536 in
theorem w_c8 : (Jvm.Cond.code ({ cls := "clearcut/Text", name := "codePointAt", desc := "(I)I" } : Jvm.MethodName) prog_60_method_6_code (6 : Nat) (Option.some Jvm.ClassFile.FieldType.int)).before args0 about1 = true := code_word (m := ⟨2, 2⟩) (meth := k2m2) (c := k2c2) (by decide +kernel) rfl rfl rfl (by decide +kernel)
set_option maxRecDepth 65536 in
theorem w_c9 : (Jvm.Cond.code ({ cls := "clearcut/Text", name := "substring", desc := "(II)Ljava/lang/String;" } : Jvm.MethodName) prog_60_method_13_code (4 : Nat) (Option.some (Jvm.ClassFile.FieldType.object "java/lang/String"))).before args0 about1 = true := code_word (m := ⟨2, 7⟩) (meth := k2m7) (c := k2c7) (by decide +kernel) rfl rfl rfl (by decide +kernel)
set_option maxRecDepth 65536 in
theorem w_c10 : (Jvm.Cond.code ({ cls := "clearcut/Text", name := "decode", desc := "(II)Ljava/lang/String;" } : Jvm.MethodName) prog_60_method_17_code (3 : Nat) (Option.some (Jvm.ClassFile.FieldType.object "java/lang/String"))).before args0 about1 = true := code_word (m := ⟨2, 8⟩) (meth := k2m8) (c := k2c8) (by decide +kernel) rfl rfl rfl (by decide +kernel)
set_option maxRecDepth 65536 in
theorem w_c11 : (Jvm.Cond.code ({ cls := "java/lang/String", name := "<init>", desc := "([BIILjava/nio/charset/Charset;)V" } : Jvm.MethodName) jdk_42_method_10_code (5 : Nat) (Option.none : Option Jvm.ClassFile.FieldType)).before args0 about1 = true := code_word (m := ⟨8, 1⟩) (meth := k8m1) (c := k8c1) (by decide +kernel) rfl rfl rfl (by decide +kernel)
set_option maxRecDepth 65536 in
theorem w_c12 : (Jvm.Cond.code ({ cls := "java/util/Objects", name := "requireNonNull", desc := "(Ljava/lang/Object;)Ljava/lang/Object;" } : Jvm.MethodName) jdk_31_method_10_code (1 : Nat) (Option.some (Jvm.ClassFile.FieldType.object "java/lang/Object"))).before args0 about1 = true := code_word (m := ⟨10, 1⟩) (meth := k10m1) (c := k10c1) (by decide +kernel) rfl rfl rfl (by decide +kernel)
set_option maxRecDepth 65536 in
theorem w_c13 : (Jvm.Cond.code ({ cls := "java/lang/String", name := "checkBoundsOffCount", desc := "(III)I" } : Jvm.MethodName) jdk_42_method_157_code (3 : Nat) (Option.some Jvm.ClassFile.FieldType.int)).before args0 about1 = true := code_word (m := ⟨8, 15⟩) (meth := k8m15) (c := k8c15) (by decide +kernel) rfl rfl rfl (by decide +kernel)
set_option maxRecDepth 65536 in
theorem w_c14 : (Jvm.Cond.code ({ cls := "jdk/internal/util/Preconditions", name := "checkFromIndexSize", desc := "(IIILjava/util/function/BiFunction;)I" } : Jvm.MethodName) jdk_41_method_13_code (4 : Nat) (Option.some Jvm.ClassFile.FieldType.int)).before args0 about1 = true := code_word (m := ⟨15, 2⟩) (meth := k15m2) (c := k15c2) (by decide +kernel) rfl rfl rfl (by decide +kernel)
set_option maxRecDepth 65536 in
theorem w_c15 : (Jvm.Cond.code ({ cls := "java/lang/StringCoding", name := "countPositives", desc := "([BII)I" } : Jvm.MethodName) jdk_123_method_3_code (5 : Nat) (Option.some Jvm.ClassFile.FieldType.int)).before args0 about1 = true := code_word (m := ⟨16, 1⟩) (meth := k16m1) (c := k16c1) (by decide +kernel) rfl rfl rfl (by decide +kernel)
set_option maxRecDepth 65536 in
theorem w_c16 : (Jvm.Cond.code ({ cls := "java/util/Arrays", name := "copyOfRange", desc := "([BII)[B" } : Jvm.MethodName) jdk_65_method_132_code (3 : Nat) (Option.some (Jvm.ClassFile.FieldType.array Jvm.ClassFile.FieldType.byte))).before args0 about1 = true := code_word (m := ⟨17, 3⟩) (meth := k17m3) (c := k17c3) (by decide +kernel) rfl rfl rfl (by decide +kernel)
set_option maxRecDepth 65536 in
theorem w_c17 : (Jvm.Cond.code ({ cls := "java/util/Arrays", name := "copyOfRangeByte", desc := "([BII)[B" } : Jvm.MethodName) jdk_65_method_133_code (5 : Nat) (Option.some (Jvm.ClassFile.FieldType.array Jvm.ClassFile.FieldType.byte))).before args0 about1 = true := code_word (m := ⟨17, 4⟩) (meth := k17m4) (c := k17c4) (by decide +kernel) rfl rfl rfl (by decide +kernel)
set_option maxRecDepth 65536 in
theorem w_c18 : (Jvm.Cond.code ({ cls := "java/util/Arrays", name := "checkLength", desc := "(II)V" } : Jvm.MethodName) jdk_65_method_131_code (2 : Nat) (Option.none : Option Jvm.ClassFile.FieldType)).before args0 about1 = true := code_word (m := ⟨17, 2⟩) (meth := k17m2) (c := k17c2) (by decide +kernel) rfl rfl rfl (by decide +kernel)
set_option maxRecDepth 65536 in
theorem w_c19 : (Jvm.Cond.code ({ cls := "java/lang/Math", name := "min", desc := "(II)I" } : Jvm.MethodName) jdk_29_method_69_code (2 : Nat) (Option.some Jvm.ClassFile.FieldType.int)).before args0 about1 = true := code_word (m := ⟨18, 1⟩) (meth := k18m1) (c := k18c1) (by decide +kernel) rfl rfl rfl (by decide +kernel)
set_option maxRecDepth 65536 in
theorem w_c20 : (Jvm.Cond.code ({ cls := "java/lang/String", name := "length", desc := "()I" } : Jvm.MethodName) jdk_42_method_54_code (1 : Nat) (Option.some Jvm.ClassFile.FieldType.int)).before args0 about1 = true := code_word (m := ⟨8, 10⟩) (meth := k8m10) (c := k8c10) (by decide +kernel) rfl rfl rfl (by decide +kernel)
set_option maxRecDepth 65536 in
theorem w_c21 : (Jvm.Cond.code ({ cls := "java/lang/String", name := "coder", desc := "()B" } : Jvm.MethodName) jdk_42_method_152_code (1 : Nat) (Option.some Jvm.ClassFile.FieldType.byte)).before args0 about1 = true := code_word (m := ⟨8, 12⟩) (meth := k8m12) (c := k8c12) (by decide +kernel) rfl rfl rfl (by decide +kernel)
set_option maxRecDepth 65536 in
theorem w_c22 : (Jvm.Cond.code ({ cls := "java/lang/String", name := "charAt", desc := "(I)C" } : Jvm.MethodName) jdk_42_method_56_code (2 : Nat) (Option.some Jvm.ClassFile.FieldType.char)).before args0 about1 = true := code_word (m := ⟨8, 11⟩) (meth := k8m11) (c := k8c11) (by decide +kernel) rfl rfl rfl (by decide +kernel)
set_option maxRecDepth 65536 in
theorem w_c23 : (Jvm.Cond.code ({ cls := "java/lang/String", name := "isLatin1", desc := "()Z" } : Jvm.MethodName) jdk_42_method_154_code (1 : Nat) (Option.some Jvm.ClassFile.FieldType.boolean)).before args0 about1 = true := code_word (m := ⟨8, 13⟩) (meth := k8m13) (c := k8c13) (by decide +kernel) rfl rfl rfl (by decide +kernel)
set_option maxRecDepth 65536 in
theorem w_c24 : (Jvm.Cond.code ({ cls := "java/lang/StringLatin1", name := "charAt", desc := "([BI)C" } : Jvm.MethodName) jdk_43_method_2_code (2 : Nat) (Option.some Jvm.ClassFile.FieldType.char)).before args0 about1 = true := code_word (m := ⟨20, 1⟩) (meth := k20m1) (c := k20c1) (by decide +kernel) rfl rfl rfl (by decide +kernel)
set_option maxRecDepth 65536 in
theorem w_c25 : (Jvm.Cond.code ({ cls := "java/lang/String", name := "checkIndex", desc := "(II)V" } : Jvm.MethodName) jdk_42_method_155_code (2 : Nat) (Option.none : Option Jvm.ClassFile.FieldType)).before args0 about1 = true := code_word (m := ⟨8, 14⟩) (meth := k8m14) (c := k8c14) (by decide +kernel) rfl rfl rfl (by decide +kernel)
set_option maxRecDepth 65536 in
theorem w_c26 : (Jvm.Cond.code ({ cls := "jdk/internal/util/Preconditions", name := "checkIndex", desc := "(IILjava/util/function/BiFunction;)I" } : Jvm.MethodName) jdk_41_method_11_code (3 : Nat) (Option.some Jvm.ClassFile.FieldType.int)).before args0 about1 = true := code_word (m := ⟨15, 1⟩) (meth := k15m1) (c := k15c1) (by decide +kernel) rfl rfl rfl (by decide +kernel)
set_option maxRecDepth 65536 in
theorem w_c27 : (Jvm.Cond.code ({ cls := "java/lang/StringUTF16", name := "newBytesFor", desc := "(I)[B" } : Jvm.MethodName) jdk_52_method_2_code (1 : Nat) (Option.some (Jvm.ClassFile.FieldType.array Jvm.ClassFile.FieldType.byte))).before args0 about1 = true := code_word (m := ⟨22, 1⟩) (meth := k22m1) (c := k22c1) (by decide +kernel) rfl rfl rfl (by decide +kernel)
set_option maxRecDepth 65536 in
theorem w_c28 : (Jvm.Cond.code ({ cls := "java/lang/StringUTF16", name := "newBytesLength", desc := "(I)I" } : Jvm.MethodName) jdk_52_method_3_code (1 : Nat) (Option.some Jvm.ClassFile.FieldType.int)).before args0 about1 = true := code_word (m := ⟨22, 2⟩) (meth := k22m2) (c := k22c2) (by decide +kernel) rfl rfl rfl (by decide +kernel)
set_option maxRecDepth 65536 in
theorem w_c29 : (Jvm.Cond.code ({ cls := "java/lang/StringLatin1", name := "inflate", desc := "([BI[BII)V" } : Jvm.MethodName) jdk_43_method_50_code (5 : Nat) (Option.none : Option Jvm.ClassFile.FieldType)).before args0 about1 = true := code_word (m := ⟨20, 2⟩) (meth := k20m2) (c := k20c2) (by decide +kernel) rfl rfl rfl (by decide +kernel)
set_option maxRecDepth 65536 in
theorem w_c30 : (Jvm.Cond.code ({ cls := "java/lang/StringUTF16", name := "inflate", desc := "([BI[BII)V" } : Jvm.MethodName) jdk_52_method_86_code (6 : Nat) (Option.none : Option Jvm.ClassFile.FieldType)).before args0 about1 = true := code_word (m := ⟨22, 7⟩) (meth := k22m7) (c := k22c7) (by decide +kernel) rfl rfl rfl (by decide +kernel)
set_option maxRecDepth 65536 in
theorem w_c31 : (Jvm.Cond.code ({ cls := "java/lang/StringUTF16", name := "checkBoundsOffCount", desc := "(II[B)V" } : Jvm.MethodName) jdk_52_method_94_code (3 : Nat) (Option.none : Option Jvm.ClassFile.FieldType)).before args0 about1 = true := code_word (m := ⟨22, 9⟩) (meth := k22m9) (c := k22c9) (by decide +kernel) rfl rfl rfl (by decide +kernel)
set_option maxRecDepth 65536 in
theorem w_c32 : (Jvm.Cond.code ({ cls := "java/lang/StringUTF16", name := "length", desc := "([B)I" } : Jvm.MethodName) jdk_52_method_6_code (1 : Nat) (Option.some Jvm.ClassFile.FieldType.int)).before args0 about1 = true := code_word (m := ⟨22, 5⟩) (meth := k22m5) (c := k22c5) (by decide +kernel) rfl rfl rfl (by decide +kernel)
set_option maxRecDepth 65536 in
theorem w_c33 : (Jvm.Cond.code ({ cls := "java/lang/String", name := "decodeUTF8_UTF16", desc := "([BII[BIZ)I" } : Jvm.MethodName) jdk_42_method_38_code (11 : Nat) (Option.some Jvm.ClassFile.FieldType.int)).before args0 about1 = true := code_word (m := ⟨8, 9⟩) (meth := k8m9) (c := k8c9) (by decide +kernel) rfl rfl rfl (by decide +kernel)
set_option maxRecDepth 65536 in
theorem w_c34 : (Jvm.Cond.code ({ cls := "java/lang/String", name := "decode4", desc := "(IIII)I" } : Jvm.MethodName) jdk_42_method_37_code (4 : Nat) (Option.some Jvm.ClassFile.FieldType.int)).before args0 about1 = true := code_word (m := ⟨8, 8⟩) (meth := k8m8) (c := k8c8) (by decide +kernel) rfl rfl rfl (by decide +kernel)
set_option maxRecDepth 65536 in
theorem w_c35 : (Jvm.Cond.code ({ cls := "java/lang/String", name := "isMalformed4", desc := "(III)Z" } : Jvm.MethodName) jdk_42_method_32_code (3 : Nat) (Option.some Jvm.ClassFile.FieldType.boolean)).before args0 about1 = true := code_word (m := ⟨8, 5⟩) (meth := k8m5) (c := k8c5) (by decide +kernel) rfl rfl rfl (by decide +kernel)
set_option maxRecDepth 65536 in
theorem w_c36 : (Jvm.Cond.code ({ cls := "java/lang/Character", name := "isSupplementaryCodePoint", desc := "(I)Z" } : Jvm.MethodName) jdk_89_method_13_code (1 : Nat) (Option.some Jvm.ClassFile.FieldType.boolean)).before args0 about1 = true := code_word (m := ⟨23, 0⟩) (meth := k23m0) (c := k23c0) (by decide +kernel) rfl rfl rfl (by decide +kernel)
set_option maxRecDepth 65536 in
theorem w_c37 : (Jvm.Cond.code ({ cls := "java/lang/Character", name := "highSurrogate", desc := "(I)C" } : Jvm.MethodName) jdk_89_method_28_code (1 : Nat) (Option.some Jvm.ClassFile.FieldType.char)).before args0 about1 = true := code_word (m := ⟨23, 2⟩) (meth := k23m2) (c := k23c2) (by decide +kernel) rfl rfl rfl (by decide +kernel)
set_option maxRecDepth 65536 in
theorem w_c38 : (Jvm.Cond.code ({ cls := "java/lang/StringUTF16", name := "putChar", desc := "([BII)V" } : Jvm.MethodName) jdk_52_method_4_code (3 : Nat) (Option.none : Option Jvm.ClassFile.FieldType)).before args0 about1 = true := code_word (m := ⟨22, 3⟩) (meth := k22m3) (c := k22c3) (by decide +kernel) rfl rfl rfl (by decide +kernel)
set_option maxRecDepth 65536 in
theorem w_c39 : (Jvm.Cond.code ({ cls := "java/lang/Character", name := "lowSurrogate", desc := "(I)C" } : Jvm.MethodName) jdk_89_method_29_code (1 : Nat) (Option.some Jvm.ClassFile.FieldType.char)).before args0 about1 = true := code_word (m := ⟨23, 3⟩) (meth := k23m3) (c := k23c3) (by decide +kernel) rfl rfl rfl (by decide +kernel)
set_option maxRecDepth 65536 in
theorem w_c40 : (Jvm.Cond.code ({ cls := "java/util/Arrays", name := "copyOf", desc := "([BI)[B" } : Jvm.MethodName) jdk_65_method_121_code (3 : Nat) (Option.some (Jvm.ClassFile.FieldType.array Jvm.ClassFile.FieldType.byte))).before args0 about1 = true := code_word (m := ⟨17, 1⟩) (meth := k17m1) (c := k17c1) (by decide +kernel) rfl rfl rfl (by decide +kernel)
set_option maxRecDepth 65536 in
theorem w_c41 : (Jvm.Cond.code ({ cls := "java/lang/StringUTF16", name := "charAt", desc := "([BI)C" } : Jvm.MethodName) jdk_52_method_83_code (2 : Nat) (Option.some Jvm.ClassFile.FieldType.char)).before args0 about1 = true := code_word (m := ⟨22, 6⟩) (meth := k22m6) (c := k22c6) (by decide +kernel) rfl rfl rfl (by decide +kernel)
set_option maxRecDepth 65536 in
theorem w_c42 : (Jvm.Cond.code ({ cls := "java/lang/StringUTF16", name := "checkIndex", desc := "(I[B)V" } : Jvm.MethodName) jdk_52_method_91_code (2 : Nat) (Option.none : Option Jvm.ClassFile.FieldType)).before args0 about1 = true := code_word (m := ⟨22, 8⟩) (meth := k22m8) (c := k22c8) (by decide +kernel) rfl rfl rfl (by decide +kernel)
set_option maxRecDepth 65536 in
theorem w_c43 : (Jvm.Cond.code ({ cls := "java/lang/StringUTF16", name := "getChar", desc := "([BI)C" } : Jvm.MethodName) jdk_52_method_5_code (2 : Nat) (Option.some Jvm.ClassFile.FieldType.char)).before args0 about1 = true := code_word (m := ⟨22, 4⟩) (meth := k22m4) (c := k22c4) (by decide +kernel) rfl rfl rfl (by decide +kernel)
set_option maxRecDepth 65536 in
theorem w_c44 : (Jvm.Cond.code ({ cls := "java/lang/String", name := "decode2", desc := "(II)C" } : Jvm.MethodName) jdk_42_method_35_code (2 : Nat) (Option.some Jvm.ClassFile.FieldType.char)).before args0 about1 = true := code_word (m := ⟨8, 6⟩) (meth := k8m6) (c := k8c6) (by decide +kernel) rfl rfl rfl (by decide +kernel)
set_option maxRecDepth 65536 in
theorem w_c45 : (Jvm.Cond.code ({ cls := "java/lang/String", name := "isMalformed3", desc := "(III)Z" } : Jvm.MethodName) jdk_42_method_30_code (3 : Nat) (Option.some Jvm.ClassFile.FieldType.boolean)).before args0 about1 = true := code_word (m := ⟨8, 4⟩) (meth := k8m4) (c := k8c4) (by decide +kernel) rfl rfl rfl (by decide +kernel)
set_option maxRecDepth 65536 in
theorem w_c46 : (Jvm.Cond.code ({ cls := "java/lang/String", name := "decode3", desc := "(III)C" } : Jvm.MethodName) jdk_42_method_36_code (3 : Nat) (Option.some Jvm.ClassFile.FieldType.char)).before args0 about1 = true := code_word (m := ⟨8, 7⟩) (meth := k8m7) (c := k8c7) (by decide +kernel) rfl rfl rfl (by decide +kernel)
set_option maxRecDepth 65536 in
theorem w_c47 : (Jvm.Cond.code ({ cls := "java/lang/Character", name := "isSurrogate", desc := "(C)Z" } : Jvm.MethodName) jdk_89_method_16_code (1 : Nat) (Option.some Jvm.ClassFile.FieldType.boolean)).before args0 about1 = true := code_word (m := ⟨23, 1⟩) (meth := k23m1) (c := k23c1) (by decide +kernel) rfl rfl rfl (by decide +kernel)
set_option maxRecDepth 65536 in
theorem w_c48 : (Jvm.Cond.code ({ cls := "java/lang/String", name := "isNotContinuation", desc := "(I)Z" } : Jvm.MethodName) jdk_42_method_29_code (1 : Nat) (Option.some Jvm.ClassFile.FieldType.boolean)).before args0 about1 = true := code_word (m := ⟨8, 3⟩) (meth := k8m3) (c := k8c3) (by decide +kernel) rfl rfl rfl (by decide +kernel)
theorem code_wordW {y : MethodName} {bytes : ByteArray} {mx : Nat} {rt : Option FieldType} {hs : List (Nat × Nat × Nat × Nat)} {a : Array Value} {s : State} {m : MethodId} {meth : Method} {c : Code} (h1 : s.methodNamed? y = some m) (h2 : s.vm.method? m = some meth) (h3 : meth.code = some c) (h4 : c.code = bytes)
    (h5 : (c.maxLocals == mx && decide (c.exceptionTable.toList.map (fun h => (h.startPc, h.endPc, h.handlerPc, h.catchType)) = hs) && decide (c.maxStack ≤ mostOperands) && decide (meth.sig.returnType = rt) && !meth.locks && decide (parseMethodDescriptor y.desc = some meth.sig)) = true) : (Jvm.Cond.codeWith y bytes mx rt hs).before a s = true := by
  simp only [Bool.and_eq_true, beq_iff_eq, Bool.not_eq_true', decide_eq_true_eq] at h5
  obtain ⟨⟨⟨⟨⟨g1, g2⟩, g3⟩, g4⟩, g5⟩, g6⟩ := h5
  simp [Cond.before, Cond.holds, Cond.value, h1, h2, h3, h4, g1, g2, g3, g4, g5, g6]
set_option maxRecDepth 65536 in
theorem w_cW : (Jvm.Cond.codeWith ({ cls := "java/lang/String", name := "<init>", desc := "(Ljava/nio/charset/Charset;[BII)V" } : Jvm.MethodName) jdk_42_method_11_code (11 : Nat) (Option.none : Option Jvm.ClassFile.FieldType) [((800 : Nat), (813 : Nat), (816 : Nat), (202 : Nat))]).before args0 about1 = true := code_wordW (m := ⟨8, 2⟩) (meth := k8m2) (c := k8c2) (by decide +kernel) rfl rfl rfl (by decide +kernel)
def codes1 : List Jvm.Cond := [Jvm.Cond.code x code maxLocals ret, Jvm.Cond.code ({ cls := "clearcut/Text", name := "encodedSize", desc := "(I)I" } : Jvm.MethodName) prog_60_method_9_code (1 : Nat) (Option.some Jvm.ClassFile.FieldType.int), Jvm.Cond.code ({ cls := "clearcut/Text", name := "encode", desc := "(I[BI)I" } : Jvm.MethodName) prog_60_method_10_code (6 : Nat) (Option.some Jvm.ClassFile.FieldType.int), Jvm.Cond.code ({ cls := "clearcut/Text", name := "<init>", desc := "([BI)V" } : Jvm.MethodName) prog_60_method_2_code (3 : Nat) (Option.none : Option Jvm.ClassFile.FieldType), Jvm.Cond.code ({ cls := "java/lang/Object", name := "<init>", desc := "()V" } : Jvm.MethodName) object_method_1_code (1 : Nat) (Option.none : Option Jvm.ClassFile.FieldType), Jvm.Cond.code ({ cls := "clearcut/Text", name := "next", desc := "(I)I" } : Jvm.MethodName) prog_60_method_7_code (2 : Nat) (Option.some Jvm.ClassFile.FieldType.int), Jvm.Cond.code ({ cls := "clearcut/Text", name := "at", desc := "(I)I" } : Jvm.MethodName) prog_60_method_4_code (2 : Nat) (Option.some Jvm.ClassFile.FieldType.int), Jvm.Cond.code ({ cls := "clearcut/Text", name := "size", desc := "(I)I" } : Jvm.MethodName) prog_60_method_8_code (1 : Nat) (Option.some Jvm.ClassFile.FieldType.int), Jvm.Cond.code ({ cls := "clearcut/Text", name := "codePointAt", desc := "(I)I" } : Jvm.MethodName) prog_60_method_6_code (6 : Nat) (Option.some Jvm.ClassFile.FieldType.int), Jvm.Cond.code ({ cls := "clearcut/Text", name := "substring", desc := "(II)Ljava/lang/String;" } : Jvm.MethodName) prog_60_method_13_code (4 : Nat) (Option.some (Jvm.ClassFile.FieldType.object "java/lang/String")), Jvm.Cond.code ({ cls := "clearcut/Text", name := "decode", desc := "(II)Ljava/lang/String;" } : Jvm.MethodName) prog_60_method_17_code (3 : Nat) (Option.some (Jvm.ClassFile.FieldType.object "java/lang/String")), Jvm.Cond.code ({ cls := "java/lang/String", name := "<init>", desc := "([BIILjava/nio/charset/Charset;)V" } : Jvm.MethodName) jdk_42_method_10_code (5 : Nat) (Option.none : Option Jvm.ClassFile.FieldType), Jvm.Cond.code ({ cls := "java/util/Objects", name := "requireNonNull", desc := "(Ljava/lang/Object;)Ljava/lang/Object;" } : Jvm.MethodName) jdk_31_method_10_code (1 : Nat) (Option.some (Jvm.ClassFile.FieldType.object "java/lang/Object")), Jvm.Cond.code ({ cls := "java/lang/String", name := "checkBoundsOffCount", desc := "(III)I" } : Jvm.MethodName) jdk_42_method_157_code (3 : Nat) (Option.some Jvm.ClassFile.FieldType.int), Jvm.Cond.code ({ cls := "jdk/internal/util/Preconditions", name := "checkFromIndexSize", desc := "(IIILjava/util/function/BiFunction;)I" } : Jvm.MethodName) jdk_41_method_13_code (4 : Nat) (Option.some Jvm.ClassFile.FieldType.int), (Jvm.Cond.codeWith ({ cls := "java/lang/String", name := "<init>", desc := "(Ljava/nio/charset/Charset;[BII)V" } : Jvm.MethodName) jdk_42_method_11_code (11 : Nat) (Option.none : Option Jvm.ClassFile.FieldType) [((800 : Nat), (813 : Nat), (816 : Nat), (202 : Nat))]), Jvm.Cond.code ({ cls := "java/lang/StringCoding", name := "countPositives", desc := "([BII)I" } : Jvm.MethodName) jdk_123_method_3_code (5 : Nat) (Option.some Jvm.ClassFile.FieldType.int), Jvm.Cond.code ({ cls := "java/util/Arrays", name := "copyOfRange", desc := "([BII)[B" } : Jvm.MethodName) jdk_65_method_132_code (3 : Nat) (Option.some (Jvm.ClassFile.FieldType.array Jvm.ClassFile.FieldType.byte)), Jvm.Cond.code ({ cls := "java/util/Arrays", name := "copyOfRangeByte", desc := "([BII)[B" } : Jvm.MethodName) jdk_65_method_133_code (5 : Nat) (Option.some (Jvm.ClassFile.FieldType.array Jvm.ClassFile.FieldType.byte)), Jvm.Cond.code ({ cls := "java/util/Arrays", name := "checkLength", desc := "(II)V" } : Jvm.MethodName) jdk_65_method_131_code (2 : Nat) (Option.none : Option Jvm.ClassFile.FieldType), Jvm.Cond.code ({ cls := "java/lang/Math", name := "min", desc := "(II)I" } : Jvm.MethodName) jdk_29_method_69_code (2 : Nat) (Option.some Jvm.ClassFile.FieldType.int), Jvm.Cond.code ({ cls := "java/lang/String", name := "length", desc := "()I" } : Jvm.MethodName) jdk_42_method_54_code (1 : Nat) (Option.some Jvm.ClassFile.FieldType.int), Jvm.Cond.code ({ cls := "java/lang/String", name := "coder", desc := "()B" } : Jvm.MethodName) jdk_42_method_152_code (1 : Nat) (Option.some Jvm.ClassFile.FieldType.byte), Jvm.Cond.code ({ cls := "java/lang/String", name := "charAt", desc := "(I)C" } : Jvm.MethodName) jdk_42_method_56_code (2 : Nat) (Option.some Jvm.ClassFile.FieldType.char), Jvm.Cond.code ({ cls := "java/lang/String", name := "isLatin1", desc := "()Z" } : Jvm.MethodName) jdk_42_method_154_code (1 : Nat) (Option.some Jvm.ClassFile.FieldType.boolean), Jvm.Cond.code ({ cls := "java/lang/StringLatin1", name := "charAt", desc := "([BI)C" } : Jvm.MethodName) jdk_43_method_2_code (2 : Nat) (Option.some Jvm.ClassFile.FieldType.char), Jvm.Cond.code ({ cls := "java/lang/String", name := "checkIndex", desc := "(II)V" } : Jvm.MethodName) jdk_42_method_155_code (2 : Nat) (Option.none : Option Jvm.ClassFile.FieldType), Jvm.Cond.code ({ cls := "jdk/internal/util/Preconditions", name := "checkIndex", desc := "(IILjava/util/function/BiFunction;)I" } : Jvm.MethodName) jdk_41_method_11_code (3 : Nat) (Option.some Jvm.ClassFile.FieldType.int), Jvm.Cond.code ({ cls := "java/lang/StringUTF16", name := "newBytesFor", desc := "(I)[B" } : Jvm.MethodName) jdk_52_method_2_code (1 : Nat) (Option.some (Jvm.ClassFile.FieldType.array Jvm.ClassFile.FieldType.byte)), Jvm.Cond.code ({ cls := "java/lang/StringUTF16", name := "newBytesLength", desc := "(I)I" } : Jvm.MethodName) jdk_52_method_3_code (1 : Nat) (Option.some Jvm.ClassFile.FieldType.int), Jvm.Cond.code ({ cls := "java/lang/StringLatin1", name := "inflate", desc := "([BI[BII)V" } : Jvm.MethodName) jdk_43_method_50_code (5 : Nat) (Option.none : Option Jvm.ClassFile.FieldType), Jvm.Cond.code ({ cls := "java/lang/StringUTF16", name := "inflate", desc := "([BI[BII)V" } : Jvm.MethodName) jdk_52_method_86_code (6 : Nat) (Option.none : Option Jvm.ClassFile.FieldType), Jvm.Cond.code ({ cls := "java/lang/StringUTF16", name := "checkBoundsOffCount", desc := "(II[B)V" } : Jvm.MethodName) jdk_52_method_94_code (3 : Nat) (Option.none : Option Jvm.ClassFile.FieldType), Jvm.Cond.code ({ cls := "java/lang/StringUTF16", name := "length", desc := "([B)I" } : Jvm.MethodName) jdk_52_method_6_code (1 : Nat) (Option.some Jvm.ClassFile.FieldType.int), Jvm.Cond.code ({ cls := "java/lang/String", name := "decodeUTF8_UTF16", desc := "([BII[BIZ)I" } : Jvm.MethodName) jdk_42_method_38_code (11 : Nat) (Option.some Jvm.ClassFile.FieldType.int), Jvm.Cond.code ({ cls := "java/lang/String", name := "decode4", desc := "(IIII)I" } : Jvm.MethodName) jdk_42_method_37_code (4 : Nat) (Option.some Jvm.ClassFile.FieldType.int), Jvm.Cond.code ({ cls := "java/lang/String", name := "isMalformed4", desc := "(III)Z" } : Jvm.MethodName) jdk_42_method_32_code (3 : Nat) (Option.some Jvm.ClassFile.FieldType.boolean), Jvm.Cond.code ({ cls := "java/lang/Character", name := "isSupplementaryCodePoint", desc := "(I)Z" } : Jvm.MethodName) jdk_89_method_13_code (1 : Nat) (Option.some Jvm.ClassFile.FieldType.boolean), Jvm.Cond.code ({ cls := "java/lang/Character", name := "highSurrogate", desc := "(I)C" } : Jvm.MethodName) jdk_89_method_28_code (1 : Nat) (Option.some Jvm.ClassFile.FieldType.char), Jvm.Cond.code ({ cls := "java/lang/StringUTF16", name := "putChar", desc := "([BII)V" } : Jvm.MethodName) jdk_52_method_4_code (3 : Nat) (Option.none : Option Jvm.ClassFile.FieldType), Jvm.Cond.code ({ cls := "java/lang/Character", name := "lowSurrogate", desc := "(I)C" } : Jvm.MethodName) jdk_89_method_29_code (1 : Nat) (Option.some Jvm.ClassFile.FieldType.char), Jvm.Cond.code ({ cls := "java/util/Arrays", name := "copyOf", desc := "([BI)[B" } : Jvm.MethodName) jdk_65_method_121_code (3 : Nat) (Option.some (Jvm.ClassFile.FieldType.array Jvm.ClassFile.FieldType.byte)), Jvm.Cond.code ({ cls := "java/lang/StringUTF16", name := "charAt", desc := "([BI)C" } : Jvm.MethodName) jdk_52_method_83_code (2 : Nat) (Option.some Jvm.ClassFile.FieldType.char), Jvm.Cond.code ({ cls := "java/lang/StringUTF16", name := "checkIndex", desc := "(I[B)V" } : Jvm.MethodName) jdk_52_method_91_code (2 : Nat) (Option.none : Option Jvm.ClassFile.FieldType), Jvm.Cond.code ({ cls := "java/lang/StringUTF16", name := "getChar", desc := "([BI)C" } : Jvm.MethodName) jdk_52_method_5_code (2 : Nat) (Option.some Jvm.ClassFile.FieldType.char), Jvm.Cond.code ({ cls := "java/lang/String", name := "decode2", desc := "(II)C" } : Jvm.MethodName) jdk_42_method_35_code (2 : Nat) (Option.some Jvm.ClassFile.FieldType.char), Jvm.Cond.code ({ cls := "java/lang/String", name := "isMalformed3", desc := "(III)Z" } : Jvm.MethodName) jdk_42_method_30_code (3 : Nat) (Option.some Jvm.ClassFile.FieldType.boolean), Jvm.Cond.code ({ cls := "java/lang/String", name := "decode3", desc := "(III)C" } : Jvm.MethodName) jdk_42_method_36_code (3 : Nat) (Option.some Jvm.ClassFile.FieldType.char), Jvm.Cond.code ({ cls := "java/lang/Character", name := "isSurrogate", desc := "(C)Z" } : Jvm.MethodName) jdk_89_method_16_code (1 : Nat) (Option.some Jvm.ClassFile.FieldType.boolean), Jvm.Cond.code ({ cls := "java/lang/String", name := "isNotContinuation", desc := "(I)Z" } : Jvm.MethodName) jdk_42_method_29_code (1 : Nat) (Option.some Jvm.ClassFile.FieldType.boolean)]
set_option maxRecDepth 65536 in
theorem codes_eq : words1.filter isCode = codes1 := rfl
theorem w_codes : ∀ c ∈ words1.filter isCode, c.before args0 about1 = true := by
  rw [codes_eq]
  intro c hc
  simp only [codes1, List.mem_cons, List.not_mem_nil, or_false] at hc
  rcases hc with rfl | rfl | rfl | rfl | rfl | rfl | rfl | rfl | rfl | rfl | rfl | rfl | rfl | rfl | rfl | rfl | rfl | rfl | rfl | rfl | rfl | rfl | rfl | rfl | rfl | rfl | rfl | rfl | rfl | rfl | rfl | rfl | rfl | rfl | rfl | rfl | rfl | rfl | rfl | rfl | rfl | rfl | rfl | rfl | rfl | rfl | rfl | rfl | rfl | rfl
  · exact w_c0
  · exact w_c1
  · exact w_c2
  · exact w_c3
  · exact w_c4
  · exact w_c5
  · exact w_c6
  · exact w_c7
  · exact w_c8
  · exact w_c9
  · exact w_c10
  · exact w_c11
  · exact w_c12
  · exact w_c13
  · exact w_c14
  · exact w_cW
  · exact w_c15
  · exact w_c16
  · exact w_c17
  · exact w_c18
  · exact w_c19
  · exact w_c20
  · exact w_c21
  · exact w_c22
  · exact w_c23
  · exact w_c24
  · exact w_c25
  · exact w_c26
  · exact w_c27
  · exact w_c28
  · exact w_c29
  · exact w_c30
  · exact w_c31
  · exact w_c32
  · exact w_c33
  · exact w_c34
  · exact w_c35
  · exact w_c36
  · exact w_c37
  · exact w_c38
  · exact w_c39
  · exact w_c40
  · exact w_c41
  · exact w_c42
  · exact w_c43
  · exact w_c44
  · exact w_c45
  · exact w_c46
  · exact w_c47
  · exact w_c48
set_option maxRecDepth 65536 in
theorem w_t1 : (words1.take 24).all (fun c => isCode c || c.before args0 about1) = true := by decide +kernel
set_option maxRecDepth 65536 in
theorem w_t2 : ((words1.drop 24).take 24).all (fun c => isCode c || c.before args0 about1) = true := by decide +kernel
set_option maxRecDepth 65536 in
theorem w_t3 : (((words1.drop 24).drop 24).take 24).all (fun c => isCode c || c.before args0 about1) = true := by decide +kernel
set_option maxRecDepth 65536 in
theorem w_t4 : ((((words1.drop 24).drop 24).drop 24).take 24).all (fun c => isCode c || c.before args0 about1) = true := by decide +kernel
set_option maxRecDepth 65536 in
theorem w_t5 : (((((words1.drop 24).drop 24).drop 24).drop 24).take 24).all (fun c => isCode c || c.before args0 about1) = true := by decide +kernel
set_option maxRecDepth 65536 in
theorem w_t6 : ((((((words1.drop 24).drop 24).drop 24).drop 24).drop 24).take 24).all (fun c => isCode c || c.before args0 about1) = true := by decide +kernel
set_option maxRecDepth 65536 in
theorem w_t7 : (((((((words1.drop 24).drop 24).drop 24).drop 24).drop 24).drop 24).take 24).all (fun c => isCode c || c.before args0 about1) = true := by decide +kernel
set_option maxRecDepth 65536 in
theorem w_t8 : ((((((((words1.drop 24).drop 24).drop 24).drop 24).drop 24).drop 24).drop 24).take 24).all (fun c => isCode c || c.before args0 about1) = true := by decide +kernel
set_option maxRecDepth 65536 in
theorem w_t9 : (((((((((words1.drop 24).drop 24).drop 24).drop 24).drop 24).drop 24).drop 24).drop 24).take 24).all (fun c => isCode c || c.before args0 about1) = true := by decide +kernel
set_option maxRecDepth 65536 in
theorem w_t10 : (((((((((words1.drop 24).drop 24).drop 24).drop 24).drop 24).drop 24).drop 24).drop 24).drop 24).all (fun c => isCode c || c.before args0 about1) = true := by decide +kernel
theorem w_tables : (allAtoms (Jvm.Cond.code x code maxLocals ret :: tables_1)).before args0 about1 = true := by
  rw [allAtoms_all]
  show words1.all (fun c => c.before args0 about1) = true
  refine all_split ?_ w_codes
  rw [← List.take_append_drop 24 words1, List.all_append, w_t1, ← List.take_append_drop 24 (words1.drop 24), List.all_append, w_t2, ← List.take_append_drop 24 ((words1.drop 24).drop 24), List.all_append, w_t3, ← List.take_append_drop 24 (((words1.drop 24).drop 24).drop 24), List.all_append, w_t4, ← List.take_append_drop 24 ((((words1.drop 24).drop 24).drop 24).drop 24), List.all_append, w_t5, ← List.take_append_drop 24 (((((words1.drop 24).drop 24).drop 24).drop 24).drop 24), List.all_append, w_t6, ← List.take_append_drop 24 ((((((words1.drop 24).drop 24).drop 24).drop 24).drop 24).drop 24), List.all_append, w_t7, ← List.take_append_drop 24 (((((((words1.drop 24).drop 24).drop 24).drop 24).drop 24).drop 24).drop 24), List.all_append, w_t8, ← List.take_append_drop 24 ((((((((words1.drop 24).drop 24).drop 24).drop 24).drop 24).drop 24).drop 24).drop 24), List.all_append, w_t9, w_t10]
  rfl
set_option maxRecDepth 65536 in
theorem w_rest : rest_1_c.before args0 about1 = true := by decide +kernel
set_option maxRecDepth 65536 in
theorem w_case : (Jvm.Cond.and given_1 narrow_1).before args0 about1 = true := by decide +kernel
theorem w_applies : (headSpec (Jvm.Cond.code x code maxLocals ret :: tables_1) room_1).applies x e0.platform about1 = true :=
  (Spec.applies_iff w_frames).mpr ⟨w_running, w_runnable, w_alone, w_named, w_hears, w_ripe, w_room, w_tables⟩
theorem atStart : AtStart classFile x code maxLocals ret World_1 tables_1 room_1 Calls_1 rest_1 Pre_1 launch0 p0 e0 about1 theMethod args0 below0 :=
  ⟨lists_1, trivial, launch0.admits_env _ _ _, launch0.least_env, fairChoices_fair.cas, fairChoices_fair.clock, w_frames, w_args, w_heap, w_applies, trivial, w_rest, w_case⟩
end start1
theorem witness_1 : WitnessClaimed_1 := ⟨start1.p0, start1.e0, start1.about1, start1.theMethod, start1.args0, start1.below0, start1.atStart⟩
end Jvm.Pilot.@@N@@
