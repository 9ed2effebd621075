import JvmDerived
import JvmDerived.Pilot.@@N@@Statement
import JvmDerived.Pilot.@@N@@Code
set_option linter.unusedVariables false
set_option linter.unusedSimpArgs false
namespace Jvm.RoadKit
open Sem ClassFile Op Lib Jvm.Stand Jvm.Free Jvm.LawKit
section New
variable {p : Program} {l : Launch} {e : Env} {R : Room} {s : State} {m : MethodId} {args : Array Value} {below : List Frame} {meth : Method} {c : Code} {T : State} {locs : List Loc} {cells slots : Nat}
theorem retI (X : Stand p l e R s m args below meth c T locs cells slots) (hx : p.tables.exec = Jvm.exec) {pc : Nat} {Ls : Array Slot} {z : Int32} {rest : List Value} (hret : meth.sig.returnType = some .int) (hd : decode c.code pc = .ok (.ireturn, 1)) {fs : List Frame}
    (hl : ∀ (f : JFrame) (acts : List Action), f.method = m → f.locked = none → f.entered = [] → (doReturn e (T.setTop f) acts (some (.int z))).1 = T.setFrames fs) : Steps p.tables e below (T.setTop (mkF m pc Ls (.int z :: rest))) (T.setFrames fs) := by
  have hm' : T.vm.method? m = some meth := X.method'
  have hn : narrow .int (.int z) = .int z := rfl
  show Steps p.tables e below (T.setTop { method := m, pc := pc, locals := Ls, stack := _ :: rest, locked := none }) _
  jvm_step X.here [X.here.top, hx, hd, hm', hret, hn]
  first | (intro acts; rw [hl _ acts rfl rfl rfl]) | rw [hl _ _ rfl rfl rfl]
  exact Steps.refl _
end New
end Jvm.RoadKit
namespace Jvm.Pilot.@@N@@
open Jvm Jvm.ClassFile Sem Op Lib Jvm.Free Jvm.Stand Jvm.LawKit Jvm.RoadKit Bundle Jvm.Pilot.@@N@@.Jvm.D
section OwnGo
variable {p : Program} {l : Launch} {e : Env} {R : Room} {s : State} {m : MethodId} {args : Array Value} {below : List Frame} {meth : Method} {c : Code} {T : State} {locs : List Loc} {cells slots : Nat} {Q : Option Value → Heap → List Loc → Prop} {ck sk : Nat}
/-- from the state S the body comes to its end, and what it returns and leaves meets Q -/
def own_Go (p : Program) (e : Env) (below : List Frame) (s : State) (Q : Option Value → Heap → List Loc → Prop) (ck sk : Nat) (S : State) : Prop :=
  ∃ s₂ o, Steps p.tables e below S s₂ ∧ s₂.status = .running ∧ Ended s₂ below o ∧ ∃ v L, o = .returned v ∧ Q v s₂.heap L ∧ FrameEnd s o s₂ L ck sk
theorem own_go {S S' : State} (st : ∀ t, Steps p.tables e below S' t → Steps p.tables e below S t) (k : own_Go p e below s Q ck sk S') : own_Go p e below s Q ck sk S := by
  obtain ⟨a, b, h, r⟩ := k; exact ⟨a, b, st _ h, r⟩
theorem own_goT {S S' : State} (st : Steps p.tables e below S S') (k : own_Go p e below s Q ck sk S') : own_Go p e below s Q ck sk S := own_go (fun _ h => st.trans h) k
theorem own_retI (X : Stand p l e R s m args below meth c T locs cells slots) (hx : p.tables.exec = Jvm.exec) (hlk : meth.locks = false) {pc : Nat} {Ls : Array Slot} {z : Int32} {rest : List Value} (hret : meth.sig.returnType = some .int) (hd : decode c.code pc = .ok (.ireturn, 1)) (hc : cells ≤ ck) (hs : slots ≤ sk)
    (q : Q (some (.int z)) T.heap locs) : own_Go p e below s Q ck sk (T.setTop (mkF m pc Ls (.int z :: rest))) := by
  obtain ⟨fs, hr, hrun, hended, hW, hsame⟩ := X.leave (v := some (.int z)) (fun h => by rw [hret] at h; cases h) hlk
  exact ⟨_, _, retI X hx hret hd hr, hrun, hended, _, _, rfl, q, ⟨_, rfl⟩, hW, hsame.mono hc hs⟩
theorem own_retN (X : Stand p l e R s m args below meth c T locs cells slots) (hx : p.tables.exec = Jvm.exec) (hlk : meth.locks = false) {t : FieldType} {pc : Nat} {Ls : Array Slot} {z : Int32} {rest : List Value} (ht : t = .boolean ∨ t = .byte ∨ t = .char ∨ t = .short) (hret : meth.sig.returnType = some t) (hd : decode c.code pc = .ok (.ireturn, 1)) (hc : cells ≤ ck) (hs : slots ≤ sk)
    (q : Q (some (.int (nar t z))) T.heap locs) : own_Go p e below s Q ck sk (T.setTop (mkF m pc Ls (.int z :: rest))) := by
  obtain ⟨fs, hr, hrun, hended, hW, hsame⟩ := X.leave (v := some (.int (nar t z))) (fun h => by rw [hret] at h; cases h) hlk
  exact ⟨_, _, retN X hx hret ht hd hr, hrun, hended, _, _, rfl, q, ⟨_, rfl⟩, hW, hsame.mono hc hs⟩
theorem own_ret0 (X : Stand p l e R s m args below meth c T locs cells slots) (hx : p.tables.exec = Jvm.exec) (hlk : meth.locks = false) {pc : Nat} {Ls : Array Slot} (hret : meth.sig.returnType = none) (hd : decode c.code pc = .ok (.return_, 1)) (hc : cells ≤ ck) (hs : slots ≤ sk)
    (q : Q none T.heap locs) : own_Go p e below s Q ck sk (T.setTop (mkF m pc Ls [])) := by
  obtain ⟨fs, hr, hrun, hended, hW, hsame⟩ := X.leave (v := none) (fun _ => rfl) hlk
  exact ⟨_, _, X.returnOut hx hret hd hr, hrun, hended, _, _, rfl, q, ⟨_, rfl⟩, hW, hsame.mono hc hs⟩
theorem own_retA (X : Stand p l e R s m args below meth c T locs cells slots) (hx : p.tables.exec = Jvm.exec) (hlk : meth.locks = false) {t : FieldType} {pc : Nat} {Ls : Array Slot} {w : Value} (hw : w.isRef = true) (ht : t.isReference = true) (hret : meth.sig.returnType = some t) (hd : decode c.code pc = .ok (.areturn, 1)) (hc : cells ≤ ck) (hs : slots ≤ sk)
    (q : Q (some w) T.heap locs) : own_Go p e below s Q ck sk (T.setTop (mkF m pc Ls [w])) := by
  obtain ⟨fs, hr, hrun, hended, hW, hsame⟩ := X.leave (v := some w) (fun h => by rw [hret] at h; cases h) hlk
  exact ⟨_, _, X.areturnOut hx hw hret ht hd hr, hrun, hended, _, _, rfl, q, ⟨_, rfl⟩, hW, hsame.mono hc hs⟩
theorem own_retJ (X : Stand p l e R s m args below meth c T locs cells slots) (hx : p.tables.exec = Jvm.exec) (hlk : meth.locks = false) {pc : Nat} {Ls : Array Slot} {w : Int64} (hret : meth.sig.returnType = some .long) (hd : decode c.code pc = .ok (.lreturn, 1)) (hc : cells ≤ ck) (hs : slots ≤ sk)
    (q : Q (some (.long w)) T.heap locs) : own_Go p e below s Q ck sk (T.setTop (mkF m pc Ls [.long w])) := by
  obtain ⟨fs, hr, hrun, hended, hW, hsame⟩ := X.leave (v := some (.long w)) (fun h => by rw [hret] at h; cases h) hlk
  exact ⟨_, _, X.lreturnOut hx hret hd hr, hrun, hended, _, _, rfl, q, ⟨_, rfl⟩, hW, hsame.mono hc hs⟩
end OwnGo
theorem own_retD {p : Program} {l : Launch} {e : Env} {R : Room} {s : State} {m : MethodId} {args : Array Value} {below : List Frame} {meth : Method} {c : Code} {T : State} {locs : List Loc} {cells slots : Nat} {Q : Option Value → Heap → List Loc → Prop} {ck sk : Nat} (X : Stand p l e R s m args below meth c T locs cells slots) (hx : p.tables.exec = Jvm.exec) (hlk : meth.locks = false) {pc : Nat} {Ls : Array Slot} {w : UInt64} (hret : meth.sig.returnType = some .double) (hd : decode c.code pc = .ok (.dreturn, 1)) (hc : cells ≤ ck) (hs : slots ≤ sk)
    (q : Q (some (.double w)) T.heap locs) : own_Go p e below s Q ck sk (T.setTop (mkF m pc Ls [.double w])) := by
  obtain ⟨fs, hr, hrun, hended, hW, hsame⟩ := X.leave (v := some (.double w)) (fun h => by rw [hret] at h; cases h) hlk
  exact ⟨_, _, retOut X hx hret rfl (Or.inr (Or.inr (Or.inl ⟨rfl, rfl, _, rfl⟩))) hd hr, hrun, hended, _, _, rfl, q, ⟨_, rfl⟩, hW, hsame.mono hc hs⟩
theorem own_leq {x y : Int64} (h : x = y) : lcmpW x y = 0 := (lw_eq x y).mpr h
theorem own_lne {x y : Int64} (h : ¬ x = y) : ¬ lcmpW x y = 0 := fun q => h ((lw_eq x y).mp q)
theorem own_llt {x y : Int64} (h : x < y) : lcmpW x y < 0 := (lw_lt x y).mpr h
theorem own_lnlt {x y : Int64} (h : ¬ x < y) : ¬ lcmpW x y < 0 := fun q => h ((lw_lt x y).mp q)
theorem own_lgt {x y : Int64} (h : y < x) : 0 < lcmpW x y := (lw_gt x y).mpr h
theorem own_lngt {x y : Int64} (h : ¬ y < x) : ¬ 0 < lcmpW x y := fun q => h ((lw_gt x y).mp q)
theorem own_ltr {x y : Int32} {k : Int} (h : x < y) (e : y.toInt = k) : x.toInt < k := by rw [← e]; exact Int32.lt_iff_toInt_lt.mp h
theorem own_ltl {x y : Int32} {k : Int} (h : x < y) (e : x.toInt = k) : k < y.toInt := by rw [← e]; exact Int32.lt_iff_toInt_lt.mp h
theorem own_nltr {x y : Int32} {k : Int} (h : ¬ x < y) (e : y.toInt = k) : k ≤ x.toInt := by rw [← e]; exact Int.not_lt.mp fun q => h (Int32.lt_iff_toInt_lt.mpr q)
theorem own_nltl {x y : Int32} {k : Int} (h : ¬ x < y) (e : x.toInt = k) : y.toInt ≤ k := by rw [← e]; exact Int.not_lt.mp fun q => h (Int32.lt_iff_toInt_lt.mpr q)
theorem own_eqr {x y : Int32} {k : Int} (h : x = y) (e : y.toInt = k) : x.toInt = k := by rw [← e, h]
theorem own_neqr {x y : Int32} {k : Int} (h : ¬ x = y) (e : y.toInt = k) : ¬ x.toInt = k := by rw [← e]; exact fun q => h (Int32.toInt_inj.mp q)
theorem own_selP {s : State} {args : Array Value} {y : MethodName} {n : Nat} (wi : (Jvm.Cond.instantiable y.cls n).before args s = true) (wp : (Jvm.Cond.privateMethod y).before args s = true) (wn : (Jvm.Cond.instanceMethod y).before args s = true) (hy : y.cls ≠ "java/lang/invoke/MethodHandle" ∧ y.cls ≠ "java/lang/invoke/VarHandle") : (Jvm.Cond.selects y.cls y y).before args s = true := by
  obtain ⟨c, k, h1, h2, -, h4, -⟩ := Cond.instantiable_spec wi
  exact Jvm.Stand.selects_self_of_private h1 h2 (Bool.or_eq_false_iff.mp h4).1 (Cond.privateMethod_at wp) wn hy
theorem own_eqInt {t : Term} {k : Int32} {args : Array Value} {s : State} (h : (Jvm.Cond.eq t (Term.int k)).value args s none s [] = some true) : t.eval args s none [] s = some (.int k) := by
  have hk : (Term.int k).eval args s none [] s = some (.int k) := rfl
  cases ht : t.eval args s none [] s with
  | none => simp [Jvm.Cond.value, ht] at h
  | some v => cases v <;> simp [Jvm.Cond.value, ht, hk] at h; rw [h]
theorem own_un (a : Int32) : (nar .byte (a.toInt8.toInt32)) &&& (255 : Int32) = (a % (256 : Int32) + (256 : Int32)) % (256 : Int32) := by
  rw [← Int32.toInt_inj]
  have k256 : (256 : Int32).toInt = 256 := by decide
  have h1 := c_mask (nar .byte (a.toInt8.toInt32)) 255 8 (by decide) (by decide)
  have h2 := (c_i2b a).1
  have h3 : ((nar .byte (a.toInt8.toInt32)).toInt - a.toInt8.toInt32.toInt) % 256 = 0 := (c_i2b a.toInt8.toInt32).1
  have h4 := c_irem a (256 : Int32) 256 k256
  have h5 := c_iadd (a % (256 : Int32)) (256 : Int32)
  have h6 := c_irem (a % (256 : Int32) + (256 : Int32)) (256 : Int32) 256 k256
  have r1 := rng32 (a % (256 : Int32) + (256 : Int32))
  have r2 := rng32 a
  have r3 := rng32 (a % (256 : Int32))
  rw [k256] at h5
  generalize (nar .byte (a.toInt8.toInt32)).toInt = b at *
  generalize a.toInt8.toInt32.toInt = b2 at *
  generalize (nar .byte (a.toInt8.toInt32) &&& (255 : Int32)).toInt = b3 at *
  generalize ((a % (256 : Int32) + (256 : Int32)) % (256 : Int32)).toInt = c3 at *
  generalize (a % (256 : Int32) + (256 : Int32)).toInt = c2 at *
  generalize (a % (256 : Int32)).toInt = c1 at *
  omega
theorem d2_0 : decode prog_19_method_2_code 0 = .ok (.aload_n 0, 1) := by decide +kernel
theorem d2_1 : decode prog_19_method_2_code 1 = .ok (.invokespecial 9, 3) := by decide +kernel
theorem d2_4 : decode prog_19_method_2_code 4 = .ok (.aload_n 0, 1) := by decide +kernel
theorem d2_5 : decode prog_19_method_2_code 5 = .ok (.aload_n 1, 1) := by decide +kernel
theorem d2_6 : decode prog_19_method_2_code 6 = .ok (.putfield 14, 3) := by decide +kernel
theorem d2_9 : decode prog_19_method_2_code 9 = .ok (.aload_n 0, 1) := by decide +kernel
theorem d2_10 : decode prog_19_method_2_code 10 = .ok (.iload_n 2, 1) := by decide +kernel
theorem d2_11 : decode prog_19_method_2_code 11 = .ok (.putfield 18, 3) := by decide +kernel
theorem d2_14 : decode prog_19_method_2_code 14 = .ok (.return_, 1) := by decide +kernel
theorem pn_9 : plainName "com/example/quorumkeel/quorumkeel/protocol/Encoding$Reader" = true := by first | (simp [plainName, overriddenIn]; done) | decide +kernel
theorem ef_rm2 (m : MethodId) (x0 : Addr) (x1 : Addr) (x2 : Int32) : entryFrame m #[(.ref x0), (.ref x1), (.int x2)] 3 = mkF m 0 #[.val (.ref x0), .val (.ref x1), .val (.int x2)] [] := by first | (simp [entryFrame, mkF, argsToLocals, Value.category]; done) | rfl
def Q_rm2 (Z : State) (o0 ar : Addr) (p0 : Int32) (h0 : Heap) (n0 : Nat) (v : Option Value) (h : Heap) (L : List Loc) : Prop := v = none ∧ Fr n0 L ∧ Keep h0 h [o0] ∧ Fld Z h o0 "com/example/quorumkeel/quorumkeel/protocol/Encoding$Reader" "bytes" "[B" (.ref ar) ∧ Fld Z h o0 "com/example/quorumkeel/quorumkeel/protocol/Encoding$Reader" "limit" "I" (.int p0) ∧ Fld Z h o0 "com/example/quorumkeel/quorumkeel/protocol/Encoding$Reader" "position" "I" (.int (0 : Int32))
set_option maxRecDepth 65536 in
set_option maxHeartbeats 40000000 in
theorem rm2 (l : Launch) (Z : State) (a0 : Array Value) (hw : ∀ d ∈ tables_1, d.before a0 Z = true) (ws : List Jvm.Cond) (o0 ar : Addr) (p0 : Int32) (h0 : Heap) (n0 : Nat) (Z0 : n0 ≤ h0.size) (E_o0 : Exa Z h0 o0 "com/example/quorumkeel/quorumkeel/protocol/Encoding$Reader") (F_o0_bytes : Fld Z h0 o0 "com/example/quorumkeel/quorumkeel/protocol/Encoding$Reader" "bytes" "[B" .null) (F_o0_limit : Fld Z h0 o0 "com/example/quorumkeel/quorumkeel/protocol/Encoding$Reader" "limit" "I" (.int (0 : Int32))) (F_o0_position : Fld Z h0 o0 "com/example/quorumkeel/quorumkeel/protocol/Encoding$Reader" "position" "I" (.int (0 : Int32))) (g_o0 : n0 ≤ o0) :
    MetFree l (⟨"com/example/quorumkeel/quorumkeel/protocol/Encoding$Reader", "<init>", "([BI)V"⟩ : MethodName) (head1 (Jvm.Cond.code (⟨"com/example/quorumkeel/quorumkeel/protocol/Encoding$Reader", "<init>", "([BI)V"⟩ : MethodName) prog_19_method_2_code 3 none :: ws) ({ frames := 1, cells := 0, slots := 0, locals := 12 } : Room)) (fun a U => a = #[(.ref o0), (.ref ar), (.int p0)] ∧ Z.Warmed39 U.vm ∧ U.heap = h0) (fun _ _ _ _ _ => True) (fun _ U o U' => ∃ v L, o = .returned v ∧ Q_rm2 Z o0 ar p0 h0 n0 v U'.heap L ∧ FrameEnd U o U' L ({ frames := 1, cells := 0, slots := 0, locals := 12 } : Room).cells ({ frames := 1, cells := 0, slots := 0, locals := 12 } : Room).slots) := by
  refine MetFree.of_bodySF (plainFor_of_name pn_9) hisR ?_
  intro p e s m args below meth c s₁ Bd hml0 hP hK
  obtain ⟨rfl, hZ, hh⟩ := hP
  have hx := Bd.exec
  have hby := Bd.bytes
  have hlk := Bd.notSynchronized
  have hml : c.maxLocals = 3 := hml0
  have hown : s.vm.findClass "com/example/quorumkeel/quorumkeel/protocol/Encoding$Reader" = some m.cls := findClass_of_methodNamed Bd.named
  have hnm := (name_of_methodNamed Bd.named Bd.method).1
  have X0 : Stand p l e ({ frames := 1, cells := 0, slots := 0, locals := 12 } : Room) s m #[(.ref o0), (.ref ar), (.int p0)] below meth c s₁ [] 0 0 := Stand.of_body Bd
  have e0 : s₁.heap = h0 := by rw [← hh, Bd.state]; rfl
  have N0 := Fr.nil n0
  change own_Go p e below s (Q_rm2 Z o0 ar p0 h0 n0) ({ frames := 1, cells := 0, slots := 0, locals := 12 } : Room).cells ({ frames := 1, cells := 0, slots := 0, locals := 12 } : Room).slots _
  refine own_go (S' := (s₁.setTop (mkF m 0 #[.val (.ref o0), .val (.ref ar), .val (.int p0)] []))) (fun _ k => castTop (ef_rm2 m o0 ar p0) k) ?_
  have K0 := Keep.refl h0 [o0]
  refine own_go (S' := (s₁.setTop (mkF m 1 #[.val (.ref o0), .val (.ref ar), .val (.int p0)] [(.ref o0)]))) (fun _ k => XS.aloadN X0.here hx rfl (hb hby d2_0) rfl rfl k) ?_
  obtain ⟨T1, X1, e1, st1⟩ := initO X0 hx hZ hown (hw _ (List.mem_of_getElem? (i := 10) rfl)) (hw _ (List.mem_of_getElem? (i := 11) rfl)) (hw _ (List.mem_of_getElem? (i := 12) rfl)) e0 (g := (mkF m 1 #[.val (.ref o0), .val (.ref ar), .val (.int p0)] [(.ref o0)])) rfl (by rw [hml]; rfl) rfl (hb hby d2_1) (by decide) (W := 0) (by show 2 * 0 + _ ≤ _; exact Nat.le_of_eq rfl) (by decide)
  refine own_go (S' := (T1.setTop (mkF m 4 #[.val (.ref o0), .val (.ref ar), .val (.int p0)] []))) st1 ?_
  refine own_go (S' := (T1.setTop (mkF m 6 #[.val (.ref o0), .val (.ref ar), .val (.int p0)] [(.ref ar), (.ref o0)]))) (fun _ k => XS.aloadN X1.here hx rfl (hb hby d2_4) rfl rfl (XS.aloadN X1.here hx rfl (hb hby d2_5) rfl rfl k)) ?_
  obtain ⟨T2, h2, X2, e2, W2, st2⟩ := putF X1 hx hZ hown (host := "") (Or.inl (hw _ (List.mem_of_getElem? (i := 13) rfl))) Via.refl e1 F_o0_bytes E_o0 (Or.inr ⟨(hw _ (List.mem_of_getElem? (i := 14) rfl)), rfl, hnm⟩) (hw _ (List.mem_of_getElem? (i := 2) rfl)) (ty := (.array .byte)) (by decide) rfl rfl (g := (mkF m 6 #[.val (.ref o0), .val (.ref ar), .val (.int p0)] [(.ref ar), (.ref o0)])) rfl rfl (hb hby d2_6)
  have c2_Eo0 := E_o0.wr W2
  have c2_Fo0_bytes := F_o0_bytes.same W2
  have c2_Fo0_limit := F_o0_limit.other W2 (Or.inr (slot_ne (Or.inr (hw _ (List.mem_of_getElem? (i := 16) rfl))) (Or.inr (hw _ (List.mem_of_getElem? (i := 14) rfl))) (by decide) (by decide : parseFieldDescriptor "I" = some .int) (by decide : parseFieldDescriptor "[B" = some (.array .byte))))
  have c2_Fo0_position := F_o0_position.other W2 (Or.inr (slot_ne (Or.inl (hw _ (List.mem_of_getElem? (i := 23) rfl))) (Or.inr (hw _ (List.mem_of_getElem? (i := 14) rfl))) (by decide) (by decide : parseFieldDescriptor "I" = some .int) (by decide : parseFieldDescriptor "[B" = some (.array .byte))))
  have K2 := K0.wr W2 (Or.inl (List.mem_of_getElem? (i := 0) rfl))
  have N2 := Fr.snoc X2 N0 g_o0
  have Z2 : n0 ≤ h2.size := Nat.le_trans Z0 (Nat.le_of_eq W2.size.symm)
  refine own_go (S' := (T2.setTop (mkF m 9 #[.val (.ref o0), .val (.ref ar), .val (.int p0)] []))) st2 ?_
  refine own_go (S' := (T2.setTop (mkF m 11 #[.val (.ref o0), .val (.ref ar), .val (.int p0)] [(.int p0), (.ref o0)]))) (fun _ k => XS.aloadN X2.here hx rfl (hb hby d2_9) rfl rfl (XS.iloadN X2.here hx rfl (hb hby d2_10) rfl k)) ?_
  obtain ⟨T3, h3, X3, e3, W3, st3⟩ := putF X2 hx hZ hown (host := "") (Or.inl (hw _ (List.mem_of_getElem? (i := 15) rfl))) Via.refl e2 c2_Fo0_limit c2_Eo0 (Or.inr ⟨(hw _ (List.mem_of_getElem? (i := 16) rfl)), rfl, hnm⟩) (hw _ (List.mem_of_getElem? (i := 2) rfl)) (ty := .int) (by decide) rfl rfl (g := (mkF m 11 #[.val (.ref o0), .val (.ref ar), .val (.int p0)] [(.int p0), (.ref o0)])) rfl rfl (hb hby d2_11)
  have c3_Eo0 := c2_Eo0.wr W3
  have c3_Fo0_bytes := c2_Fo0_bytes.other W3 (Or.inr (slot_ne (Or.inr (hw _ (List.mem_of_getElem? (i := 14) rfl))) (Or.inr (hw _ (List.mem_of_getElem? (i := 16) rfl))) (by decide) (by decide : parseFieldDescriptor "[B" = some (.array .byte)) (by decide : parseFieldDescriptor "I" = some .int)))
  have c3_Fo0_limit := c2_Fo0_limit.same W3
  have c3_Fo0_position := c2_Fo0_position.other W3 (Or.inr (slot_ne (Or.inl (hw _ (List.mem_of_getElem? (i := 23) rfl))) (Or.inr (hw _ (List.mem_of_getElem? (i := 16) rfl))) (by decide) (by decide : parseFieldDescriptor "I" = some .int) (by decide : parseFieldDescriptor "I" = some .int)))
  have K3 := K2.wr W3 (Or.inl (List.mem_of_getElem? (i := 0) rfl))
  have N3 := Fr.snoc X3 N2 g_o0
  have Z3 : n0 ≤ h3.size := Nat.le_trans Z2 (Nat.le_of_eq W3.size.symm)
  refine own_go (S' := (T3.setTop (mkF m 14 #[.val (.ref o0), .val (.ref ar), .val (.int p0)] []))) st3 ?_
  refine own_ret0 X3 hx hlk Bd.returns (hb hby d2_14) (by decide) (by decide) ?_
  rw [e3]
  exact ⟨rfl, N3, K3, c3_Fo0_bytes, c3_Fo0_limit, c3_Fo0_position⟩
theorem d1_0 : decode prog_19_method_1_code 0 = .ok (.aload_n 0, 1) := by decide +kernel
theorem d1_1 : decode prog_19_method_1_code 1 = .ok (.aload_n 1, 1) := by decide +kernel
theorem d1_2 : decode prog_19_method_1_code 2 = .ok (.aload_n 1, 1) := by decide +kernel
theorem d1_3 : decode prog_19_method_1_code 3 = .ok (.arraylength, 1) := by decide +kernel
theorem d1_4 : decode prog_19_method_1_code 4 = .ok (.invokespecial 3, 3) := by decide +kernel
theorem pd_15 : parseMethodDescriptor "([BI)V" = some ⟨[(.array .byte), .int], none⟩ := by decide +kernel
theorem d1_7 : decode prog_19_method_1_code 7 = .ok (.return_, 1) := by decide +kernel
theorem ef_rm1 (m : MethodId) (x0 : Addr) (x1 : Addr) : entryFrame m #[(.ref x0), (.ref x1)] 2 = mkF m 0 #[.val (.ref x0), .val (.ref x1)] [] := by first | (simp [entryFrame, mkF, argsToLocals, Value.category]; done) | rfl
def Q_rm1 (Z : State) (o0 ar : Addr) (k : ClassId) (z : Int32) (vs : List Value) (dv : Value) (h0 : Heap) (n0 : Nat) (v : Option Value) (h : Heap) (L : List Loc) : Prop := v = none ∧ Fr n0 L ∧ Keep h0 h [o0] ∧ Fld Z h o0 "com/example/quorumkeel/quorumkeel/protocol/Encoding$Reader" "bytes" "[B" (.ref ar) ∧ Fld Z h o0 "com/example/quorumkeel/quorumkeel/protocol/Encoding$Reader" "limit" "I" (.int z) ∧ Fld Z h o0 "com/example/quorumkeel/quorumkeel/protocol/Encoding$Reader" "position" "I" (.int (0 : Int32))
set_option maxRecDepth 65536 in
set_option maxHeartbeats 40000000 in
theorem rm1 (l : Launch) (Z : State) (a0 : Array Value) (hw : ∀ d ∈ tables_1, d.before a0 Z = true) (ws : List Jvm.Cond) (o0 ar : Addr) (k : ClassId) (z : Int32) (vs : List Value) (dv : Value) (h0 : Heap) (n0 : Nat) (Z0 : n0 ≤ h0.size) (E_o0 : Exa Z h0 o0 "com/example/quorumkeel/quorumkeel/protocol/Encoding$Reader") (F_o0_bytes : Fld Z h0 o0 "com/example/quorumkeel/quorumkeel/protocol/Encoding$Reader" "bytes" "[B" .null) (F_o0_limit : Fld Z h0 o0 "com/example/quorumkeel/quorumkeel/protocol/Encoding$Reader" "limit" "I" (.int (0 : Int32))) (F_o0_position : Fld Z h0 o0 "com/example/quorumkeel/quorumkeel/protocol/Encoding$Reader" "position" "I" (.int (0 : Int32))) (g_o0 : n0 ≤ o0) (V : Arv Z h0 ar k .byte z vs dv) :
    MetFree l (⟨"com/example/quorumkeel/quorumkeel/protocol/Encoding$Reader", "<init>", "([B)V"⟩ : MethodName) (head1 (Jvm.Cond.code (⟨"com/example/quorumkeel/quorumkeel/protocol/Encoding$Reader", "<init>", "([B)V"⟩ : MethodName) prog_19_method_1_code 2 none :: ws) ({ frames := 2, cells := 0, slots := 0, locals := 26 } : Room)) (fun a U => a = #[(.ref o0), (.ref ar)] ∧ Z.Warmed39 U.vm ∧ U.heap = h0) (fun _ _ _ _ _ => True) (fun _ U o U' => ∃ v L, o = .returned v ∧ Q_rm1 Z o0 ar k z vs dv h0 n0 v U'.heap L ∧ FrameEnd U o U' L ({ frames := 2, cells := 0, slots := 0, locals := 26 } : Room).cells ({ frames := 2, cells := 0, slots := 0, locals := 26 } : Room).slots) := by
  refine MetFree.of_bodySF (plainFor_of_name pn_9) hisR ?_
  intro p e s m args below meth c s₁ Bd hml0 hP hK
  obtain ⟨rfl, hZ, hh⟩ := hP
  have hx := Bd.exec
  have hby := Bd.bytes
  have hlk := Bd.notSynchronized
  have hml : c.maxLocals = 2 := hml0
  have hown : s.vm.findClass "com/example/quorumkeel/quorumkeel/protocol/Encoding$Reader" = some m.cls := findClass_of_methodNamed Bd.named
  have hnm := (name_of_methodNamed Bd.named Bd.method).1
  have X0 : Stand p l e ({ frames := 2, cells := 0, slots := 0, locals := 26 } : Room) s m #[(.ref o0), (.ref ar)] below meth c s₁ [] 0 0 := Stand.of_body Bd
  have e0 : s₁.heap = h0 := by rw [← hh, Bd.state]; rfl
  have N0 := Fr.nil n0
  change own_Go p e below s (Q_rm1 Z o0 ar k z vs dv h0 n0) ({ frames := 2, cells := 0, slots := 0, locals := 26 } : Room).cells ({ frames := 2, cells := 0, slots := 0, locals := 26 } : Room).slots _
  refine own_go (S' := (s₁.setTop (mkF m 0 #[.val (.ref o0), .val (.ref ar)] []))) (fun _ k => castTop (ef_rm1 m o0 ar) k) ?_
  refine own_go (S' := (s₁.setTop (mkF m 3 #[.val (.ref o0), .val (.ref ar)] [(.ref ar), (.ref ar), (.ref o0)]))) (fun _ k => XS.aloadN X0.here hx rfl (hb hby d1_0) rfl rfl (XS.aloadN X0.here hx rfl (hb hby d1_1) rfl rfl (XS.aloadN X0.here hx rfl (hb hby d1_2) rfl rfl k))) ?_
  obtain ⟨cl1, Ar1, -, S1, M1, -, -⟩ := id V
  have ql1 := len_of S1 M1
  refine own_go (S' := (s₁.setTop (mkF m 4 #[.val (.ref o0), .val (.ref ar)] [(.int z), (.ref ar), (.ref o0)]))) (fun _ k => X0.arraylength hx (by rw [e0]; exact Ar1.1) (State.isArrayOf_alike hZ.alike Ar1.2.1) (g := (mkF m 3 #[.val (.ref o0), .val (.ref ar)] [(.ref ar), (.ref ar), (.ref o0)])) rfl rfl (hb hby d1_3) _ (by rw [ql1]; exact k)) ?_
  have ne0 := E_o0.neArv V (hw _ (List.mem_of_getElem? (i := 2) rfl))
  obtain ⟨v2, _, ⟨T2, L2, k2, n2⟩, -, X2, ⟨Lc2, hQ2, l2, y2, z2⟩, st2⟩ := X0.specialBack hx (y := (⟨"com/example/quorumkeel/quorumkeel/protocol/Encoding$Reader", "<init>", "([BI)V"⟩ : MethodName)) rfl hown (mvT hZ (hw _ (List.mem_of_getElem? (i := 7) rfl))) (mvT hZ (hw _ (List.mem_of_getElem? (i := 8) rfl))) (mvT hZ (hw _ (List.mem_of_getElem? (i := 9) rfl))) (by decide) (backOf (W := 0) (rm2 l Z a0 hw [] o0 ar z h0 n0 Z0 E_o0 F_o0_bytes F_o0_limit F_o0_position g_o0) hZ (hw _ (List.mem_of_getElem? (i := 9) rfl)) (hw _ (List.mem_of_getElem? (i := 3) rfl)) (by decide) (by decide)) (g := (mkF m 4 #[.val (.ref o0), .val (.ref ar)] [(.int z), (.ref ar), (.ref o0)])) rfl (by rw [hml]; rfl) (Steps.refl _) (a := o0) (argsL := [(.ref ar), (.int z)]) (rest := []) (lenOf pd_15 rfl) rfl (by show 2 * 0 + _ ≤ _; exact Nat.le_of_eq rfl) (hb hby d1_4) (fun _ _ => ⟨rfl, e0, (by decide : 0 + 0 ≤ _), (by decide : 0 + 0 ≤ _)⟩)
  dsimp only [Pt.U, Pt.locs, Pt.cells, Pt.slots] at X2 l2 y2 z2 st2 hQ2
  subst l2 y2 z2
  obtain ⟨rfl, Nq2, Kc2, g12, g22, g32⟩ := hQ2
  have N2 := Fr.app N0 Nq2
  have Z2 : n0 ≤ T2.heap.size := Nat.le_trans Z0 Kc2.1
  have c2_Eo0 := E_o0.keep Kc2
  have c2_V := V.keep Kc2 (ninS (Ne.symm ne0) nin0)
  refine own_goT (S' := (T2.setTop (mkF m 7 #[.val (.ref o0), .val (.ref ar)] []))) st2 ?_
  refine own_ret0 X2 hx hlk Bd.returns (hb hby d1_7) (by decide) (by decide) ?_
  exact ⟨rfl, N2, Kc2, g12, g22, g32⟩
theorem d4_0 : decode prog_19_method_5_code 0 = .ok (.aload_n 0, 1) := by decide +kernel
theorem d4_1 : decode prog_19_method_5_code 1 = .ok (.getfield 107, 3) := by decide +kernel
theorem d4_4 : decode prog_19_method_5_code 4 = .ok (.aload_n 0, 1) := by decide +kernel
theorem d4_5 : decode prog_19_method_5_code 5 = .ok (.getfield 18, 3) := by decide +kernel
theorem d4_8 : decode prog_19_method_5_code 8 = .ok (.if_icmp .ne 20, 3) := by decide +kernel
theorem d4_28 : decode prog_19_method_5_code 28 = .ok (.aload_n 0, 1) := by decide +kernel
theorem d4_29 : decode prog_19_method_5_code 29 = .ok (.getfield 14, 3) := by decide +kernel
theorem d4_32 : decode prog_19_method_5_code 32 = .ok (.aload_n 0, 1) := by decide +kernel
theorem d4_33 : decode prog_19_method_5_code 33 = .ok (.dup, 1) := by decide +kernel
theorem d4_34 : decode prog_19_method_5_code 34 = .ok (.getfield 107, 3) := by decide +kernel
theorem d4_37 : decode prog_19_method_5_code 37 = .ok (.dup_x1, 1) := by decide +kernel
theorem d4_38 : decode prog_19_method_5_code 38 = .ok (.iconst 1, 1) := by decide +kernel
theorem d4_39 : decode prog_19_method_5_code 39 = .ok (.iadd, 1) := by decide +kernel
theorem d4_40 : decode prog_19_method_5_code 40 = .ok (.putfield 107, 3) := by decide +kernel
theorem d4_43 : decode prog_19_method_5_code 43 = .ok (.baload, 1) := by decide +kernel
theorem d4_44 : decode prog_19_method_5_code 44 = .ok (.sipush 255, 3) := by decide +kernel
theorem d4_47 : decode prog_19_method_5_code 47 = .ok (.iand, 1) := by decide +kernel
theorem d4_48 : decode prog_19_method_5_code 48 = .ok (.ireturn, 1) := by decide +kernel
theorem ef_rm4 (m : MethodId) (x0 : Addr) : entryFrame m #[(.ref x0)] 1 = mkF m 0 #[.val (.ref x0)] [] := by first | (simp [entryFrame, mkF, argsToLocals, Value.category]; done) | rfl
def Q_rm4 (Z : State) (o0 ar : Addr) (k : ClassId) (z lm po x : Int32) (vs : List Value) (dv : Value) (h0 : Heap) (n0 : Nat) (v : Option Value) (h : Heap) (L : List Loc) : Prop := v = some (.int (x &&& (255 : Int32))) ∧ Fr n0 L ∧ Keep h0 h [o0] ∧ Fld Z h o0 "com/example/quorumkeel/quorumkeel/protocol/Encoding$Reader" "bytes" "[B" (.ref ar) ∧ Fld Z h o0 "com/example/quorumkeel/quorumkeel/protocol/Encoding$Reader" "limit" "I" (.int lm) ∧ Fld Z h o0 "com/example/quorumkeel/quorumkeel/protocol/Encoding$Reader" "position" "I" (.int (po + (1 : Int32)))
set_option maxRecDepth 65536 in
set_option maxHeartbeats 40000000 in
theorem rm4 (l : Launch) (Z : State) (a0 : Array Value) (hw : ∀ d ∈ tables_1, d.before a0 Z = true) (ws : List Jvm.Cond) (o0 ar : Addr) (k : ClassId) (z lm po x : Int32) (vs : List Value) (dv : Value) (h0 : Heap) (n0 : Nat) (Z0 : n0 ≤ h0.size) (E_o0 : Exa Z h0 o0 "com/example/quorumkeel/quorumkeel/protocol/Encoding$Reader") (F_o0_bytes : Fld Z h0 o0 "com/example/quorumkeel/quorumkeel/protocol/Encoding$Reader" "bytes" "[B" (.ref ar)) (F_o0_limit : Fld Z h0 o0 "com/example/quorumkeel/quorumkeel/protocol/Encoding$Reader" "limit" "I" (.int lm)) (F_o0_position : Fld Z h0 o0 "com/example/quorumkeel/quorumkeel/protocol/Encoding$Reader" "position" "I" (.int po)) (g_o0 : n0 ≤ o0) (V : Arv Z h0 ar k .byte z vs dv) (hne : ¬ po = lm) (hp : ¬ po < 0 ∧ po < z) (hat : vs.getD po.toNatClampNeg dv = .int x) :
    MetFree l (⟨"com/example/quorumkeel/quorumkeel/protocol/Encoding$Reader", "readByte", "()I"⟩ : MethodName) (head1 (Jvm.Cond.code (⟨"com/example/quorumkeel/quorumkeel/protocol/Encoding$Reader", "readByte", "()I"⟩ : MethodName) prog_19_method_5_code 1 (some .int) :: ws) ({ frames := 0, cells := 0, slots := 0, locals := 0 } : Room)) (fun a U => a = #[(.ref o0)] ∧ Z.Warmed39 U.vm ∧ U.heap = h0) (fun _ _ _ _ _ => True) (fun _ U o U' => ∃ v L, o = .returned v ∧ Q_rm4 Z o0 ar k z lm po x vs dv h0 n0 v U'.heap L ∧ FrameEnd U o U' L ({ frames := 0, cells := 0, slots := 0, locals := 0 } : Room).cells ({ frames := 0, cells := 0, slots := 0, locals := 0 } : Room).slots) := by
  refine MetFree.of_bodySF (plainFor_of_name pn_9) hisR ?_
  intro p e s m args below meth c s₁ Bd hml0 hP hK
  obtain ⟨rfl, hZ, hh⟩ := hP
  have hx := Bd.exec
  have hby := Bd.bytes
  have hlk := Bd.notSynchronized
  have hml : c.maxLocals = 1 := hml0
  have hown : s.vm.findClass "com/example/quorumkeel/quorumkeel/protocol/Encoding$Reader" = some m.cls := findClass_of_methodNamed Bd.named
  have hnm := (name_of_methodNamed Bd.named Bd.method).1
  have X0 : Stand p l e ({ frames := 0, cells := 0, slots := 0, locals := 0 } : Room) s m #[(.ref o0)] below meth c s₁ [] 0 0 := Stand.of_body Bd
  have e0 : s₁.heap = h0 := by rw [← hh, Bd.state]; rfl
  have N0 := Fr.nil n0
  change own_Go p e below s (Q_rm4 Z o0 ar k z lm po x vs dv h0 n0) ({ frames := 0, cells := 0, slots := 0, locals := 0 } : Room).cells ({ frames := 0, cells := 0, slots := 0, locals := 0 } : Room).slots _
  refine own_go (S' := (s₁.setTop (mkF m 0 #[.val (.ref o0)] []))) (fun _ k => castTop (ef_rm4 m o0) k) ?_
  have K0 := Keep.refl h0 [o0]
  have ne0 := (E_o0.neArv V (hw _ (List.mem_of_getElem? (i := 2) rfl))).symm
  refine own_go (S' := (s₁.setTop (mkF m 1 #[.val (.ref o0)] [(.ref o0)]))) (fun _ k => XS.aloadN X0.here hx rfl (hb hby d4_0) rfl rfl k) ?_
  obtain ⟨T1, X1, e1, st1⟩ := getF X0 hx hZ hown (host := "") (Or.inl (hw _ (List.mem_of_getElem? (i := 22) rfl))) Via.refl e0 F_o0_position (g := (mkF m 1 #[.val (.ref o0)] [(.ref o0)])) rfl rfl (hb hby d4_1)
  refine own_go (S' := (T1.setTop (mkF m 4 #[.val (.ref o0)] [(.int po)]))) st1 ?_
  refine own_go (S' := (T1.setTop (mkF m 5 #[.val (.ref o0)] [(.ref o0), (.int po)]))) (fun _ k => XS.aloadN X1.here hx rfl (hb hby d4_4) rfl rfl k) ?_
  obtain ⟨T2, X2, e2, st2⟩ := getF X1 hx hZ hown (host := "") (Or.inl (hw _ (List.mem_of_getElem? (i := 15) rfl))) Via.refl e1 F_o0_limit (g := (mkF m 5 #[.val (.ref o0)] [(.ref o0), (.int po)])) rfl rfl (hb hby d4_5)
  refine own_go (S' := (T2.setTop (mkF m 8 #[.val (.ref o0)] [(.int lm), (.int po)]))) st2 ?_
  refine own_go (S' := (T2.setTop (mkF m 29 #[.val (.ref o0)] [(.ref o0)]))) (fun _ k => XS.icmpYes X2.here hx rfl (pc0 := 8) (pc' := 28) rfl (hb hby d4_8) rfl (feq hne).2 (by decide) (by decide) (XS.aloadN X2.here hx rfl (hb hby d4_28) rfl rfl k)) ?_
  obtain ⟨T3, X3, e3, st3⟩ := getF X2 hx hZ hown (host := "") (Or.inl (hw _ (List.mem_of_getElem? (i := 13) rfl))) Via.refl e2 F_o0_bytes (g := (mkF m 29 #[.val (.ref o0)] [(.ref o0)])) rfl rfl (hb hby d4_29)
  refine own_go (S' := (T3.setTop (mkF m 32 #[.val (.ref o0)] [(.ref ar)]))) st3 ?_
  refine own_go (S' := (T3.setTop (mkF m 34 #[.val (.ref o0)] [(.ref o0), (.ref o0), (.ref ar)]))) (fun _ k => XS.aloadN X3.here hx rfl (hb hby d4_32) rfl rfl (XS.dup X3.here hx rfl (hb hby d4_33) rfl rfl k)) ?_
  obtain ⟨T4, X4, e4, st4⟩ := getF X3 hx hZ hown (host := "") (Or.inl (hw _ (List.mem_of_getElem? (i := 22) rfl))) Via.refl e3 F_o0_position (g := (mkF m 34 #[.val (.ref o0)] [(.ref o0), (.ref o0), (.ref ar)])) rfl rfl (hb hby d4_34)
  refine own_go (S' := (T4.setTop (mkF m 37 #[.val (.ref o0)] [(.int po), (.ref o0), (.ref ar)]))) st4 ?_
  refine own_go (S' := (T4.setTop (mkF m 40 #[.val (.ref o0)] [(.int (po + (1 : Int32))), (.ref o0), (.int po), (.ref ar)]))) (fun _ k => XS.dupX1 X4.here hx rfl (hb hby d4_37) rfl rfl rfl (XS.iconst X4.here hx rfl (hb hby d4_38) (XS.iadd X4.here hx rfl (hb hby d4_39) rfl k))) ?_
  obtain ⟨T5, h5, X5, e5, W5, st5⟩ := putF X4 hx hZ hown (host := "") (Or.inl (hw _ (List.mem_of_getElem? (i := 22) rfl))) Via.refl e4 F_o0_position E_o0 (Or.inl (hw _ (List.mem_of_getElem? (i := 23) rfl))) (hw _ (List.mem_of_getElem? (i := 2) rfl)) (ty := .int) (by decide) rfl rfl (g := (mkF m 40 #[.val (.ref o0)] [(.int (po + (1 : Int32))), (.ref o0), (.int po), (.ref ar)])) rfl rfl (hb hby d4_40)
  have c5_Eo0 := E_o0.wr W5
  have c5_Fo0_bytes := F_o0_bytes.other W5 (Or.inr (slot_ne (Or.inr (hw _ (List.mem_of_getElem? (i := 14) rfl))) (Or.inl (hw _ (List.mem_of_getElem? (i := 23) rfl))) (by decide) (by decide : parseFieldDescriptor "[B" = some (.array .byte)) (by decide : parseFieldDescriptor "I" = some .int)))
  have c5_Fo0_limit := F_o0_limit.other W5 (Or.inr (slot_ne (Or.inr (hw _ (List.mem_of_getElem? (i := 16) rfl))) (Or.inl (hw _ (List.mem_of_getElem? (i := 23) rfl))) (by decide) (by decide : parseFieldDescriptor "I" = some .int) (by decide : parseFieldDescriptor "I" = some .int)))
  have c5_Fo0_position := F_o0_position.same W5
  have c5_V := V.other W5 ne0
  have K5 := K0.wr W5 (Or.inl (List.mem_of_getElem? (i := 0) rfl))
  have N5 := Fr.snoc X5 N0 g_o0
  have Z5 : n0 ≤ h5.size := Nat.le_trans Z0 (Nat.le_of_eq W5.size.symm)
  refine own_go (S' := (T5.setTop (mkF m 43 #[.val (.ref o0)] [(.int po), (.ref ar)]))) st5 ?_
  obtain ⟨clB, ArB, -, SB, -, HB, -⟩ := id c5_V
  have hinB := inb_of SB hp
  have hatB := Has.at HB hinB hat
  refine own_go (S' := (T5.setTop (mkF m 44 #[.val (.ref o0)] [(.int x)]))) (fun _ k => X5.baloadBytes hx (j := po) (v := (.int x)) (by rw [e5]; exact ArB.1) (State.isArrayOf_alike hZ.alike ArB.2.1) ArB.2.2 hinB hatB (g := (mkF m 43 #[.val (.ref o0)] [(.int po), (.ref ar)])) rfl rfl (hb hby d4_43) _ k) ?_
  refine own_go (S' := (T5.setTop (mkF m 48 #[.val (.ref o0)] [(.int (x &&& (255 : Int32)))]))) (fun _ k => XS.sipush X5.here hx rfl (hb hby d4_44) (XS.iand X5.here hx rfl (hb hby d4_47) rfl k)) ?_
  refine own_retI X5 hx hlk Bd.returns (hb hby d4_48) (by decide) (by decide) ?_
  rw [e5]
  exact ⟨rfl, N5, K5, c5_Fo0_bytes, c5_Fo0_limit, c5_Fo0_position⟩
theorem d5_0 : decode prog_19_method_15_code 0 = .ok (.aload_n 0, 1) := by decide +kernel
theorem d5_1 : decode prog_19_method_15_code 1 = .ok (.getfield 107, 3) := by decide +kernel
theorem d5_4 : decode prog_19_method_15_code 4 = .ok (.aload_n 0, 1) := by decide +kernel
theorem d5_5 : decode prog_19_method_15_code 5 = .ok (.getfield 18, 3) := by decide +kernel
theorem d5_8 : decode prog_19_method_15_code 8 = .ok (.if_icmp .eq 20, 3) := by decide +kernel
theorem d5_28 : decode prog_19_method_15_code 28 = .ok (.return_, 1) := by decide +kernel
theorem ef_rm5 (m : MethodId) (x0 : Addr) : entryFrame m #[(.ref x0)] 1 = mkF m 0 #[.val (.ref x0)] [] := by first | (simp [entryFrame, mkF, argsToLocals, Value.category]; done) | rfl
def Q_rm5 (Z : State) (o0 : Addr) (lm po : Int32) (h0 : Heap) (n0 : Nat) (v : Option Value) (h : Heap) (L : List Loc) : Prop := v = none ∧ h = h0 ∧ L = []
set_option maxRecDepth 65536 in
set_option maxHeartbeats 40000000 in
theorem rm5 (l : Launch) (Z : State) (a0 : Array Value) (hw : ∀ d ∈ tables_1, d.before a0 Z = true) (ws : List Jvm.Cond) (o0 : Addr) (lm po : Int32) (h0 : Heap) (n0 : Nat) (Z0 : n0 ≤ h0.size) (F_o0_limit : Fld Z h0 o0 "com/example/quorumkeel/quorumkeel/protocol/Encoding$Reader" "limit" "I" (.int lm)) (F_o0_position : Fld Z h0 o0 "com/example/quorumkeel/quorumkeel/protocol/Encoding$Reader" "position" "I" (.int po)) (he : po = lm) :
    MetFree l (⟨"com/example/quorumkeel/quorumkeel/protocol/Encoding$Reader", "end", "()V"⟩ : MethodName) (head1 (Jvm.Cond.code (⟨"com/example/quorumkeel/quorumkeel/protocol/Encoding$Reader", "end", "()V"⟩ : MethodName) prog_19_method_15_code 1 none :: ws) ({ frames := 0, cells := 0, slots := 0, locals := 0 } : Room)) (fun a U => a = #[(.ref o0)] ∧ Z.Warmed39 U.vm ∧ U.heap = h0) (fun _ _ _ _ _ => True) (fun _ U o U' => ∃ v L, o = .returned v ∧ Q_rm5 Z o0 lm po h0 n0 v U'.heap L ∧ FrameEnd U o U' L ({ frames := 0, cells := 0, slots := 0, locals := 0 } : Room).cells ({ frames := 0, cells := 0, slots := 0, locals := 0 } : Room).slots) := by
  refine MetFree.of_bodySF (plainFor_of_name pn_9) hisR ?_
  intro p e s m args below meth c s₁ Bd hml0 hP hK
  obtain ⟨rfl, hZ, hh⟩ := hP
  have hx := Bd.exec
  have hby := Bd.bytes
  have hlk := Bd.notSynchronized
  have hml : c.maxLocals = 1 := hml0
  have hown : s.vm.findClass "com/example/quorumkeel/quorumkeel/protocol/Encoding$Reader" = some m.cls := findClass_of_methodNamed Bd.named
  have hnm := (name_of_methodNamed Bd.named Bd.method).1
  have X0 : Stand p l e ({ frames := 0, cells := 0, slots := 0, locals := 0 } : Room) s m #[(.ref o0)] below meth c s₁ [] 0 0 := Stand.of_body Bd
  have e0 : s₁.heap = h0 := by rw [← hh, Bd.state]; rfl
  have N0 := Fr.nil n0
  change own_Go p e below s (Q_rm5 Z o0 lm po h0 n0) ({ frames := 0, cells := 0, slots := 0, locals := 0 } : Room).cells ({ frames := 0, cells := 0, slots := 0, locals := 0 } : Room).slots _
  refine own_go (S' := (s₁.setTop (mkF m 0 #[.val (.ref o0)] []))) (fun _ k => castTop (ef_rm5 m o0) k) ?_
  refine own_go (S' := (s₁.setTop (mkF m 1 #[.val (.ref o0)] [(.ref o0)]))) (fun _ k => XS.aloadN X0.here hx rfl (hb hby d5_0) rfl rfl k) ?_
  obtain ⟨T1, X1, e1, st1⟩ := getF X0 hx hZ hown (host := "") (Or.inl (hw _ (List.mem_of_getElem? (i := 22) rfl))) Via.refl e0 F_o0_position (g := (mkF m 1 #[.val (.ref o0)] [(.ref o0)])) rfl rfl (hb hby d5_1)
  refine own_go (S' := (T1.setTop (mkF m 4 #[.val (.ref o0)] [(.int po)]))) st1 ?_
  refine own_go (S' := (T1.setTop (mkF m 5 #[.val (.ref o0)] [(.ref o0), (.int po)]))) (fun _ k => XS.aloadN X1.here hx rfl (hb hby d5_4) rfl rfl k) ?_
  obtain ⟨T2, X2, e2, st2⟩ := getF X1 hx hZ hown (host := "") (Or.inl (hw _ (List.mem_of_getElem? (i := 15) rfl))) Via.refl e1 F_o0_limit (g := (mkF m 5 #[.val (.ref o0)] [(.ref o0), (.int po)])) rfl rfl (hb hby d5_5)
  refine own_go (S' := (T2.setTop (mkF m 8 #[.val (.ref o0)] [(.int lm), (.int po)]))) st2 ?_
  refine own_go (S' := (T2.setTop (mkF m 28 #[.val (.ref o0)] []))) (fun _ k => XS.icmpYes X2.here hx rfl (pc0 := 8) (pc' := 28) rfl (hb hby d5_8) rfl (teq he).1 (by decide) (by decide) k) ?_
  refine own_ret0 X2 hx hlk Bd.returns (hb hby d5_28) (by decide) (by decide) ?_
  exact ⟨rfl, e2, rfl⟩
theorem d6_0 : decode method_2_code 0 = .ok (.iload_n 0, 1) := by decide +kernel
theorem d6_1 : decode method_2_code 1 = .ok (.sipush 256, 3) := by decide +kernel
theorem d6_4 : decode method_2_code 4 = .ok (.irem, 1) := by decide +kernel
theorem d6_5 : decode method_2_code 5 = .ok (.sipush 256, 3) := by decide +kernel
theorem d6_8 : decode method_2_code 8 = .ok (.iadd, 1) := by decide +kernel
theorem d6_9 : decode method_2_code 9 = .ok (.sipush 256, 3) := by decide +kernel
theorem d6_12 : decode method_2_code 12 = .ok (.irem, 1) := by decide +kernel
theorem d6_13 : decode method_2_code 13 = .ok (.ireturn, 1) := by decide +kernel
theorem pn_49 : plainName "com/example/quorumkeel/quorumkeel/protocol/ReaderReadBytePinLaw" = true := by first | (simp [plainName, overriddenIn]; done) | decide +kernel
theorem ef_rm6 (m : MethodId) (x0 : Int32) : entryFrame m #[(.int x0)] 1 = mkF m 0 #[.val (.int x0)] [] := by first | (simp [entryFrame, mkF, argsToLocals, Value.category]; done) | rfl
def Q_rm6 (Z : State) (p0 : Int32) (h0 : Heap) (n0 : Nat) (v : Option Value) (h : Heap) (L : List Loc) : Prop := v = some (.int ((p0 % (256 : Int32) + (256 : Int32)) % (256 : Int32))) ∧ h = h0 ∧ L = []
set_option maxRecDepth 65536 in
set_option maxHeartbeats 40000000 in
theorem rm6 (l : Launch) (Z : State) (a0 : Array Value) (hw : ∀ d ∈ tables_1, d.before a0 Z = true) (ws : List Jvm.Cond) (p0 : Int32) (h0 : Heap) (n0 : Nat) (Z0 : n0 ≤ h0.size)  :
    MetFree l (⟨"com/example/quorumkeel/quorumkeel/protocol/ReaderReadBytePinLaw", "unsigned", "(I)I"⟩ : MethodName) (head1 (Jvm.Cond.code (⟨"com/example/quorumkeel/quorumkeel/protocol/ReaderReadBytePinLaw", "unsigned", "(I)I"⟩ : MethodName) method_2_code 1 (some .int) :: ws) ({ frames := 0, cells := 0, slots := 0, locals := 0 } : Room)) (fun a U => a = #[(.int p0)] ∧ Z.Warmed39 U.vm ∧ U.heap = h0) (fun _ _ _ _ _ => True) (fun _ U o U' => ∃ v L, o = .returned v ∧ Q_rm6 Z p0 h0 n0 v U'.heap L ∧ FrameEnd U o U' L ({ frames := 0, cells := 0, slots := 0, locals := 0 } : Room).cells ({ frames := 0, cells := 0, slots := 0, locals := 0 } : Room).slots) := by
  refine MetFree.of_bodySF (plainFor_of_name pn_49) hisR ?_
  intro p e s m args below meth c s₁ Bd hml0 hP hK
  obtain ⟨rfl, hZ, hh⟩ := hP
  have hx := Bd.exec
  have hby := Bd.bytes
  have hlk := Bd.notSynchronized
  have hml : c.maxLocals = 1 := hml0
  have hown : s.vm.findClass "com/example/quorumkeel/quorumkeel/protocol/ReaderReadBytePinLaw" = some m.cls := findClass_of_methodNamed Bd.named
  have hnm := (name_of_methodNamed Bd.named Bd.method).1
  have X0 : Stand p l e ({ frames := 0, cells := 0, slots := 0, locals := 0 } : Room) s m #[(.int p0)] below meth c s₁ [] 0 0 := Stand.of_body Bd
  have e0 : s₁.heap = h0 := by rw [← hh, Bd.state]; rfl
  have N0 := Fr.nil n0
  change own_Go p e below s (Q_rm6 Z p0 h0 n0) ({ frames := 0, cells := 0, slots := 0, locals := 0 } : Room).cells ({ frames := 0, cells := 0, slots := 0, locals := 0 } : Room).slots _
  refine own_go (S' := (s₁.setTop (mkF m 0 #[.val (.int p0)] []))) (fun _ k => castTop (ef_rm6 m p0) k) ?_
  refine own_go (S' := (s₁.setTop (mkF m 13 #[.val (.int p0)] [(.int (((p0 % (256 : Int32)) + (256 : Int32)) % (256 : Int32)))]))) (fun _ k => XS.iloadN X0.here hx rfl (hb hby d6_0) rfl (XS.sipush X0.here hx rfl (hb hby d6_1) (iremM X0 hx (g := (mkF m 4 #[.val (.int p0)] [(.int (256 : Int32)), (.int p0)])) rfl (hb hby d6_4) rfl (by decide) (XS.sipush X0.here hx rfl (hb hby d6_5) (XS.iadd X0.here hx rfl (hb hby d6_8) rfl (XS.sipush X0.here hx rfl (hb hby d6_9) (iremM X0 hx (g := (mkF m 12 #[.val (.int p0)] [(.int (256 : Int32)), (.int ((p0 % (256 : Int32)) + (256 : Int32)))])) rfl (hb hby d6_12) rfl (by decide) k))))))) ?_
  refine own_retI X0 hx hlk Bd.returns (hb hby d6_13) (by decide) (by decide) ?_
  exact ⟨by simp [nar, ] , e0, rfl⟩
theorem pd_50 : parseMethodDescriptor "([B)V" = some ⟨[(.array .byte)], none⟩ := by decide +kernel
theorem pd_51 : parseMethodDescriptor "()I" = some ⟨[], some .int⟩ := by decide +kernel
theorem pd_52 : parseMethodDescriptor "()V" = some ⟨[], none⟩ := by decide +kernel
theorem pd_53 : parseMethodDescriptor "(I)I" = some ⟨[.int], some .int⟩ := by decide +kernel
theorem ef_rm0 (m : MethodId) (x0 : Int32) (x1 : Int32) (x2 : Int32) (x3 : Int32) : entryFrame m #[(.int x0), (.int x1), (.int x2), (.int x3)] maxLocals = mkF m 0 #[.val (.int x0), .val (.int x1), .val (.int x2), .val (.int x3), .unset, .unset, .unset, .unset, .unset, .unset] [] := by first | (simp [entryFrame, mkF, argsToLocals, Value.category, maxLocals]; done) | rfl
def Q_rm0 (Z : State) (i0 i1 i2 i3 : Int32) (h0 : Heap) (n0 : Nat) (v : Option Value) (h : Heap) (L : List Loc) : Prop := v = some (.int 1) ∧ Fr n0 L
set_option maxRecDepth 65536 in
set_option maxHeartbeats 40000000 in
theorem rm0 (l : Launch) (Z : State) (a0 : Array Value) (hw : ∀ d ∈ tables_1, d.before a0 Z = true) (ws : List Jvm.Cond) (i0 i1 i2 i3 : Int32) (h0 : Heap) (n0 : Nat) (Z0 : n0 ≤ h0.size)  :
    MetFree l x (head1 (Jvm.Cond.code x code maxLocals ret :: ws) room_1) (fun a U => a = #[(.int i0), (.int i1), (.int i2), (.int i3)] ∧ Z.Warmed39 U.vm ∧ U.heap = h0) (fun _ _ _ _ _ => True) (fun _ U o U' => ∃ v L, o = .returned v ∧ Q_rm0 Z i0 i1 i2 i3 h0 n0 v U'.heap L ∧ FrameEnd U o U' L room_1.cells room_1.slots) := by
  refine MetFree.of_bodySF (plainFor_of_name pn_49) hisR ?_
  intro p e s m args below meth c s₁ Bd hml0 hP hK
  obtain ⟨rfl, hZ, hh⟩ := hP
  have hx := Bd.exec
  have hby := Bd.bytes
  have hlk := Bd.notSynchronized
  have hml : c.maxLocals = 10 := hml0
  have hown : s.vm.findClass "com/example/quorumkeel/quorumkeel/protocol/ReaderReadBytePinLaw" = some m.cls := findClass_of_methodNamed Bd.named
  have hnm := (name_of_methodNamed Bd.named Bd.method).1
  have X0 : Stand p l e room_1 s m #[(.int i0), (.int i1), (.int i2), (.int i3)] below meth c s₁ [] 0 0 := Stand.of_body Bd
  have e0 : s₁.heap = h0 := by rw [← hh, Bd.state]; rfl
  have N0 := Fr.nil n0
  change own_Go p e below s (Q_rm0 Z i0 i1 i2 i3 h0 n0) room_1.cells room_1.slots _
  refine own_go (S' := (s₁.setTop (mkF m 0 #[.val (.int i0), .val (.int i1), .val (.int i2), .val (.int i3), .unset, .unset, .unset, .unset, .unset, .unset] []))) (fun _ k => castTop (ef_rm0 m i0 i1 i2 i3) k) ?_
  refine own_go (S' := (s₁.setTop (mkF m 1 #[.val (.int i0), .val (.int i1), .val (.int i2), .val (.int i3), .unset, .unset, .unset, .unset, .unset, .unset] [(.int (4 : Int32))]))) (fun _ k => XS.iconst X0.here hx rfl (hb hby at_0) k) ?_
  obtain ⟨T1, h1, k1, X1, e1, E1, A1, st1⟩ := newP X0 hx hZ (hw _ (List.mem_of_getElem? (i := 0) rfl)) e0 (g := (mkF m 1 #[.val (.int i0), .val (.int i1), .val (.int i2), .val (.int i3), .unset, .unset, .unset, .unset, .unset, .unset] [(.int (4 : Int32))])) rfl (hb hby at_1) rfl (by decide) (cap := 4) (by decide) (by decide) (by decide) (by decide)
  obtain ⟨b1, gz1⟩ : ∃ z, z = h0.size := ⟨_, rfl⟩
  rw [← gz1] at A1 st1
  have g_b1 : n0 ≤ b1 := Nat.le_trans Z0 (Nat.le_of_eq gz1.symm)
  have V1 := Arv.new A1 (by decide)
  have Z1 : n0 ≤ h1.size := Nat.le_trans Z0 E1.1
  refine own_go (S' := (T1.setTop (mkF m 3 #[.val (.int i0), .val (.int i1), .val (.int i2), .val (.int i3), .unset, .unset, .unset, .unset, .unset, .unset] [(.ref b1)]))) st1 ?_
  refine own_go (S' := (T1.setTop (mkF m 10 #[.val (.int i0), .val (.int i1), .val (.int i2), .val (.int i3), .val (.ref b1), .unset, .unset, .unset, .unset, .unset] [(.int (i0.toInt8.toInt32)), (.int (0 : Int32)), (.ref b1)]))) (fun _ k => XS.astore X1.here hx rfl (hb hby at_3) rfl rfl (l' := #[.val (.int i0), .val (.int i1), .val (.int i2), .val (.int i3), .val (.ref b1), .unset, .unset, .unset, .unset, .unset]) rfl (XS.aload X1.here hx rfl (hb hby at_5) rfl rfl (XS.iconst X1.here hx rfl (hb hby at_7) (XS.iloadN X1.here hx rfl (hb hby at_8) rfl (XS.i2b X1.here hx rfl (hb hby at_9) rfl k))))) ?_
  have V2 : Arv Z h1 b1 k1 .byte (4 : Int32) [(.int (0 : Int32)), (.int (0 : Int32)), (.int (0 : Int32)), (.int (0 : Int32))] (.int (0 : Int32)) := V1.pad (pad_rep [] (.int (0 : Int32)) 4)
  obtain ⟨cl3, Ar3, qc3, S3, M3, Ha3, Ga3⟩ := id V2
  obtain ⟨T3, h3, X3, e3, W3, st3⟩ := stB X1 hx hZ e1 Ar3 (j := (0 : Int32)) (inb_of S3 ⟨by decide, by decide⟩) (g := (mkF m 10 #[.val (.int i0), .val (.int i1), .val (.int i2), .val (.int i3), .val (.ref b1), .unset, .unset, .unset, .unset, .unset] [(.int (i0.toInt8.toInt32)), (.int (0 : Int32)), (.ref b1)])) rfl rfl (hb hby at_10)
  have V3 : Arv Z h3 b1 k1 .byte (4 : Int32) [(.int (nar .byte (i0.toInt8.toInt32))), (.int (0 : Int32)), (.int (0 : Int32)), (.int (0 : Int32))] (.int (0 : Int32)) := Arv.set Ar3 qc3 S3 M3 Ha3 Ga3 (fits_nar_byte _) W3 0 (by decide) (Nat.le_of_ble_eq_true rfl)
  have N3 := Fr.snoc X3 N0 g_b1
  have Z3 : n0 ≤ h3.size := Nat.le_trans Z1 (Nat.le_of_eq W3.size.symm)
  refine own_go (S' := (T3.setTop (mkF m 11 #[.val (.int i0), .val (.int i1), .val (.int i2), .val (.int i3), .val (.ref b1), .unset, .unset, .unset, .unset, .unset] []))) st3 ?_
  refine own_go (S' := (T3.setTop (mkF m 16 #[.val (.int i0), .val (.int i1), .val (.int i2), .val (.int i3), .val (.ref b1), .unset, .unset, .unset, .unset, .unset] [(.int (i1.toInt8.toInt32)), (.int (1 : Int32)), (.ref b1)]))) (fun _ k => XS.aload X3.here hx rfl (hb hby at_11) rfl rfl (XS.iconst X3.here hx rfl (hb hby at_13) (XS.iloadN X3.here hx rfl (hb hby at_14) rfl (XS.i2b X3.here hx rfl (hb hby at_15) rfl k)))) ?_
  obtain ⟨cl4, Ar4, qc4, S4, M4, Ha4, Ga4⟩ := id V3
  obtain ⟨T4, h4, X4, e4, W4, st4⟩ := stB X3 hx hZ e3 Ar4 (j := (1 : Int32)) (inb_of S4 ⟨by decide, by decide⟩) (g := (mkF m 16 #[.val (.int i0), .val (.int i1), .val (.int i2), .val (.int i3), .val (.ref b1), .unset, .unset, .unset, .unset, .unset] [(.int (i1.toInt8.toInt32)), (.int (1 : Int32)), (.ref b1)])) rfl rfl (hb hby at_16)
  have V4 : Arv Z h4 b1 k1 .byte (4 : Int32) [(.int (nar .byte (i0.toInt8.toInt32))), (.int (nar .byte (i1.toInt8.toInt32))), (.int (0 : Int32)), (.int (0 : Int32))] (.int (0 : Int32)) := Arv.set Ar4 qc4 S4 M4 Ha4 Ga4 (fits_nar_byte _) W4 1 (by decide) (Nat.le_of_ble_eq_true rfl)
  have N4 := Fr.snoc X4 N3 g_b1
  have Z4 : n0 ≤ h4.size := Nat.le_trans Z3 (Nat.le_of_eq W4.size.symm)
  refine own_go (S' := (T4.setTop (mkF m 17 #[.val (.int i0), .val (.int i1), .val (.int i2), .val (.int i3), .val (.ref b1), .unset, .unset, .unset, .unset, .unset] []))) st4 ?_
  refine own_go (S' := (T4.setTop (mkF m 22 #[.val (.int i0), .val (.int i1), .val (.int i2), .val (.int i3), .val (.ref b1), .unset, .unset, .unset, .unset, .unset] [(.int (i2.toInt8.toInt32)), (.int (2 : Int32)), (.ref b1)]))) (fun _ k => XS.aload X4.here hx rfl (hb hby at_17) rfl rfl (XS.iconst X4.here hx rfl (hb hby at_19) (XS.iloadN X4.here hx rfl (hb hby at_20) rfl (XS.i2b X4.here hx rfl (hb hby at_21) rfl k)))) ?_
  obtain ⟨cl5, Ar5, qc5, S5, M5, Ha5, Ga5⟩ := id V4
  obtain ⟨T5, h5, X5, e5, W5, st5⟩ := stB X4 hx hZ e4 Ar5 (j := (2 : Int32)) (inb_of S5 ⟨by decide, by decide⟩) (g := (mkF m 22 #[.val (.int i0), .val (.int i1), .val (.int i2), .val (.int i3), .val (.ref b1), .unset, .unset, .unset, .unset, .unset] [(.int (i2.toInt8.toInt32)), (.int (2 : Int32)), (.ref b1)])) rfl rfl (hb hby at_22)
  have V5 : Arv Z h5 b1 k1 .byte (4 : Int32) [(.int (nar .byte (i0.toInt8.toInt32))), (.int (nar .byte (i1.toInt8.toInt32))), (.int (nar .byte (i2.toInt8.toInt32))), (.int (0 : Int32))] (.int (0 : Int32)) := Arv.set Ar5 qc5 S5 M5 Ha5 Ga5 (fits_nar_byte _) W5 2 (by decide) (Nat.le_of_ble_eq_true rfl)
  have N5 := Fr.snoc X5 N4 g_b1
  have Z5 : n0 ≤ h5.size := Nat.le_trans Z4 (Nat.le_of_eq W5.size.symm)
  refine own_go (S' := (T5.setTop (mkF m 23 #[.val (.int i0), .val (.int i1), .val (.int i2), .val (.int i3), .val (.ref b1), .unset, .unset, .unset, .unset, .unset] []))) st5 ?_
  refine own_go (S' := (T5.setTop (mkF m 28 #[.val (.int i0), .val (.int i1), .val (.int i2), .val (.int i3), .val (.ref b1), .unset, .unset, .unset, .unset, .unset] [(.int (i3.toInt8.toInt32)), (.int (3 : Int32)), (.ref b1)]))) (fun _ k => XS.aload X5.here hx rfl (hb hby at_23) rfl rfl (XS.iconst X5.here hx rfl (hb hby at_25) (XS.iloadN X5.here hx rfl (hb hby at_26) rfl (XS.i2b X5.here hx rfl (hb hby at_27) rfl k)))) ?_
  obtain ⟨cl6, Ar6, qc6, S6, M6, Ha6, Ga6⟩ := id V5
  obtain ⟨T6, h6, X6, e6, W6, st6⟩ := stB X5 hx hZ e5 Ar6 (j := (3 : Int32)) (inb_of S6 ⟨by decide, by decide⟩) (g := (mkF m 28 #[.val (.int i0), .val (.int i1), .val (.int i2), .val (.int i3), .val (.ref b1), .unset, .unset, .unset, .unset, .unset] [(.int (i3.toInt8.toInt32)), (.int (3 : Int32)), (.ref b1)])) rfl rfl (hb hby at_28)
  have V6 : Arv Z h6 b1 k1 .byte (4 : Int32) [(.int (nar .byte (i0.toInt8.toInt32))), (.int (nar .byte (i1.toInt8.toInt32))), (.int (nar .byte (i2.toInt8.toInt32))), (.int (nar .byte (i3.toInt8.toInt32)))] (.int (0 : Int32)) := Arv.set Ar6 qc6 S6 M6 Ha6 Ga6 (fits_nar_byte _) W6 3 (by decide) (Nat.le_of_ble_eq_true rfl)
  have N6 := Fr.snoc X6 N5 g_b1
  have Z6 : n0 ≤ h6.size := Nat.le_trans Z5 (Nat.le_of_eq W6.size.symm)
  refine own_go (S' := (T6.setTop (mkF m 29 #[.val (.int i0), .val (.int i1), .val (.int i2), .val (.int i3), .val (.ref b1), .unset, .unset, .unset, .unset, .unset] []))) st6 ?_
  obtain ⟨T7, h7, X7, e7, E7, A7, D7, -, st7⟩ := newO X6 hx hZ hown (hw _ (List.mem_of_getElem? (i := 1) rfl)) (hw _ (List.mem_of_getElem? (i := 2) rfl)) (hw _ (List.mem_of_getElem? (i := 3) rfl)) e6 (g := (mkF m 29 #[.val (.int i0), .val (.int i1), .val (.int i2), .val (.int i3), .val (.ref b1), .unset, .unset, .unset, .unset, .unset] [])) rfl (hb hby at_29) (by decide) (by decide)
  obtain ⟨b7, gz7⟩ : ∃ z, z = h6.size := ⟨_, rfl⟩
  rw [← gz7] at A7 D7 st7
  have ne_b1_b7 : b1 ≠ b7 := Nat.ne_of_lt (by rw [gz7]; exact V6.lt)
  have c7_Vb1 := V6.ext E7
  have g_b7 : n0 ≤ b7 := Nat.le_trans Z6 (Nat.le_of_eq gz7.symm)
  have F7_bytes : Fld Z h7 b7 "com/example/quorumkeel/quorumkeel/protocol/Encoding$Reader" "bytes" "[B" .null := D7 (Or.inr (hw _ (List.mem_of_getElem? (i := 14) rfl))) (ty := (.array .byte)) (by decide)
  have F7_limit : Fld Z h7 b7 "com/example/quorumkeel/quorumkeel/protocol/Encoding$Reader" "limit" "I" (.int (0 : Int32)) := D7 (Or.inr (hw _ (List.mem_of_getElem? (i := 16) rfl))) (ty := .int) (by decide)
  have F7_position : Fld Z h7 b7 "com/example/quorumkeel/quorumkeel/protocol/Encoding$Reader" "position" "I" (.int (0 : Int32)) := D7 (Or.inl (hw _ (List.mem_of_getElem? (i := 23) rfl))) (ty := .int) (by decide)
  have Z7 : n0 ≤ h7.size := Nat.le_trans Z6 E7.1
  refine own_go (S' := (T7.setTop (mkF m 32 #[.val (.int i0), .val (.int i1), .val (.int i2), .val (.int i3), .val (.ref b1), .unset, .unset, .unset, .unset, .unset] [(.ref b7)]))) st7 ?_
  refine own_go (S' := (T7.setTop (mkF m 35 #[.val (.int i0), .val (.int i1), .val (.int i2), .val (.int i3), .val (.ref b1), .unset, .unset, .unset, .unset, .unset] [(.ref b1), (.ref b7), (.ref b7)]))) (fun _ k => XS.dup X7.here hx rfl (hb hby at_32) rfl rfl (XS.aload X7.here hx rfl (hb hby at_33) rfl rfl k)) ?_
  obtain ⟨v8, _, ⟨T8, L8, k8, n8⟩, -, X8, ⟨Lc8, hQ8, l8, y8, z8⟩, st8⟩ := X7.specialBack hx (y := (⟨"com/example/quorumkeel/quorumkeel/protocol/Encoding$Reader", "<init>", "([B)V"⟩ : MethodName)) rfl hown (mvT hZ (hw _ (List.mem_of_getElem? (i := 4) rfl))) (mvT hZ (hw _ (List.mem_of_getElem? (i := 5) rfl))) (mvT hZ (hw _ (List.mem_of_getElem? (i := 6) rfl))) (by decide) (backOf (W := 1) (rm1 l Z a0 hw [] b7 b1 k1 (4 : Int32) [(.int (nar .byte (i0.toInt8.toInt32))), (.int (nar .byte (i1.toInt8.toInt32))), (.int (nar .byte (i2.toInt8.toInt32))), (.int (nar .byte (i3.toInt8.toInt32)))] (.int (0 : Int32)) h7 n0 Z7 A7 F7_bytes F7_limit F7_position g_b7 c7_Vb1) hZ (hw _ (List.mem_of_getElem? (i := 6) rfl)) (hw _ (List.mem_of_getElem? (i := 3) rfl)) (by decide) (by decide)) (g := (mkF m 35 #[.val (.int i0), .val (.int i1), .val (.int i2), .val (.int i3), .val (.ref b1), .unset, .unset, .unset, .unset, .unset] [(.ref b1), (.ref b7), (.ref b7)])) rfl (by rw [hml]; rfl) (Steps.refl _) (a := b7) (argsL := [(.ref b1)]) (rest := [(.ref b7)]) (lenOf pd_50 rfl) rfl (by show 2 * 0 + _ ≤ _; exact Nat.le_of_eq rfl) (hb hby at_35) (fun _ _ => ⟨rfl, e7, (by decide : 2 + 0 ≤ _), (by decide : 7 + 0 ≤ _)⟩)
  dsimp only [Pt.U, Pt.locs, Pt.cells, Pt.slots] at X8 l8 y8 z8 st8 hQ8
  subst l8 y8 z8
  obtain ⟨rfl, Nq8, Kc8, g18, g28, g38⟩ := hQ8
  have N8 := Fr.app N6 Nq8
  have Z8 : n0 ≤ T8.heap.size := Nat.le_trans Z7 Kc8.1
  have c8_Vb1 := c7_Vb1.keep Kc8 (ninS ne_b1_b7 nin0)
  have c8_Eb7 := A7.keep Kc8
  refine own_goT (S' := (T8.setTop (mkF m 38 #[.val (.int i0), .val (.int i1), .val (.int i2), .val (.int i3), .val (.ref b1), .unset, .unset, .unset, .unset, .unset] [(.ref b7)]))) st8 ?_
  refine own_go (S' := (T8.setTop (mkF m 42 #[.val (.int i0), .val (.int i1), .val (.int i2), .val (.int i3), .val (.ref b1), .val (.ref b7), .unset, .unset, .unset, .unset] [(.ref b7)]))) (fun _ k => XS.astore X8.here hx rfl (hb hby at_38) rfl rfl (l' := #[.val (.int i0), .val (.int i1), .val (.int i2), .val (.int i3), .val (.ref b1), .val (.ref b7), .unset, .unset, .unset, .unset]) rfl (XS.aload X8.here hx rfl (hb hby at_40) rfl rfl k)) ?_
  obtain ⟨cq9, kq9, q9a, q9b, q9c⟩ := isOf hZ rfl c8_Eb7
  obtain ⟨v9, _, ⟨T9, L9, k9, n9⟩, -, X9, ⟨Lc9, hQ9, l9, y9, z9⟩, st9⟩ := X8.virtualBack hx (y := (⟨"com/example/quorumkeel/quorumkeel/protocol/Encoding$Reader", "readByte", "()I"⟩ : MethodName)) (z := (⟨"com/example/quorumkeel/quorumkeel/protocol/Encoding$Reader", "readByte", "()I"⟩ : MethodName)) hown (mvT hZ (hw _ (List.mem_of_getElem? (i := 17) rfl))) (mvT hZ (hw _ (List.mem_of_getElem? (i := 18) rfl))) (notFace_of_selects (args := #[]) (mvT hZ (hw _ (List.mem_of_getElem? (i := 20) rfl)))) (mvT hZ (hw _ (List.mem_of_getElem? (i := 20) rfl))) (mvT hZ (hw _ (List.mem_of_getElem? (i := 19) rfl))) (by decide) (backOf (W := 0) (rm4 l Z a0 hw [] b7 b1 k1 (4 : Int32) (4 : Int32) (0 : Int32) (nar .byte (i0.toInt8.toInt32)) [(.int (nar .byte (i0.toInt8.toInt32))), (.int (nar .byte (i1.toInt8.toInt32))), (.int (nar .byte (i2.toInt8.toInt32))), (.int (nar .byte (i3.toInt8.toInt32)))] (.int (0 : Int32)) T8.heap n0 Z8 c8_Eb7 g18 g28 g38 g_b7 c8_Vb1 (by decide) (by decide) rfl) hZ (hw _ (List.mem_of_getElem? (i := 21) rfl)) (hw _ (List.mem_of_getElem? (i := 3) rfl)) (by decide) (by decide)) q9a q9c (g := (mkF m 42 #[.val (.int i0), .val (.int i1), .val (.int i2), .val (.int i3), .val (.ref b1), .val (.ref b7), .unset, .unset, .unset, .unset] [(.ref b7)])) rfl (by rw [hml]; rfl) (Steps.refl _) (argsL := []) (rest := []) (lenOf pd_51 rfl) rfl (by show 2 * 0 + _ ≤ _; exact Nat.le_of_eq rfl) (hb hby at_42) (fun _ _ => ⟨rfl, rfl, (by decide : 2 + 0 ≤ _), (by decide : 7 + 0 ≤ _)⟩)
  dsimp only [Pt.U, Pt.locs, Pt.cells, Pt.slots] at X9 l9 y9 z9 st9 hQ9
  subst l9 y9 z9
  obtain ⟨rfl, Nq9, Kc9, g19, g29, g39⟩ := hQ9
  have N9 := Fr.app N8 Nq9
  have Z9 : n0 ≤ T9.heap.size := Nat.le_trans Z8 Kc9.1
  have c9_Vb1 := c8_Vb1.keep Kc9 (ninS ne_b1_b7 nin0)
  have c9_Eb7 := c8_Eb7.keep Kc9
  refine own_goT (S' := (T9.setTop (mkF m 45 #[.val (.int i0), .val (.int i1), .val (.int i2), .val (.int i3), .val (.ref b1), .val (.ref b7), .unset, .unset, .unset, .unset] [(.int ((nar .byte (i0.toInt8.toInt32)) &&& (255 : Int32)))]))) st9 ?_
  refine own_go (S' := (T9.setTop (mkF m 49 #[.val (.int i0), .val (.int i1), .val (.int i2), .val (.int i3), .val (.ref b1), .val (.ref b7), .val (.int ((nar .byte (i0.toInt8.toInt32)) &&& (255 : Int32))), .unset, .unset, .unset] [(.ref b7)]))) (fun _ k => XS.istore X9.here hx rfl (hb hby at_45) rfl (l' := #[.val (.int i0), .val (.int i1), .val (.int i2), .val (.int i3), .val (.ref b1), .val (.ref b7), .val (.int ((nar .byte (i0.toInt8.toInt32)) &&& (255 : Int32))), .unset, .unset, .unset]) rfl (XS.aload X9.here hx rfl (hb hby at_47) rfl rfl k)) ?_
  obtain ⟨cq10, kq10, q10a, q10b, q10c⟩ := isOf hZ rfl c9_Eb7
  obtain ⟨v10, _, ⟨T10, L10, k10, n10⟩, -, X10, ⟨Lc10, hQ10, l10, y10, z10⟩, st10⟩ := X9.virtualBack hx (y := (⟨"com/example/quorumkeel/quorumkeel/protocol/Encoding$Reader", "readByte", "()I"⟩ : MethodName)) (z := (⟨"com/example/quorumkeel/quorumkeel/protocol/Encoding$Reader", "readByte", "()I"⟩ : MethodName)) hown (mvT hZ (hw _ (List.mem_of_getElem? (i := 17) rfl))) (mvT hZ (hw _ (List.mem_of_getElem? (i := 18) rfl))) (notFace_of_selects (args := #[]) (mvT hZ (hw _ (List.mem_of_getElem? (i := 20) rfl)))) (mvT hZ (hw _ (List.mem_of_getElem? (i := 20) rfl))) (mvT hZ (hw _ (List.mem_of_getElem? (i := 19) rfl))) (by decide) (backOf (W := 0) (rm4 l Z a0 hw [] b7 b1 k1 (4 : Int32) (4 : Int32) ((0 : Int32) + (1 : Int32)) (nar .byte (i1.toInt8.toInt32)) [(.int (nar .byte (i0.toInt8.toInt32))), (.int (nar .byte (i1.toInt8.toInt32))), (.int (nar .byte (i2.toInt8.toInt32))), (.int (nar .byte (i3.toInt8.toInt32)))] (.int (0 : Int32)) T9.heap n0 Z9 c9_Eb7 g19 g29 g39 g_b7 c9_Vb1 (by decide) (by decide) rfl) hZ (hw _ (List.mem_of_getElem? (i := 21) rfl)) (hw _ (List.mem_of_getElem? (i := 3) rfl)) (by decide) (by decide)) q10a q10c (g := (mkF m 49 #[.val (.int i0), .val (.int i1), .val (.int i2), .val (.int i3), .val (.ref b1), .val (.ref b7), .val (.int ((nar .byte (i0.toInt8.toInt32)) &&& (255 : Int32))), .unset, .unset, .unset] [(.ref b7)])) rfl (by rw [hml]; rfl) (Steps.refl _) (argsL := []) (rest := []) (lenOf pd_51 rfl) rfl (by show 2 * 0 + _ ≤ _; exact Nat.le_of_eq rfl) (hb hby at_49) (fun _ _ => ⟨rfl, rfl, (by decide : 2 + 0 ≤ _), (by decide : 7 + 0 ≤ _)⟩)
  dsimp only [Pt.U, Pt.locs, Pt.cells, Pt.slots] at X10 l10 y10 z10 st10 hQ10
  subst l10 y10 z10
  obtain ⟨rfl, Nq10, Kc10, g110, g210, g310⟩ := hQ10
  have N10 := Fr.app N9 Nq10
  have Z10 : n0 ≤ T10.heap.size := Nat.le_trans Z9 Kc10.1
  have c10_Vb1 := c9_Vb1.keep Kc10 (ninS ne_b1_b7 nin0)
  have c10_Eb7 := c9_Eb7.keep Kc10
  refine own_goT (S' := (T10.setTop (mkF m 52 #[.val (.int i0), .val (.int i1), .val (.int i2), .val (.int i3), .val (.ref b1), .val (.ref b7), .val (.int ((nar .byte (i0.toInt8.toInt32)) &&& (255 : Int32))), .unset, .unset, .unset] [(.int ((nar .byte (i1.toInt8.toInt32)) &&& (255 : Int32)))]))) st10 ?_
  refine own_go (S' := (T10.setTop (mkF m 56 #[.val (.int i0), .val (.int i1), .val (.int i2), .val (.int i3), .val (.ref b1), .val (.ref b7), .val (.int ((nar .byte (i0.toInt8.toInt32)) &&& (255 : Int32))), .val (.int ((nar .byte (i1.toInt8.toInt32)) &&& (255 : Int32))), .unset, .unset] [(.ref b7)]))) (fun _ k => XS.istore X10.here hx rfl (hb hby at_52) rfl (l' := #[.val (.int i0), .val (.int i1), .val (.int i2), .val (.int i3), .val (.ref b1), .val (.ref b7), .val (.int ((nar .byte (i0.toInt8.toInt32)) &&& (255 : Int32))), .val (.int ((nar .byte (i1.toInt8.toInt32)) &&& (255 : Int32))), .unset, .unset]) rfl (XS.aload X10.here hx rfl (hb hby at_54) rfl rfl k)) ?_
  obtain ⟨cq11, kq11, q11a, q11b, q11c⟩ := isOf hZ rfl c10_Eb7
  obtain ⟨v11, _, ⟨T11, L11, k11, n11⟩, -, X11, ⟨Lc11, hQ11, l11, y11, z11⟩, st11⟩ := X10.virtualBack hx (y := (⟨"com/example/quorumkeel/quorumkeel/protocol/Encoding$Reader", "readByte", "()I"⟩ : MethodName)) (z := (⟨"com/example/quorumkeel/quorumkeel/protocol/Encoding$Reader", "readByte", "()I"⟩ : MethodName)) hown (mvT hZ (hw _ (List.mem_of_getElem? (i := 17) rfl))) (mvT hZ (hw _ (List.mem_of_getElem? (i := 18) rfl))) (notFace_of_selects (args := #[]) (mvT hZ (hw _ (List.mem_of_getElem? (i := 20) rfl)))) (mvT hZ (hw _ (List.mem_of_getElem? (i := 20) rfl))) (mvT hZ (hw _ (List.mem_of_getElem? (i := 19) rfl))) (by decide) (backOf (W := 0) (rm4 l Z a0 hw [] b7 b1 k1 (4 : Int32) (4 : Int32) (((0 : Int32) + (1 : Int32)) + (1 : Int32)) (nar .byte (i2.toInt8.toInt32)) [(.int (nar .byte (i0.toInt8.toInt32))), (.int (nar .byte (i1.toInt8.toInt32))), (.int (nar .byte (i2.toInt8.toInt32))), (.int (nar .byte (i3.toInt8.toInt32)))] (.int (0 : Int32)) T10.heap n0 Z10 c10_Eb7 g110 g210 g310 g_b7 c10_Vb1 (by decide) (by decide) rfl) hZ (hw _ (List.mem_of_getElem? (i := 21) rfl)) (hw _ (List.mem_of_getElem? (i := 3) rfl)) (by decide) (by decide)) q11a q11c (g := (mkF m 56 #[.val (.int i0), .val (.int i1), .val (.int i2), .val (.int i3), .val (.ref b1), .val (.ref b7), .val (.int ((nar .byte (i0.toInt8.toInt32)) &&& (255 : Int32))), .val (.int ((nar .byte (i1.toInt8.toInt32)) &&& (255 : Int32))), .unset, .unset] [(.ref b7)])) rfl (by rw [hml]; rfl) (Steps.refl _) (argsL := []) (rest := []) (lenOf pd_51 rfl) rfl (by show 2 * 0 + _ ≤ _; exact Nat.le_of_eq rfl) (hb hby at_56) (fun _ _ => ⟨rfl, rfl, (by decide : 2 + 0 ≤ _), (by decide : 7 + 0 ≤ _)⟩)
  dsimp only [Pt.U, Pt.locs, Pt.cells, Pt.slots] at X11 l11 y11 z11 st11 hQ11
  subst l11 y11 z11
  obtain ⟨rfl, Nq11, Kc11, g111, g211, g311⟩ := hQ11
  have N11 := Fr.app N10 Nq11
  have Z11 : n0 ≤ T11.heap.size := Nat.le_trans Z10 Kc11.1
  have c11_Vb1 := c10_Vb1.keep Kc11 (ninS ne_b1_b7 nin0)
  have c11_Eb7 := c10_Eb7.keep Kc11
  refine own_goT (S' := (T11.setTop (mkF m 59 #[.val (.int i0), .val (.int i1), .val (.int i2), .val (.int i3), .val (.ref b1), .val (.ref b7), .val (.int ((nar .byte (i0.toInt8.toInt32)) &&& (255 : Int32))), .val (.int ((nar .byte (i1.toInt8.toInt32)) &&& (255 : Int32))), .unset, .unset] [(.int ((nar .byte (i2.toInt8.toInt32)) &&& (255 : Int32)))]))) st11 ?_
  refine own_go (S' := (T11.setTop (mkF m 63 #[.val (.int i0), .val (.int i1), .val (.int i2), .val (.int i3), .val (.ref b1), .val (.ref b7), .val (.int ((nar .byte (i0.toInt8.toInt32)) &&& (255 : Int32))), .val (.int ((nar .byte (i1.toInt8.toInt32)) &&& (255 : Int32))), .val (.int ((nar .byte (i2.toInt8.toInt32)) &&& (255 : Int32))), .unset] [(.ref b7)]))) (fun _ k => XS.istore X11.here hx rfl (hb hby at_59) rfl (l' := #[.val (.int i0), .val (.int i1), .val (.int i2), .val (.int i3), .val (.ref b1), .val (.ref b7), .val (.int ((nar .byte (i0.toInt8.toInt32)) &&& (255 : Int32))), .val (.int ((nar .byte (i1.toInt8.toInt32)) &&& (255 : Int32))), .val (.int ((nar .byte (i2.toInt8.toInt32)) &&& (255 : Int32))), .unset]) rfl (XS.aload X11.here hx rfl (hb hby at_61) rfl rfl k)) ?_
  obtain ⟨cq12, kq12, q12a, q12b, q12c⟩ := isOf hZ rfl c11_Eb7
  obtain ⟨v12, _, ⟨T12, L12, k12, n12⟩, -, X12, ⟨Lc12, hQ12, l12, y12, z12⟩, st12⟩ := X11.virtualBack hx (y := (⟨"com/example/quorumkeel/quorumkeel/protocol/Encoding$Reader", "readByte", "()I"⟩ : MethodName)) (z := (⟨"com/example/quorumkeel/quorumkeel/protocol/Encoding$Reader", "readByte", "()I"⟩ : MethodName)) hown (mvT hZ (hw _ (List.mem_of_getElem? (i := 17) rfl))) (mvT hZ (hw _ (List.mem_of_getElem? (i := 18) rfl))) (notFace_of_selects (args := #[]) (mvT hZ (hw _ (List.mem_of_getElem? (i := 20) rfl)))) (mvT hZ (hw _ (List.mem_of_getElem? (i := 20) rfl))) (mvT hZ (hw _ (List.mem_of_getElem? (i := 19) rfl))) (by decide) (backOf (W := 0) (rm4 l Z a0 hw [] b7 b1 k1 (4 : Int32) (4 : Int32) ((((0 : Int32) + (1 : Int32)) + (1 : Int32)) + (1 : Int32)) (nar .byte (i3.toInt8.toInt32)) [(.int (nar .byte (i0.toInt8.toInt32))), (.int (nar .byte (i1.toInt8.toInt32))), (.int (nar .byte (i2.toInt8.toInt32))), (.int (nar .byte (i3.toInt8.toInt32)))] (.int (0 : Int32)) T11.heap n0 Z11 c11_Eb7 g111 g211 g311 g_b7 c11_Vb1 (by decide) (by decide) rfl) hZ (hw _ (List.mem_of_getElem? (i := 21) rfl)) (hw _ (List.mem_of_getElem? (i := 3) rfl)) (by decide) (by decide)) q12a q12c (g := (mkF m 63 #[.val (.int i0), .val (.int i1), .val (.int i2), .val (.int i3), .val (.ref b1), .val (.ref b7), .val (.int ((nar .byte (i0.toInt8.toInt32)) &&& (255 : Int32))), .val (.int ((nar .byte (i1.toInt8.toInt32)) &&& (255 : Int32))), .val (.int ((nar .byte (i2.toInt8.toInt32)) &&& (255 : Int32))), .unset] [(.ref b7)])) rfl (by rw [hml]; rfl) (Steps.refl _) (argsL := []) (rest := []) (lenOf pd_51 rfl) rfl (by show 2 * 0 + _ ≤ _; exact Nat.le_of_eq rfl) (hb hby at_63) (fun _ _ => ⟨rfl, rfl, (by decide : 2 + 0 ≤ _), (by decide : 7 + 0 ≤ _)⟩)
  dsimp only [Pt.U, Pt.locs, Pt.cells, Pt.slots] at X12 l12 y12 z12 st12 hQ12
  subst l12 y12 z12
  obtain ⟨rfl, Nq12, Kc12, g112, g212, g312⟩ := hQ12
  have N12 := Fr.app N11 Nq12
  have Z12 : n0 ≤ T12.heap.size := Nat.le_trans Z11 Kc12.1
  have c12_Vb1 := c11_Vb1.keep Kc12 (ninS ne_b1_b7 nin0)
  have c12_Eb7 := c11_Eb7.keep Kc12
  refine own_goT (S' := (T12.setTop (mkF m 66 #[.val (.int i0), .val (.int i1), .val (.int i2), .val (.int i3), .val (.ref b1), .val (.ref b7), .val (.int ((nar .byte (i0.toInt8.toInt32)) &&& (255 : Int32))), .val (.int ((nar .byte (i1.toInt8.toInt32)) &&& (255 : Int32))), .val (.int ((nar .byte (i2.toInt8.toInt32)) &&& (255 : Int32))), .unset] [(.int ((nar .byte (i3.toInt8.toInt32)) &&& (255 : Int32)))]))) st12 ?_
  refine own_go (S' := (T12.setTop (mkF m 70 #[.val (.int i0), .val (.int i1), .val (.int i2), .val (.int i3), .val (.ref b1), .val (.ref b7), .val (.int ((nar .byte (i0.toInt8.toInt32)) &&& (255 : Int32))), .val (.int ((nar .byte (i1.toInt8.toInt32)) &&& (255 : Int32))), .val (.int ((nar .byte (i2.toInt8.toInt32)) &&& (255 : Int32))), .val (.int ((nar .byte (i3.toInt8.toInt32)) &&& (255 : Int32)))] [(.ref b7)]))) (fun _ k => XS.istore X12.here hx rfl (hb hby at_66) rfl (l' := #[.val (.int i0), .val (.int i1), .val (.int i2), .val (.int i3), .val (.ref b1), .val (.ref b7), .val (.int ((nar .byte (i0.toInt8.toInt32)) &&& (255 : Int32))), .val (.int ((nar .byte (i1.toInt8.toInt32)) &&& (255 : Int32))), .val (.int ((nar .byte (i2.toInt8.toInt32)) &&& (255 : Int32))), .val (.int ((nar .byte (i3.toInt8.toInt32)) &&& (255 : Int32)))]) rfl (XS.aload X12.here hx rfl (hb hby at_68) rfl rfl k)) ?_
  obtain ⟨cq13, kq13, q13a, q13b, q13c⟩ := isOf hZ rfl c12_Eb7
  obtain ⟨v13, _, ⟨T13, L13, k13, n13⟩, -, X13, ⟨Lc13, hQ13, l13, y13, z13⟩, st13⟩ := X12.virtualBack hx (y := (⟨"com/example/quorumkeel/quorumkeel/protocol/Encoding$Reader", "end", "()V"⟩ : MethodName)) (z := (⟨"com/example/quorumkeel/quorumkeel/protocol/Encoding$Reader", "end", "()V"⟩ : MethodName)) hown (mvT hZ (hw _ (List.mem_of_getElem? (i := 24) rfl))) (mvT hZ (hw _ (List.mem_of_getElem? (i := 25) rfl))) (notFace_of_selects (args := #[]) (mvT hZ (hw _ (List.mem_of_getElem? (i := 27) rfl)))) (mvT hZ (hw _ (List.mem_of_getElem? (i := 27) rfl))) (mvT hZ (hw _ (List.mem_of_getElem? (i := 26) rfl))) (by decide) (backOf (W := 0) (rm5 l Z a0 hw [] b7 (4 : Int32) (((((0 : Int32) + (1 : Int32)) + (1 : Int32)) + (1 : Int32)) + (1 : Int32)) T12.heap n0 Z12 g212 g312 (by decide)) hZ (hw _ (List.mem_of_getElem? (i := 28) rfl)) (hw _ (List.mem_of_getElem? (i := 3) rfl)) (by decide) (by decide)) q13a q13c (g := (mkF m 70 #[.val (.int i0), .val (.int i1), .val (.int i2), .val (.int i3), .val (.ref b1), .val (.ref b7), .val (.int ((nar .byte (i0.toInt8.toInt32)) &&& (255 : Int32))), .val (.int ((nar .byte (i1.toInt8.toInt32)) &&& (255 : Int32))), .val (.int ((nar .byte (i2.toInt8.toInt32)) &&& (255 : Int32))), .val (.int ((nar .byte (i3.toInt8.toInt32)) &&& (255 : Int32)))] [(.ref b7)])) rfl (by rw [hml]; rfl) (Steps.refl _) (argsL := []) (rest := []) (lenOf pd_52 rfl) rfl (by show 2 * 0 + _ ≤ _; exact Nat.le_of_eq rfl) (hb hby at_70) (fun _ _ => ⟨rfl, rfl, (by decide : 2 + 0 ≤ _), (by decide : 7 + 0 ≤ _)⟩)
  dsimp only [Pt.U, Pt.locs, Pt.cells, Pt.slots] at X13 l13 y13 z13 st13 hQ13
  subst l13 y13 z13
  obtain ⟨rfl, eh13, rfl⟩ := hQ13
  refine own_goT (S' := (T13.setTop (mkF m 73 #[.val (.int i0), .val (.int i1), .val (.int i2), .val (.int i3), .val (.ref b1), .val (.ref b7), .val (.int ((nar .byte (i0.toInt8.toInt32)) &&& (255 : Int32))), .val (.int ((nar .byte (i1.toInt8.toInt32)) &&& (255 : Int32))), .val (.int ((nar .byte (i2.toInt8.toInt32)) &&& (255 : Int32))), .val (.int ((nar .byte (i3.toInt8.toInt32)) &&& (255 : Int32)))] []))) st13 ?_
  refine own_go (S' := (T13.setTop (mkF m 76 #[.val (.int i0), .val (.int i1), .val (.int i2), .val (.int i3), .val (.ref b1), .val (.ref b7), .val (.int ((nar .byte (i0.toInt8.toInt32)) &&& (255 : Int32))), .val (.int ((nar .byte (i1.toInt8.toInt32)) &&& (255 : Int32))), .val (.int ((nar .byte (i2.toInt8.toInt32)) &&& (255 : Int32))), .val (.int ((nar .byte (i3.toInt8.toInt32)) &&& (255 : Int32)))] [(.int i0), (.int ((nar .byte (i0.toInt8.toInt32)) &&& (255 : Int32)))]))) (fun _ k => XS.iload X13.here hx rfl (hb hby at_73) rfl (XS.iloadN X13.here hx rfl (hb hby at_75) rfl k)) ?_
  obtain ⟨v14, _, ⟨T14, L14, k14, n14⟩, -, X14, ⟨Lc14, hQ14, l14, y14, z14⟩, st14⟩ := Jvm.LawKit.callS X13 hx (y := (⟨"com/example/quorumkeel/quorumkeel/protocol/ReaderReadBytePinLaw", "unsigned", "(I)I"⟩ : MethodName)) hown (mvT hZ (hw _ (List.mem_of_getElem? (i := 29) rfl))) (mvT hZ (hw _ (List.mem_of_getElem? (i := 30) rfl))) (mvT hZ (hw _ (List.mem_of_getElem? (i := 31) rfl))) (mvT hZ (hw _ (List.mem_of_getElem? (i := 32) rfl))) (by decide) (backOf (W := 1) (rm6 l Z a0 hw [] i0 T12.heap n0 Z12) hZ (hw _ (List.mem_of_getElem? (i := 32) rfl)) (hw _ (List.mem_of_getElem? (i := 31) rfl)) (by decide) (by decide)) (g := (mkF m 76 #[.val (.int i0), .val (.int i1), .val (.int i2), .val (.int i3), .val (.ref b1), .val (.ref b7), .val (.int ((nar .byte (i0.toInt8.toInt32)) &&& (255 : Int32))), .val (.int ((nar .byte (i1.toInt8.toInt32)) &&& (255 : Int32))), .val (.int ((nar .byte (i2.toInt8.toInt32)) &&& (255 : Int32))), .val (.int ((nar .byte (i3.toInt8.toInt32)) &&& (255 : Int32)))] [(.int i0), (.int ((nar .byte (i0.toInt8.toInt32)) &&& (255 : Int32)))])) rfl (by rw [hml]; rfl) (argsL := [(.int i0)]) (rest := [(.int ((nar .byte (i0.toInt8.toInt32)) &&& (255 : Int32)))]) (lenOf pd_53 rfl) rfl (by show 2 * 0 + _ ≤ _; exact Nat.le_of_eq rfl) (hb hby at_76) (fun _ _ => ⟨rfl, eh13, (by decide : 2 + 0 ≤ _), (by decide : 7 + 0 ≤ _)⟩)
  dsimp only [Pt.U, Pt.locs, Pt.cells, Pt.slots] at X14 l14 y14 z14 st14 hQ14
  subst l14 y14 z14
  obtain ⟨rfl, eh14, rfl⟩ := hQ14
  refine own_go (S' := (T14.setTop (mkF m 79 #[.val (.int i0), .val (.int i1), .val (.int i2), .val (.int i3), .val (.ref b1), .val (.ref b7), .val (.int ((nar .byte (i0.toInt8.toInt32)) &&& (255 : Int32))), .val (.int ((nar .byte (i1.toInt8.toInt32)) &&& (255 : Int32))), .val (.int ((nar .byte (i2.toInt8.toInt32)) &&& (255 : Int32))), .val (.int ((nar .byte (i3.toInt8.toInt32)) &&& (255 : Int32)))] [(.int ((i0 % (256 : Int32) + (256 : Int32)) % (256 : Int32))), (.int ((nar .byte (i0.toInt8.toInt32)) &&& (255 : Int32)))]))) st14 ?_
  refine own_go (S' := (T14.setTop (mkF m 85 #[.val (.int i0), .val (.int i1), .val (.int i2), .val (.int i3), .val (.ref b1), .val (.ref b7), .val (.int ((nar .byte (i0.toInt8.toInt32)) &&& (255 : Int32))), .val (.int ((nar .byte (i1.toInt8.toInt32)) &&& (255 : Int32))), .val (.int ((nar .byte (i2.toInt8.toInt32)) &&& (255 : Int32))), .val (.int ((nar .byte (i3.toInt8.toInt32)) &&& (255 : Int32)))] [(.int i1), (.int ((nar .byte (i1.toInt8.toInt32)) &&& (255 : Int32)))]))) (fun _ k => XS.icmpNo X14.here hx rfl (hb hby at_79) rfl (teq (own_un i0)).2 (XS.iload X14.here hx rfl (hb hby at_82) rfl (XS.iloadN X14.here hx rfl (hb hby at_84) rfl k))) ?_
  obtain ⟨v15, _, ⟨T15, L15, k15, n15⟩, -, X15, ⟨Lc15, hQ15, l15, y15, z15⟩, st15⟩ := Jvm.LawKit.callS X14 hx (y := (⟨"com/example/quorumkeel/quorumkeel/protocol/ReaderReadBytePinLaw", "unsigned", "(I)I"⟩ : MethodName)) hown (mvT hZ (hw _ (List.mem_of_getElem? (i := 29) rfl))) (mvT hZ (hw _ (List.mem_of_getElem? (i := 30) rfl))) (mvT hZ (hw _ (List.mem_of_getElem? (i := 31) rfl))) (mvT hZ (hw _ (List.mem_of_getElem? (i := 32) rfl))) (by decide) (backOf (W := 1) (rm6 l Z a0 hw [] i1 T12.heap n0 Z12) hZ (hw _ (List.mem_of_getElem? (i := 32) rfl)) (hw _ (List.mem_of_getElem? (i := 31) rfl)) (by decide) (by decide)) (g := (mkF m 85 #[.val (.int i0), .val (.int i1), .val (.int i2), .val (.int i3), .val (.ref b1), .val (.ref b7), .val (.int ((nar .byte (i0.toInt8.toInt32)) &&& (255 : Int32))), .val (.int ((nar .byte (i1.toInt8.toInt32)) &&& (255 : Int32))), .val (.int ((nar .byte (i2.toInt8.toInt32)) &&& (255 : Int32))), .val (.int ((nar .byte (i3.toInt8.toInt32)) &&& (255 : Int32)))] [(.int i1), (.int ((nar .byte (i1.toInt8.toInt32)) &&& (255 : Int32)))])) rfl (by rw [hml]; rfl) (argsL := [(.int i1)]) (rest := [(.int ((nar .byte (i1.toInt8.toInt32)) &&& (255 : Int32)))]) (lenOf pd_53 rfl) rfl (by show 2 * 0 + _ ≤ _; exact Nat.le_of_eq rfl) (hb hby at_85) (fun _ _ => ⟨rfl, eh14, (by decide : 2 + 0 ≤ _), (by decide : 7 + 0 ≤ _)⟩)
  dsimp only [Pt.U, Pt.locs, Pt.cells, Pt.slots] at X15 l15 y15 z15 st15 hQ15
  subst l15 y15 z15
  obtain ⟨rfl, eh15, rfl⟩ := hQ15
  refine own_go (S' := (T15.setTop (mkF m 88 #[.val (.int i0), .val (.int i1), .val (.int i2), .val (.int i3), .val (.ref b1), .val (.ref b7), .val (.int ((nar .byte (i0.toInt8.toInt32)) &&& (255 : Int32))), .val (.int ((nar .byte (i1.toInt8.toInt32)) &&& (255 : Int32))), .val (.int ((nar .byte (i2.toInt8.toInt32)) &&& (255 : Int32))), .val (.int ((nar .byte (i3.toInt8.toInt32)) &&& (255 : Int32)))] [(.int ((i1 % (256 : Int32) + (256 : Int32)) % (256 : Int32))), (.int ((nar .byte (i1.toInt8.toInt32)) &&& (255 : Int32)))]))) st15 ?_
  refine own_go (S' := (T15.setTop (mkF m 94 #[.val (.int i0), .val (.int i1), .val (.int i2), .val (.int i3), .val (.ref b1), .val (.ref b7), .val (.int ((nar .byte (i0.toInt8.toInt32)) &&& (255 : Int32))), .val (.int ((nar .byte (i1.toInt8.toInt32)) &&& (255 : Int32))), .val (.int ((nar .byte (i2.toInt8.toInt32)) &&& (255 : Int32))), .val (.int ((nar .byte (i3.toInt8.toInt32)) &&& (255 : Int32)))] [(.int i2), (.int ((nar .byte (i2.toInt8.toInt32)) &&& (255 : Int32)))]))) (fun _ k => XS.icmpNo X15.here hx rfl (hb hby at_88) rfl (teq (own_un i1)).2 (XS.iload X15.here hx rfl (hb hby at_91) rfl (XS.iloadN X15.here hx rfl (hb hby at_93) rfl k))) ?_
  obtain ⟨v16, _, ⟨T16, L16, k16, n16⟩, -, X16, ⟨Lc16, hQ16, l16, y16, z16⟩, st16⟩ := Jvm.LawKit.callS X15 hx (y := (⟨"com/example/quorumkeel/quorumkeel/protocol/ReaderReadBytePinLaw", "unsigned", "(I)I"⟩ : MethodName)) hown (mvT hZ (hw _ (List.mem_of_getElem? (i := 29) rfl))) (mvT hZ (hw _ (List.mem_of_getElem? (i := 30) rfl))) (mvT hZ (hw _ (List.mem_of_getElem? (i := 31) rfl))) (mvT hZ (hw _ (List.mem_of_getElem? (i := 32) rfl))) (by decide) (backOf (W := 1) (rm6 l Z a0 hw [] i2 T12.heap n0 Z12) hZ (hw _ (List.mem_of_getElem? (i := 32) rfl)) (hw _ (List.mem_of_getElem? (i := 31) rfl)) (by decide) (by decide)) (g := (mkF m 94 #[.val (.int i0), .val (.int i1), .val (.int i2), .val (.int i3), .val (.ref b1), .val (.ref b7), .val (.int ((nar .byte (i0.toInt8.toInt32)) &&& (255 : Int32))), .val (.int ((nar .byte (i1.toInt8.toInt32)) &&& (255 : Int32))), .val (.int ((nar .byte (i2.toInt8.toInt32)) &&& (255 : Int32))), .val (.int ((nar .byte (i3.toInt8.toInt32)) &&& (255 : Int32)))] [(.int i2), (.int ((nar .byte (i2.toInt8.toInt32)) &&& (255 : Int32)))])) rfl (by rw [hml]; rfl) (argsL := [(.int i2)]) (rest := [(.int ((nar .byte (i2.toInt8.toInt32)) &&& (255 : Int32)))]) (lenOf pd_53 rfl) rfl (by show 2 * 0 + _ ≤ _; exact Nat.le_of_eq rfl) (hb hby at_94) (fun _ _ => ⟨rfl, eh15, (by decide : 2 + 0 ≤ _), (by decide : 7 + 0 ≤ _)⟩)
  dsimp only [Pt.U, Pt.locs, Pt.cells, Pt.slots] at X16 l16 y16 z16 st16 hQ16
  subst l16 y16 z16
  obtain ⟨rfl, eh16, rfl⟩ := hQ16
  refine own_go (S' := (T16.setTop (mkF m 97 #[.val (.int i0), .val (.int i1), .val (.int i2), .val (.int i3), .val (.ref b1), .val (.ref b7), .val (.int ((nar .byte (i0.toInt8.toInt32)) &&& (255 : Int32))), .val (.int ((nar .byte (i1.toInt8.toInt32)) &&& (255 : Int32))), .val (.int ((nar .byte (i2.toInt8.toInt32)) &&& (255 : Int32))), .val (.int ((nar .byte (i3.toInt8.toInt32)) &&& (255 : Int32)))] [(.int ((i2 % (256 : Int32) + (256 : Int32)) % (256 : Int32))), (.int ((nar .byte (i2.toInt8.toInt32)) &&& (255 : Int32)))]))) st16 ?_
  refine own_go (S' := (T16.setTop (mkF m 103 #[.val (.int i0), .val (.int i1), .val (.int i2), .val (.int i3), .val (.ref b1), .val (.ref b7), .val (.int ((nar .byte (i0.toInt8.toInt32)) &&& (255 : Int32))), .val (.int ((nar .byte (i1.toInt8.toInt32)) &&& (255 : Int32))), .val (.int ((nar .byte (i2.toInt8.toInt32)) &&& (255 : Int32))), .val (.int ((nar .byte (i3.toInt8.toInt32)) &&& (255 : Int32)))] [(.int i3), (.int ((nar .byte (i3.toInt8.toInt32)) &&& (255 : Int32)))]))) (fun _ k => XS.icmpNo X16.here hx rfl (hb hby at_97) rfl (teq (own_un i2)).2 (XS.iload X16.here hx rfl (hb hby at_100) rfl (XS.iloadN X16.here hx rfl (hb hby at_102) rfl k))) ?_
  obtain ⟨v17, _, ⟨T17, L17, k17, n17⟩, -, X17, ⟨Lc17, hQ17, l17, y17, z17⟩, st17⟩ := Jvm.LawKit.callS X16 hx (y := (⟨"com/example/quorumkeel/quorumkeel/protocol/ReaderReadBytePinLaw", "unsigned", "(I)I"⟩ : MethodName)) hown (mvT hZ (hw _ (List.mem_of_getElem? (i := 29) rfl))) (mvT hZ (hw _ (List.mem_of_getElem? (i := 30) rfl))) (mvT hZ (hw _ (List.mem_of_getElem? (i := 31) rfl))) (mvT hZ (hw _ (List.mem_of_getElem? (i := 32) rfl))) (by decide) (backOf (W := 1) (rm6 l Z a0 hw [] i3 T12.heap n0 Z12) hZ (hw _ (List.mem_of_getElem? (i := 32) rfl)) (hw _ (List.mem_of_getElem? (i := 31) rfl)) (by decide) (by decide)) (g := (mkF m 103 #[.val (.int i0), .val (.int i1), .val (.int i2), .val (.int i3), .val (.ref b1), .val (.ref b7), .val (.int ((nar .byte (i0.toInt8.toInt32)) &&& (255 : Int32))), .val (.int ((nar .byte (i1.toInt8.toInt32)) &&& (255 : Int32))), .val (.int ((nar .byte (i2.toInt8.toInt32)) &&& (255 : Int32))), .val (.int ((nar .byte (i3.toInt8.toInt32)) &&& (255 : Int32)))] [(.int i3), (.int ((nar .byte (i3.toInt8.toInt32)) &&& (255 : Int32)))])) rfl (by rw [hml]; rfl) (argsL := [(.int i3)]) (rest := [(.int ((nar .byte (i3.toInt8.toInt32)) &&& (255 : Int32)))]) (lenOf pd_53 rfl) rfl (by show 2 * 0 + _ ≤ _; exact Nat.le_of_eq rfl) (hb hby at_103) (fun _ _ => ⟨rfl, eh16, (by decide : 2 + 0 ≤ _), (by decide : 7 + 0 ≤ _)⟩)
  dsimp only [Pt.U, Pt.locs, Pt.cells, Pt.slots] at X17 l17 y17 z17 st17 hQ17
  subst l17 y17 z17
  obtain ⟨rfl, eh17, rfl⟩ := hQ17
  refine own_go (S' := (T17.setTop (mkF m 106 #[.val (.int i0), .val (.int i1), .val (.int i2), .val (.int i3), .val (.ref b1), .val (.ref b7), .val (.int ((nar .byte (i0.toInt8.toInt32)) &&& (255 : Int32))), .val (.int ((nar .byte (i1.toInt8.toInt32)) &&& (255 : Int32))), .val (.int ((nar .byte (i2.toInt8.toInt32)) &&& (255 : Int32))), .val (.int ((nar .byte (i3.toInt8.toInt32)) &&& (255 : Int32)))] [(.int ((i3 % (256 : Int32) + (256 : Int32)) % (256 : Int32))), (.int ((nar .byte (i3.toInt8.toInt32)) &&& (255 : Int32)))]))) st17 ?_
  refine own_go (S' := (T17.setTop (mkF m 114 #[.val (.int i0), .val (.int i1), .val (.int i2), .val (.int i3), .val (.ref b1), .val (.ref b7), .val (.int ((nar .byte (i0.toInt8.toInt32)) &&& (255 : Int32))), .val (.int ((nar .byte (i1.toInt8.toInt32)) &&& (255 : Int32))), .val (.int ((nar .byte (i2.toInt8.toInt32)) &&& (255 : Int32))), .val (.int ((nar .byte (i3.toInt8.toInt32)) &&& (255 : Int32)))] [(.int (1 : Int32))]))) (fun _ k => XS.icmpNo X17.here hx rfl (hb hby at_106) rfl (teq (own_un i3)).2 (XS.iconst X17.here hx rfl (hb hby at_109) (XS.goto X17.here hx rfl (pc0 := 110) (pc' := 114) rfl (hb hby at_110) (by decide) (by decide) k))) ?_
  refine own_retN (t := .boolean) X17 hx hlk (by simp) Bd.returns (hb hby at_114) (by decide) (by decide) ?_
  exact ⟨rfl, by simpa using N12⟩
set_option maxRecDepth 65536 in
set_option maxHeartbeats 40000000 in
theorem comes_1 {Post : Tables → Env → Array Value → State → Outcome → State → Prop} (hpost : ∀ tb e args s v u, (limb_1_1.after args s (.returned v) u = true ∧ limb_1_2.after args s (.returned v) u = true ∧ True) → FrameEnd s (.returned v) u (Jvm.fieldLocs frame_1_writes args s ++ Jvm.arrayLocs frame_1_arrays args s ++ Jvm.staticLocs frame_1_statics s) 16 128 → Post tb e args s (.returned v) u) :
    ArmFor flags0 classFile x code maxLocals ret World_1 tables_1 room_1 Calls_1 rest_1 Pre_1 Post := by
  intro l hfl _ _ p e ha hc hk s m args below hf hA hF happ hP
  obtain ⟨hcalls, hrest, hpre⟩ := hP
  obtain ⟨-, -, -, hnamed, -, -, -, hat⟩ := (Spec.applies_iff hf).mp happ
  obtain ⟨hg, hn⟩ := and_e (Cond.before_iff.mp (show (Jvm.Cond.and given_1 narrow_1).before args s = true from hpre))
  obtain ⟨h1, h2⟩ := and_e hg
  obtain ⟨w0, w1, w2, w3, rfl⟩ : ∃ w0 w1 w2 w3 : Value, args = #[w0, w1, w2, w3] := by
    have hs : args.size = 4 := by simpa [Cond.value, given_1] using h1
    obtain ⟨L⟩ := args
    match L, hs with
    | [w0, w1, w2, w3], _ => exact ⟨w0, w1, w2, w3, rfl⟩
  have hw := fun d (hd : d ∈ tables_1) => atoms_spec (ws := Jvm.Cond.code x code maxLocals ret :: tables_1) hat d (List.mem_cons_of_mem _ hd)
  have hfit : Fit s := fun {y c} hc i hi => by
    obtain ⟨ha, rfl⟩ := Array.getElem?_eq_some_iff.mp hc
    have q := List.all_eq_true.mp ((Array.all_eq_true_iff_forall_mem.mp hF) _ (Array.getElem_mem ha)) i (List.mem_range.mpr hi)
    simpa [Array.getElem?_eq_getElem hi] using q
  obtain ⟨hk0, hr0⟩ := and_e h2
  obtain ⟨i0, ev0⟩ := is_v hk0
  obtain rfl : w0 = (.int i0) := Option.some.inj ev0
  obtain ⟨hk1, hr1⟩ := and_e hr0
  obtain ⟨i1, ev1⟩ := is_v hk1
  obtain rfl : w1 = (.int i1) := Option.some.inj ev1
  obtain ⟨hk2, hr2⟩ := and_e hr1
  obtain ⟨i2, ev2⟩ := is_v hk2
  obtain rfl : w2 = (.int i2) := Option.some.inj ev2
  obtain ⟨i3, ev3⟩ := is_v hr2
  obtain rfl : w3 = (.int i3) := Option.some.inj ev3
  obtain ⟨n, o, h1, h2, h3, _, L, rfl, ⟨rfl, N⟩, hq⟩ := rm0 l s _ hw tables_1 i0 i1 i2 i3 s.heap s.heap.size (Nat.le_refl _) p e ha hc hk s m _ below hf ((Spec.applies_iff_loose hf).mp happ).1 ⟨rfl, State.Warmed39.refl s, rfl⟩ trivial
  refine ⟨n, _, h1, h2, h3, hpost _ _ _ _ _ _ ⟨Cond.after_iff.mpr rfl, Cond.after_iff.mpr (eq_i res_at (Term.int_eval (1)) rfl), trivial⟩ ⟨hq.1, hq.2.1, (hq.2.2.sift fun y hy => Or.inr (N y hy)).mono (by decide) (by decide)⟩⟩
theorem main_1_1 : Claimed_1_1 := comes_1 fun _ _ _ _ _ _ h hF => ⟨h.1, hF⟩
theorem main_1_2 : Claimed_1_2 := comes_1 fun _ _ _ _ _ _ h hF => ⟨h.2.1, hF⟩
end Jvm.Pilot.@@N@@
namespace Jvm.Pilot.@@N@@
open Jvm Jvm.ClassFile Sem Op Lib Jvm.Free Jvm.Stand Jvm.Pilot.@@N@@.Jvm.D
/-! MADE BY PROGRAM (witnessworld.py) out of the Statement's table words and the real class files: 9 classes; the members and pool entries that the words name. The judged class is class 1, her method 2. -/
namespace start1
open Jvm.ClassFile
def u (s : String) : CpInfo := .utf8 (stringToUtf16 s)
/-- a pool by its gaps: so many unusable entries, then the entry; so many at the end -/
def gap : Nat → List CpInfo → List CpInfo
  | 0, r => r
  | n + 1, r => .unusable :: gap n r
def poolList (es : List (Nat × CpInfo)) (last : Nat) : List CpInfo := es.foldr (fun e r => gap e.1 (e.2 :: r)) (gap last [])
def pool (es : List (Nat × CpInfo)) (last : Nat) : Array CpInfo := ⟨poolList es last⟩
def fileOf (pool : Array CpInfo) (this : Nat) (attrs : Array Attribute := #[]) (ms : Array MethodInfo := #[]) (fl : Nat := 33) (sup : Nat := 0) (ifs : Array Nat := #[]) (fds : Array FieldInfo := #[]) : ClassFile where
  minorVersion := 0
  majorVersion := 65
  constantPool := pool
  accessFlags := fl
  thisClass := this
  superClass := sup
  interfaces := ifs
  fields := fds
  methods := ms
  attributes := attrs
def plain (name : String) (sup : Option ClassId) : Class where
  name := name
  kind := .ordinary
  loader := none
  accessFlags := 33
  super := sup
  interfaces := #[]
  cf := none
  fields := #[]
  methods := #[]
  instanceTypes := #[]
  staticTypes := #[]
  resolved := #[]
  callSites := []
  init := .initialized
  statics := none
  mirror := none

def pool0 : Array CpInfo := pool [(5, u "<init>"), (0, u "()V"), (1, .class_ 10), (1, u "java/lang/Object")] 113

def k0c0 : Code := { maxStack := 0, maxLocals := 1, code := object_method_1_code, exceptionTable := #[], attributes := #[] }
def k0m0 : Method := { name := "<init>", desc := "()V", sig := { parameters := [], returnType := none }, accessFlags := 1, code := some k0c0 }
/-- java/lang/Object -/
def k0 : Class := { plain "java/lang/Object" none with
  accessFlags := 33
  interfaces := #[]
  cf := some (fileOf pool0 8 #[] #[{ accessFlags := 1, nameIndex := 5, descriptorIndex := 6, attributes := #[] }] 33 0 #[] #[])
  fields := #[]
  methods := #[k0m0]
  instanceTypes := #[]
  staticTypes := #[]
  resolved := Array.replicate 124 none
  statics := none }

def pool1 : Array CpInfo := pool [(2, .class_ 4), (1, u "java/lang/Object"), (0, u "<init>"), (0, u "()V"), (0, .class_ 8), (0, u "com/example/quorumkeel/quorumkeel/protocol/Encoding$Reader"), (0, .methodref 7 10), (0, .nameAndType 5 11), (0, u "([B)V"), (0, .methodref 7 13), (0, .nameAndType 14 15), (0, u "readByte"), (0, u "()I"), (0, .methodref 7 17), (0, .nameAndType 18 6), (0, u "end"), (0, .methodref 20 21), (0, .class_ 22), (0, .nameAndType 23 24), (0, u "com/example/quorumkeel/quorumkeel/protocol/ReaderReadBytePinLaw"), (0, u "unsigned"), (0, u "(I)I"), (2, u "law"), (0, u "(IIII)Z")] 9

def k1m0 : Method := { name := "<init>", desc := "()V", sig := { parameters := [], returnType := none }, accessFlags := 2, code := none }
def k1c1 : Code := { maxStack := 2, maxLocals := 1, code := method_2_code, exceptionTable := #[], attributes := #[] }
def k1m1 : Method := { name := "unsigned", desc := "(I)I", sig := { parameters := [.int], returnType := some .int }, accessFlags := 10, code := some k1c1 }
def k1c2 : Code := { maxStack := 3, maxLocals := 10, code := code, exceptionTable := #[], attributes := #[] }
def k1m2 : Method := { name := "law", desc := "(IIII)Z", sig := { parameters := [.int, .int, .int, .int], returnType := some .boolean }, accessFlags := 9, code := some k1c2 }
/-- com/example/quorumkeel/quorumkeel/protocol/ReaderReadBytePinLaw -/
def k1 : Class := { plain "com/example/quorumkeel/quorumkeel/protocol/ReaderReadBytePinLaw" (some 0) with
  accessFlags := 49
  interfaces := #[]
  cf := some (fileOf pool1 20 #[] #[{ accessFlags := 2, nameIndex := 5, descriptorIndex := 6, attributes := #[] }, { accessFlags := 10, nameIndex := 23, descriptorIndex := 24, attributes := #[] }, { accessFlags := 9, nameIndex := 27, descriptorIndex := 28, attributes := #[] }] 49 2 #[] #[])
  fields := #[]
  methods := #[k1m0, k1m1, k1m2]
  instanceTypes := #[]
  staticTypes := #[]
  resolved := Array.replicate 38 none
  statics := none }

def pool2 : Array CpInfo := pool [(1, .class_ 2), (0, u "com/example/quorumkeel/quorumkeel/protocol/Encoding"), (0, .methodref 4 5), (0, .class_ 6), (0, .nameAndType 7 8), (0, u "com/example/quorumkeel/quorumkeel/protocol/Encoding$Reader"), (0, u "<init>"), (0, u "([BI)V"), (0, .methodref 10 11), (0, .class_ 12), (0, .nameAndType 7 13), (0, u "java/lang/Object"), (0, u "()V"), (0, .fieldref 4 15), (0, .nameAndType 16 17), (0, u "bytes"), (0, u "[B"), (0, .fieldref 4 19), (0, .nameAndType 20 21), (0, u "limit"), (0, u "I"), (17, u "readByte"), (0, u "()I"), (66, .fieldref 4 108), (0, .nameAndType 109 21), (0, u "position"), (111, u "([B)V"), (17, u "end")] 70

def k2c0 : Code := { maxStack := 3, maxLocals := 2, code := prog_19_method_1_code, exceptionTable := #[], attributes := #[] }
def k2m0 : Method := { name := "<init>", desc := "([B)V", sig := { parameters := [(.array .byte)], returnType := none }, accessFlags := 0, code := some k2c0 }
def k2c1 : Code := { maxStack := 2, maxLocals := 3, code := prog_19_method_2_code, exceptionTable := #[], attributes := #[] }
def k2m1 : Method := { name := "<init>", desc := "([BI)V", sig := { parameters := [(.array .byte), .int], returnType := none }, accessFlags := 2, code := some k2c1 }
def k2c2 : Code := { maxStack := 5, maxLocals := 1, code := prog_19_method_5_code, exceptionTable := #[], attributes := #[] }
def k2m2 : Method := { name := "readByte", desc := "()I", sig := { parameters := [], returnType := some .int }, accessFlags := 0, code := some k2c2 }
def k2c3 : Code := { maxStack := 3, maxLocals := 1, code := prog_19_method_15_code, exceptionTable := #[], attributes := #[] }
def k2m3 : Method := { name := "end", desc := "()V", sig := { parameters := [], returnType := none }, accessFlags := 0, code := some k2c3 }
/-- com/example/quorumkeel/quorumkeel/protocol/Encoding$Reader -/
def k2 : Class := { plain "com/example/quorumkeel/quorumkeel/protocol/Encoding$Reader" (some 0) with
  accessFlags := 48
  interfaces := #[]
  cf := some (fileOf pool2 4 #[.nestHost 1] #[{ accessFlags := 0, nameIndex := 7, descriptorIndex := 221, attributes := #[] }, { accessFlags := 2, nameIndex := 7, descriptorIndex := 8, attributes := #[] }, { accessFlags := 0, nameIndex := 39, descriptorIndex := 40, attributes := #[] }, { accessFlags := 0, nameIndex := 239, descriptorIndex := 13, attributes := #[] }] 48 10 #[] #[{ accessFlags := 18, nameIndex := 16, descriptorIndex := 17, attributes := #[] }, { accessFlags := 18, nameIndex := 20, descriptorIndex := 21, attributes := #[] }, { accessFlags := 2, nameIndex := 109, descriptorIndex := 21, attributes := #[] }])
  fields := #[{ name := "bytes", type := (.array .byte), accessFlags := 18, slot := 0, constantValue := 0 }, { name := "limit", type := .int, accessFlags := 18, slot := 1, constantValue := 0 }, { name := "position", type := .int, accessFlags := 2, slot := 2, constantValue := 0 }]
  methods := #[k2m0, k2m1, k2m2, k2m3]
  instanceTypes := #[(.array .byte), .int, .int]
  staticTypes := #[]
  resolved := Array.replicate 310 none
  statics := none }

def pool3 : Array CpInfo := pool [(1, u "java/lang/Cloneable"), (0, .class_ 1), (0, u "java/lang/Object"), (0, .class_ 3)] 3

/-- java/lang/Cloneable -/
def k3 : Class := { plain "java/lang/Cloneable" (some 0) with
  accessFlags := 1537
  interfaces := #[]
  cf := some (fileOf pool3 2 #[] #[] 1537 4 #[] #[])
  fields := #[]
  methods := #[]
  instanceTypes := #[]
  staticTypes := #[]
  resolved := Array.replicate 8 none
  statics := none }

def pool4 : Array CpInfo := pool [(1, u "java/io/Serializable"), (0, .class_ 1), (0, u "java/lang/Object"), (0, .class_ 3)] 3

/-- java/io/Serializable -/
def k4 : Class := { plain "java/io/Serializable" (some 0) with
  accessFlags := 1537
  interfaces := #[]
  cf := some (fileOf pool4 2 #[] #[] 1537 4 #[] #[])
  fields := #[]
  methods := #[]
  instanceTypes := #[]
  staticTypes := #[]
  resolved := Array.replicate 8 none
  statics := none }

/-- the primitive byte -/
def k5 : Class := { plain "byte" none with kind := .primitive 'B', accessFlags := 0x411 }
/-- [B -/
def k6 : Class := { plain "[B" (some 0) with kind := .array 5 .byte, interfaces := #[3, 4], accessFlags := 1041 }

/-- the primitive int -/
def k7 : Class := { plain "int" none with kind := .primitive 'I', accessFlags := 0x411 }
/-- [I -/
def k8 : Class := { plain "[I" (some 0) with kind := .array 7 .int, interfaces := #[3, 4], accessFlags := 1041 }

def heap : Heap := #[]
def classes : Array Class := #[k0, k1, k2, k3, k4, k5, k6, k7, k8]
def interned : List (Array UInt16 × Addr) := []
def slotsUsed : Nat := 0
def theMethod : MethodId := ⟨1, 2⟩
def args0 : Array Value := #[.int 5, .int 300, .int 7, .int 9]
def aboutOver (below : List Frame) : State where
  vm := { classes := classes, interned := interned.toArray }
  heap := heap
  slotsUsed := slotsUsed
  threads := #[{ frames := .invoking theMethod args0 :: below }]
def below0 : List Frame := [.native { method := ⟨0, 0⟩, args := #[] }]
def about1 : State := aboutOver below0
def p0 : Program := .bare "" "" ""
def e0 : Env := launch0.env 0 0 0
theorem w_frames : about1.frames = Frame.invoking theMethod args0 :: below0 := rfl
set_option maxRecDepth 65536 in
theorem w_args : argsFit about1.vm theMethod args0 = true := by decide +kernel
set_option maxRecDepth 65536 in
theorem w_heap : heapFits about1 = true := by decide +kernel
set_option maxRecDepth 65536 in
theorem w_runnable : about1.curStatus? = some .runnable := by decide +kernel
set_option maxRecDepth 65536 in
theorem w_alone : about1.alone = true := by decide +kernel
set_option maxRecDepth 65536 in
theorem w_named : about1.methodNamed? x = some theMethod := by decide +kernel
set_option maxRecDepth 65536 in
theorem w_hears : about1.hears theMethod below0 = true := by decide +kernel
set_option maxRecDepth 65536 in
theorem w_ripe : about1.ripe theMethod args0 below0 = true := by decide +kernel
theorem w_running : about1.status = .running := rfl
set_option maxRecDepth 65536 in
theorem w_room : about1.hasRoom e0.platform room_1 = true :=
  launch0.hasRoom_least _ room_1 (by decide +kernel) (by decide +kernel) (by decide +kernel) (by decide +kernel) (by decide +kernel) (by decide +kernel)
theorem allAtoms_all (ts : List Jvm.Cond) (a : Array Jvm.Value) (st : Jvm.State) : (allAtoms ts).before a st = ts.all (fun c => c.before a st) := by
  induction ts with
  | nil => rfl
  | cons c t ih =>
    show (Jvm.Cond.and c (allAtoms t)).before a st = _
    rw [Jvm.Cond.before_and, ih, List.all_cons]
def words1 : List Jvm.Cond := Jvm.Cond.code x code maxLocals ret :: tables_1
/-- a 'code' word, met by the world's own term for the bytes: nothing is compared byte by byte -/
theorem code_word {y : MethodName} {bytes : ByteArray} {mx : Nat} {rt : Option FieldType} {a : Array Value} {s : State} {m : MethodId} {meth : Method} {c : Code} (h1 : s.methodNamed? y = some m) (h2 : s.vm.method? m = some meth) (h3 : meth.code = some c) (h4 : c.code = bytes)
    (h5 : (c.maxLocals == mx && c.exceptionTable.isEmpty && decide (c.maxStack ≤ mostOperands) && decide (meth.sig.returnType = rt) && !meth.locks && decide (parseMethodDescriptor y.desc = some meth.sig)) = true) : (Jvm.Cond.code y bytes mx rt).before a s = true := by
  simp only [Bool.and_eq_true, beq_iff_eq, Bool.not_eq_true', decide_eq_true_eq] at h5
  obtain ⟨⟨⟨⟨⟨g1, g2⟩, g3⟩, g4⟩, g5⟩, g6⟩ := h5
  simp [Cond.before, Cond.holds, Cond.value, h1, h2, h3, h4, g1, g2, g3, g4, g5, g6]
def isCode : Jvm.Cond → Bool
  | .code _ _ _ _ => true
  | _ => false
theorem all_split {L : List Jvm.Cond} {P : Jvm.Cond → Bool} (h1 : L.all (fun c => isCode c || P c) = true) (h2 : ∀ c ∈ L.filter isCode, P c = true) : L.all P = true := by
  refine List.all_eq_true.mpr fun c hc => ?_
  have h := List.all_eq_true.mp h1 c hc
  rcases Bool.eq_false_or_eq_true (isCode c) with hi | hi
  · exact h2 c (List.mem_filter.mpr ⟨hc, hi⟩)
  · simpa [hi] using h
set_option maxRecDepth 65536 in
theorem w_c0 : (Jvm.Cond.code x code maxLocals ret).before args0 about1 = true := code_word (m := ⟨1, 2⟩) (meth := k1m2) (c := k1c2) (by decide +kernel) rfl rfl rfl (by decide +kernel)
set_option maxRecDepth 65536 in
theorem w_c1 : (Jvm.Cond.code ({ cls := "com/example/quorumkeel/quorumkeel/protocol/Encoding$Reader", name := "<init>", desc := "([B)V" } : Jvm.MethodName) prog_19_method_1_code (2 : Nat) (Option.none : Option Jvm.ClassFile.FieldType)).before args0 about1 = true := code_word (m := ⟨2, 0⟩) (meth := k2m0) (c := k2c0) (by decide +kernel) rfl rfl rfl (by decide +kernel)
set_option maxRecDepth 65536 in
theorem w_c2 : (Jvm.Cond.code ({ cls := "com/example/quorumkeel/quorumkeel/protocol/Encoding$Reader", name := "<init>", desc := "([BI)V" } : Jvm.MethodName) prog_19_method_2_code (3 : Nat) (Option.none : Option Jvm.ClassFile.FieldType)).before args0 about1 = true := code_word (m := ⟨2, 1⟩) (meth := k2m1) (c := k2c1) (by decide +kernel) rfl rfl rfl (by decide +kernel)
set_option maxRecDepth 65536 in
theorem w_c3 : (Jvm.Cond.code ({ cls := "java/lang/Object", name := "<init>", desc := "()V" } : Jvm.MethodName) object_method_1_code (1 : Nat) (Option.none : Option Jvm.ClassFile.FieldType)).before args0 about1 = true := code_word (m := ⟨0, 0⟩) (meth := k0m0) (c := k0c0) (by decide +kernel) rfl rfl rfl (by decide +kernel)
set_option maxRecDepth 65536 in
theorem w_c4 : (Jvm.Cond.code ({ cls := "com/example/quorumkeel/quorumkeel/protocol/Encoding$Reader", name := "readByte", desc := "()I" } : Jvm.MethodName) prog_19_method_5_code (1 : Nat) (Option.some Jvm.ClassFile.FieldType.int)).before args0 about1 = true := code_word (m := ⟨2, 2⟩) (meth := k2m2) (c := k2c2) (by decide +kernel) rfl rfl rfl (by decide +kernel)
set_option maxRecDepth 65536 in
theorem w_c5 : (Jvm.Cond.code ({ cls := "com/example/quorumkeel/quorumkeel/protocol/Encoding$Reader", name := "end", desc := "()V" } : Jvm.MethodName) prog_19_method_15_code (1 : Nat) (Option.none : Option Jvm.ClassFile.FieldType)).before args0 about1 = true := code_word (m := ⟨2, 3⟩) (meth := k2m3) (c := k2c3) (by decide +kernel) rfl rfl rfl (by decide +kernel)
set_option maxRecDepth 65536 in
theorem w_c6 : (Jvm.Cond.code ({ cls := "com/example/quorumkeel/quorumkeel/protocol/ReaderReadBytePinLaw", name := "unsigned", desc := "(I)I" } : Jvm.MethodName) method_2_code (1 : Nat) (Option.some Jvm.ClassFile.FieldType.int)).before args0 about1 = true := code_word (m := ⟨1, 1⟩) (meth := k1m1) (c := k1c1) (by decide +kernel) rfl rfl rfl (by decide +kernel)
def codes1 : List Jvm.Cond := [Jvm.Cond.code x code maxLocals ret, Jvm.Cond.code ({ cls := "com/example/quorumkeel/quorumkeel/protocol/Encoding$Reader", name := "<init>", desc := "([B)V" } : Jvm.MethodName) prog_19_method_1_code (2 : Nat) (Option.none : Option Jvm.ClassFile.FieldType), Jvm.Cond.code ({ cls := "com/example/quorumkeel/quorumkeel/protocol/Encoding$Reader", name := "<init>", desc := "([BI)V" } : Jvm.MethodName) prog_19_method_2_code (3 : Nat) (Option.none : Option Jvm.ClassFile.FieldType), Jvm.Cond.code ({ cls := "java/lang/Object", name := "<init>", desc := "()V" } : Jvm.MethodName) object_method_1_code (1 : Nat) (Option.none : Option Jvm.ClassFile.FieldType), Jvm.Cond.code ({ cls := "com/example/quorumkeel/quorumkeel/protocol/Encoding$Reader", name := "readByte", desc := "()I" } : Jvm.MethodName) prog_19_method_5_code (1 : Nat) (Option.some Jvm.ClassFile.FieldType.int), Jvm.Cond.code ({ cls := "com/example/quorumkeel/quorumkeel/protocol/Encoding$Reader", name := "end", desc := "()V" } : Jvm.MethodName) prog_19_method_15_code (1 : Nat) (Option.none : Option Jvm.ClassFile.FieldType), Jvm.Cond.code ({ cls := "com/example/quorumkeel/quorumkeel/protocol/ReaderReadBytePinLaw", name := "unsigned", desc := "(I)I" } : Jvm.MethodName) method_2_code (1 : Nat) (Option.some Jvm.ClassFile.FieldType.int)]
set_option maxRecDepth 65536 in
theorem codes_eq : words1.filter isCode = codes1 := rfl
theorem w_codes : ∀ c ∈ words1.filter isCode, c.before args0 about1 = true := by
  rw [codes_eq]
  intro c hc
  simp only [codes1, List.mem_cons, List.not_mem_nil, or_false] at hc
  rcases hc with rfl | rfl | rfl | rfl | rfl | rfl | rfl
  · exact w_c0
  · exact w_c1
  · exact w_c2
  · exact w_c3
  · exact w_c4
  · exact w_c5
  · exact w_c6
set_option maxRecDepth 65536 in
theorem w_t1 : (words1.take 24).all (fun c => isCode c || c.before args0 about1) = true := by decide +kernel
set_option maxRecDepth 65536 in
theorem w_t2 : (words1.drop 24).all (fun c => isCode c || c.before args0 about1) = true := by decide +kernel
theorem w_tables : (allAtoms (Jvm.Cond.code x code maxLocals ret :: tables_1)).before args0 about1 = true := by
  rw [allAtoms_all]
  show words1.all (fun c => c.before args0 about1) = true
  refine all_split ?_ w_codes
  rw [← List.take_append_drop 24 words1, List.all_append, w_t1, w_t2]
  rfl
set_option maxRecDepth 65536 in
theorem w_case : (Jvm.Cond.and given_1 narrow_1).before args0 about1 = true := by decide +kernel
theorem w_applies : (headSpec (Jvm.Cond.code x code maxLocals ret :: tables_1) room_1).applies x e0.platform about1 = true :=
  (Spec.applies_iff w_frames).mpr ⟨w_running, w_runnable, w_alone, w_named, w_hears, w_ripe, w_room, w_tables⟩
theorem atStart : AtStart classFile x code maxLocals ret World_1 tables_1 room_1 Calls_1 rest_1 Pre_1 launch0 p0 e0 about1 theMethod args0 below0 :=
  ⟨lists_1, trivial, launch0.admits_env _ _ _, launch0.least_env, fairChoices_fair.cas, fairChoices_fair.clock, w_frames, w_args, w_heap, w_applies, trivial, trivial, w_case⟩
end start1
theorem witness_1 : WitnessClaimed_1 := ⟨start1.p0, start1.e0, start1.about1, start1.theMethod, start1.args0, start1.below0, start1.atStart⟩
end Jvm.Pilot.@@N@@
